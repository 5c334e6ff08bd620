import PyProof.Rows.All
import PyProof.GenComp
import KE.KUnpack
import KE.KAssignIn
import KE.KLam
import KE.KDictList
import KE.KSortKey
import KE.KNestM
import KE.KRevIter
import KE.KSetDisp
import KE.KxDecode
import Wide.FinOn
import OpenK.AllK
import Wide.All
import Lean
import PySem.Challenge.RW_tp0065_02
set_option Elab.async false
set_option linter.all false
set_option tactic.hygienic false
set_option genInjectivity false
set_option genSizeOf false
set_option bootstrap.genMatcherCode false
set_option autoImplicit false
set_option maxRecDepth 100000
set_option maxHeartbeats 8000000
open PySem PySem.W PyProof.Rows PySem.Calls
namespace Mine
noncomputable section
noncomputable abbrev Qt:=@wpAny_bind
noncomputable abbrev Qu:=@wpAny_pure
noncomputable abbrev Qv:=@wpAny_mono
noncomputable abbrev Qw:=@wpAny_holding
noncomputable abbrev Qx:=@wpAny_standAt
noncomputable abbrev Qy:=@wpAny_of_eq
noncomputable abbrev Qz:=@wpAny_call_entry
noncomputable abbrev QA:=@wpAny_load
noncomputable abbrev QB:=@Heap.get?_push_of_some
noncomputable abbrev QC:=@Nat.le_trans
noncomputable abbrev QD:=@Nat.le_of_ble_eq_true
noncomputable abbrev QE:=@List.mem_cons_of_mem
noncomputable abbrev QF:=@Nat.le_refl
noncomputable abbrev QG:=@Heap.get?_push_size
noncomputable abbrev QH:=@if_neg
noncomputable abbrev QI:=@if_pos
noncomputable abbrev QJ:=@List.size_toArray
noncomputable abbrev QK:=@Nat.lt_succ_self
noncomputable abbrev QL:=@List.mem_cons_self
noncomputable abbrev QM:=@Bool.false_ne_true
noncomputable abbrev QN:=@sizeLine_eq
noncomputable abbrev QO:=@Heap.lt_size
noncomputable abbrev QP:=@Nat.eq_of_beq_eq_true
noncomputable abbrev QQ:=@Nat.ble_eq_true_of_le
noncomputable abbrev QR:=@decide_eq_false
noncomputable abbrev QS:=@decide_eq_true
noncomputable abbrev QT:=@Nat.not_lt_of_le
noncomputable abbrev QU:=@builtinType_eq_fast
noncomputable abbrev QV:=@List.mem_append_left
noncomputable abbrev QW:=@List.mem_append_right
noncomputable abbrev QX:=@Heap.get?_update_other
noncomputable abbrev QY:=@List.mem_of_getElem?
noncomputable abbrev QZ:=@Nat.lt_of_lt_of_le
noncomputable abbrev Q0:=@Nat.le_succ
noncomputable abbrev Q1:=@Heap.get?_push_ne
noncomputable abbrev Q2:=@codeAny_builtin
noncomputable abbrev Q3:=@Nat.zero_le
noncomputable abbrev Q4:=@Nat.lt_succ_of_lt
noncomputable abbrev Q6:=@wpAny_onRaise
noncomputable abbrev Q7:=@Nat.ne_of_gt
noncomputable abbrev Q8:=@Nat.ne_of_lt
noncomputable abbrev Q9:=@congrFun
noncomputable abbrev Ra:=@wpAny_rule
noncomputable abbrev Rb:=@Nat.lt_of_le_of_lt
noncomputable abbrev Rc:=@Nat.le_of_eq
noncomputable abbrev Re:=@of_decide_eq_true
noncomputable abbrev Rf:=@List.getElem?_toArray
noncomputable abbrev pw:Program:=PySem.Challenge.pw_tp0065_02
noncomputable def ac (b:List PySem.Stmt) (k:Nat):PySem.Stmt:=match b[k]? with
 | some s=>s
 | none=>.Pass default
noncomputable def fP (s:PySem.Stmt):List PySem.Stmt:=match s with
 | .ClassDef _ _ _ b _ _ _ _ _ _ _=>b
 | _=>[]
noncomputable def cS (x:String):Str:=Str.ofString x
noncomputable def bz (P:Params) (x:String) (t:Nat) (v:Value):DictEntry:=⟨PyData.keyHash P (Str.ofString x),.str (Str.ofString x) t,v⟩
noncomputable def d8 (s:PySem.Stmt) (q:Str) (gl:Addr) (df kd doc pm:Value) (an:Option Addr) (cd ct:Value) (bi:Addr):FuncData:=match s with
 | .FunctionDef nm ps b _ _ _ sc _ _ _=>⟨nm,q,ps,.stmts b,sc,gl,[],df,kd,doc,pm,an,cd,ct,bi⟩
 | _=>default
noncomputable def Qd (e:PySem.Expr):List (Option PySem.Expr)×Str:=match e with
 | .Dict ks _ _=>(ks,Str.empty)
 | .Constant (.str x) _ _=>([],x)
 | _=>([],Str.empty)
noncomputable def Qc (i:Nat):Str:=match ac (pw.main.body) 4 with
 | .Assign _ d _=>(match (Qd d).1[i]? with
  | some (some e)=>(Qd e).2
  | _=>Str.empty)
 | _=>Str.empty
noncomputable def Ki (P:Params) (i t:Nat) (v:Value):DictEntry:=⟨PyData.keyHash P (Qc i),.str (Qc i) t,v⟩
noncomputable def d9 (k:Nat):PySem.Stmt:=ac pw.main.body k
noncomputable def ae (x:String) (t:Nat):Value:=.str (cS x) t
noncomputable def ad (i:Int) (t:Nat):Value:=.int i t
noncomputable def aO (a:Nat) (n:Nat) (l:List Value):Addr×Obj:=(a,{cls:=.type "tuple",data:=.seq l.toArray n})
noncomputable def d6 (a:Nat) (l:List Value):Addr×Obj:=(a,{cls:=.type "code",data:=.fields l.toArray})
noncomputable def d7 (a:Nat) (f:FuncData):Addr×Obj:=(a,{cls:=.type "function",data:=.func f})
noncomputable def KH (P:Params):Frag:=[
(2,⟨.none,none,(.dict [bz P "\x69mport.loaded._sre" 183 (.bool true),bz P "class._frozen_importlib.BuiltinImporter" 185 (.ref 14),bz P "watched.\x69mport" 206 (.ref 18),bz P "class._frozen_importlib.ModuleSpec" 216 (.ref 22),bz P "sys.modules.booked-epoch" 245 (ad 3 0),bz P "\x69mport.later-laid._sre" 270 (.bool true),bz P "watched.library" 272 (.ref 27),bz P "watched.library-objects" 0 (ae "\x0c" 0),bz P "watched.library-deep._sre" 273 (ae "\x04\x00\x00\x0b\x04\x00\x00\x0b\x04\x00\x00\x03\x04\x00\x00\x0b\x08\x04dict\x02" 0)].toArray 9),#[]⟩),
(3,⟨(.type "dict"),none,(.dict [bz P "__name__" 165 (ae "law_tp0065_02" 872),bz P "__doc__" 166 .none,bz P "__package__" 167 .none,bz P "__loader__" 168 (.builtin "__main__.__loader__#opaque"),bz P "__spec__" 169 .none,bz P "__annotations__" 170 (.ref 6),bz P "__builtins__" 171 (.ref 4),bz P "__file__" 173 (ae "/claim/cut.py" 172),bz P "__cached__" 174 .none,bz P "_sre" 275 (.ref 12),bz P "_wall" 288 (.ref 38),bz P "_twin_re_1" 328 (.ref 43),bz P "_namespace_map" 350 (.ref 44),bz P "_raise_serialization_error" 357 (.ref 51),bz P "_looks_like_prefix_name" 359 (.ref 52),bz P "C14NWriterTarget" 524 (.ref 150),bz P "_escape_cdata_c14n" 531 (.ref 161),bz P "_escape_attrib_c14n" 538 (.ref 168),bz P "Int2AP" 550 (.ref 175),bz P "Whitespace" 652 (.ref 237),bz P "_name_disallowed_re" 680 (.ref 246),bz P "_value_disallowed_re" 714 (.ref 251),bz P "Headers" 871 (.ref 374),bz P "_law_word" 880 (.ref 385),bz P "_law_page" 892 (.ref 392),bz P "_law_found" 903 (.ref 399),bz P "_law_parents" 909 (.ref 404),bz P "_law_book" 921 (.ref 411),bz P "_law_owners" 935 (.ref 418),bz P "_law_written" 948 (.ref 425),bz P "_law_told" 963 (.ref 432),bz P "_law_least" 969 (.ref 437),bz P "_law_sights" 981 (.ref 444),bz P "law" 987 (.ref 449)].toArray 34),#[]⟩),
aO 32 0 [],
aO 34 0 [ae "k" 285],
aO 35 0 [],
d6 37 [ae "_wall" 282,ae "_wall" 283,ae "/claim/cut.py" 284,ad 2 0,ad 1 0,ad 0 0,ad 0 0,ad 3 0,.ref 32,.bool true,ad 276 0,.ref 33,.none,.ref 34,.ref 35,.ref 36,ad 286 0,ad 2 0,ae "/claim/cut.py" 287],
d7 38 (d8 (d9 1) (cS "_wall") 3 .none .none .none (ae "__main__" 164) none (.ref 37) .none 0),
aO 42 0 [ad 14 0,ad 4 0,ad 0 0,ad 3 0,ad 4294967295 0,ad 6 0,ad 0 0,ad 24 0,ad 9 0,ad 1 0,ad 4294967295 0,ad 13 0,ad 4 0,ad 8 0,ad 14 0,ad 0 0,ad 1 0,ad 16 0,ad 58 0,ad 24 0,ad 9 0,ad 1 0,ad 4294967295 0,ad 13 0,ad 4 0,ad 8 0,ad 14 0,ad 0 0,ad 1 0,ad 6 0,ad 5 0,ad 1 0],
(43,⟨(.type "re.Pattern"),none,(.fields [ae "^\\w+:\\w+$" 292,ad 32 327,ad 0 0,.none,.none,.ref 42,ad 0 0].toArray),#[]⟩),
(44,⟨(.type "dict"),none,(.dict [Ki P 0 329 (ae "xml" 330),Ki P 1 331 (ae "html" 332),Ki P 2 333 (ae "rdf" 334),Ki P 3 335 (ae "wsdl" 336),Ki P 4 337 (ae "xs" 338),Ki P 5 339 (ae "xsi" 340),Ki P 6 341 (ae "dc" 342)].toArray 7),#[]⟩),
aO 45 0 [],
aO 47 0 [ae "text" 354],
aO 48 0 [],
d6 50 [ae "_raise_serialization_error" 351,ae "_raise_serialization_error" 352,ae "/claim/cut.py" 353,ad 8 0,ad 1 0,ad 0 0,ad 0 0,ad 3 0,.ref 45,.bool true,ad 276 0,.ref 46,.none,.ref 47,.ref 48,.ref 49,ad 355 0,ad 8 0,ae "/claim/cut.py" 356],
d7 51 (d8 (d9 5) (cS "_raise_serialization_error") 3 .none .none .none (ae "cpy313.xml.etree.ElementTree" 289) none (.ref 50) .none 0),
(52,⟨(.type "builtin_function_or_method"),none,(.fields [.builtin "re.Pattern.match",.ref 43].toArray),#[]⟩),
(60,⟨(.type "dict"),none,(.dict [bz P "with_comments" 372 (.bool false),bz P "strip_text" 373 (.bool false),bz P "rewrite_prefixes" 374 (.bool false),bz P "qname_aware_tags" 375 .none,bz P "qname_aware_attrs" 376 .none,bz P "exclude_attrs" 377 .none,bz P "exclude_tags" 378 .none].toArray 7),#[]⟩),
aO 61 0 [],
aO 63 0 [ae "self" 382,ae "write" 383,ae "with_comments" 384,ae "strip_text" 385,ae "rewrite_prefixes" 386,ae "qname_aware_tags" 387,ae "qname_aware_attrs" 388,ae "exclude_attrs" 389,ae "exclude_tags" 390],
aO 64 0 [],
d6 66 [ae "__init__" 379,ae "C14NWriterTarget.__init__" 380,ae "/claim/cut.py" 381,ad 13 0,ad 2 0,ad 0 0,ad 7 0,ad 3 0,.ref 61,.bool true,ad 276 0,.ref 62,.none,.ref 63,.ref 64,.ref 65,ad 391 0,ad 13 0,ae "/claim/cut.py" 392],
d7 67 (d8 (ac (fP (d9 7)) 0) (cS "C14NWriterTarget.__init__") 3 .none (.ref 60) .none (ae "cpy313.xml.etree.ElementTree" 289) none (.ref 66) .none 0),
aO 68 0 [.type "reversed"],
aO 69 0 [],
aO 71 0 [ae "self" 397,ae "ns_stack" 398,ae "_reversed" 399,ae "namespaces" 400],
aO 72 0 [],
d6 74 [ae "_iter_namespaces" 394,ae "C14NWriterTarget._iter_namespaces" 395,ae "/claim/cut.py" 396,ad 41 0,ad 3 0,ad 0 0,ad 0 0,ad 35 0,.ref 69,.bool true,ad 276 0,.ref 70,.none,.ref 71,.ref 72,.ref 73,ad 401 0,ad 41 0,ae "/claim/cut.py" 402],
d7 75 (d8 (ac (fP (d9 7)) 1) (cS "C14NWriterTarget._iter_namespaces") 3 (.ref 68) .none .none (ae "cpy313.xml.etree.ElementTree" 289) none (.ref 74) .none 0),
aO 76 0 [],
aO 78 0 [ae "self" 407,ae "prefixed_name" 408,ae "prefix" 409,ae "name" 410,ae "uri" 411,ae "p" 412],
aO 79 0 [],
d6 81 [ae "_resolve_prefix_name" 404,ae "C14NWriterTarget._resolve_prefix_name" 405,ae "/claim/cut.py" 406,ad 46 0,ad 2 0,ad 0 0,ad 0 0,ad 3 0,.ref 76,.bool true,ad 276 0,.ref 77,.none,.ref 78,.ref 79,.ref 80,ad 413 0,ad 46 0,ae "/claim/cut.py" 414],
d7 82 (d8 (ac (fP (d9 7)) 2) (cS "C14NWriterTarget._resolve_prefix_name") 3 .none .none .none (ae "cpy313.xml.etree.ElementTree" 289) none (.ref 81) .none 0),
aO 83 0 [.none],
aO 84 0 [],
aO 86 0 [ae "self" 419,ae "qname" 420,ae "uri" 421,ae "tag" 422,ae "prefixes_seen" 423,ae "u" 424,ae "prefix" 425],
aO 87 0 [],
d6 89 [ae "_qname" 416,ae "C14NWriterTarget._qname" 417,ae "/claim/cut.py" 418,ad 53 0,ad 3 0,ad 0 0,ad 0 0,ad 3 0,.ref 84,.bool true,ad 276 0,.ref 85,.none,.ref 86,.ref 87,.ref 88,ad 426 0,ad 53 0,ae "/claim/cut.py" 427],
d7 90 (d8 (ac (fP (d9 7)) 3) (cS "C14NWriterTarget._qname") 3 (.ref 83) .none .none (ae "cpy313.xml.etree.ElementTree" 289) none (.ref 89) .none 0),
aO 91 0 [],
aO 93 0 [ae "self" 432,ae "data" 433],
aO 94 0 [],
d6 96 [ae "data" 429,ae "C14NWriterTarget.data" 430,ae "/claim/cut.py" 431,ad 80 0,ad 2 0,ad 0 0,ad 0 0,ad 3 0,.ref 91,.bool true,ad 276 0,.ref 92,.none,.ref 93,.ref 94,.ref 95,ad 434 0,ad 80 0,ae "/claim/cut.py" 435],
d7 97 (d8 (ac (fP (d9 7)) 4) (cS "C14NWriterTarget.data") 3 .none .none .none (ae "cpy313.xml.etree.ElementTree" 289) none (.ref 96) .none 0),
(98,⟨(.type "builtin_function_or_method"),none,(.fields [.builtin "str.join",ae "" 437].toArray),#[]⟩),
aO 99 0 [.ref 98],
aO 100 0 [],
aO 102 0 [ae "self" 442,ae "_join_text" 443,ae "data" 444,ae "args" 445,ae "qname_text" 446],
aO 103 0 [],
d6 105 [ae "_flush" 439,ae "C14NWriterTarget._flush" 440,ae "/claim/cut.py" 441,ad 84 0,ad 2 0,ad 0 0,ad 0 0,ad 3 0,.ref 100,.bool true,ad 276 0,.ref 101,.none,.ref 102,.ref 103,.ref 104,ad 447 0,ad 84 0,ae "/claim/cut.py" 448],
d7 106 (d8 (ac (fP (d9 7)) 5) (cS "C14NWriterTarget._flush") 3 (.ref 99) .none .none (ae "cpy313.xml.etree.ElementTree" 289) none (.ref 105) .none 0),
aO 107 0 [],
aO 109 0 [ae "self" 453,ae "prefix" 454,ae "uri" 455],
aO 110 0 [],
d6 112 [ae "start_ns" 450,ae "C14NWriterTarget.start_ns" 451,ae "/claim/cut.py" 452,ad 98 0,ad 3 0,ad 0 0,ad 0 0,ad 3 0,.ref 107,.bool true,ad 276 0,.ref 108,.none,.ref 109,.ref 110,.ref 111,ad 456 0,ad 98 0,ae "/claim/cut.py" 457],
d7 113 (d8 (ac (fP (d9 7)) 6) (cS "C14NWriterTarget.start_ns") 3 .none .none .none (ae "cpy313.xml.etree.ElementTree" 289) none (.ref 112) .none 0),
aO 114 0 [],
aO 116 0 [ae "self" 462,ae "tag" 463,ae "attrs" 464,ae "new_namespaces" 465],
aO 117 0 [],
d6 119 [ae "start" 459,ae "C14NWriterTarget.start" 460,ae "/claim/cut.py" 461,ad 101 0,ad 3 0,ad 0 0,ad 0 0,ad 3 0,.ref 114,.bool true,ad 276 0,.ref 115,.none,.ref 116,.ref 117,.ref 118,ad 466 0,ad 101 0,ae "/claim/cut.py" 467],
d7 120 (d8 (ac (fP (d9 7)) 7) (cS "C14NWriterTarget.start") 3 .none .none .none (ae "cpy313.xml.etree.ElementTree" 289) none (.ref 119) .none 0),
aO 121 0 [.none],
aO 122 0 [],
d6 125 [ae "_start" 469,ae "C14NWriterTarget._start" 470,ae "/claim/cut.py" 471,ad 114 0,ad 5 0,ad 0 0,ad 0 0,ad 3 0,.ref 122,.bool true,ad 276 0,.ref 123,.none,.none,.none,.ref 124,ad 472 0,ad 114 0,ae "/claim/cut.py" 473],
d7 126 (d8 (ac (fP (d9 7)) 8) (cS "C14NWriterTarget._start") 3 (.ref 121) .none .none (ae "cpy313.xml.etree.ElementTree" 289) none (.ref 125) .none 0),
aO 127 0 [],
aO 129 0 [ae "self" 478,ae "tag" 479],
aO 130 0 [],
d6 132 [ae "end" 475,ae "C14NWriterTarget.end" 476,ae "/claim/cut.py" 477,ad 159 0,ad 2 0,ad 0 0,ad 0 0,ad 3 0,.ref 127,.bool true,ad 276 0,.ref 128,.none,.ref 129,.ref 130,.ref 131,ad 480 0,ad 159 0,ae "/claim/cut.py" 481],
d7 133 (d8 (ac (fP (d9 7)) 9) (cS "C14NWriterTarget.end") 3 .none .none .none (ae "cpy313.xml.etree.ElementTree" 289) none (.ref 132) .none 0),
aO 134 0 [],
aO 136 0 [ae "self" 486,ae "text" 487],
aO 137 0 [],
d6 139 [ae "comment" 483,ae "C14NWriterTarget.comment" 484,ae "/claim/cut.py" 485,ad 171 0,ad 2 0,ad 0 0,ad 0 0,ad 3 0,.ref 134,.bool true,ad 276 0,.ref 135,.none,.ref 136,.ref 137,.ref 138,ad 488 0,ad 171 0,ae "/claim/cut.py" 489],
d7 140 (d8 (ac (fP (d9 7)) 10) (cS "C14NWriterTarget.comment") 3 .none .none .none (ae "cpy313.xml.etree.ElementTree" 289) none (.ref 139) .none 0),
aO 141 0 [],
aO 143 0 [ae "self" 494,ae "target" 495,ae "data" 496],
aO 144 0 [],
d6 146 [ae "pi" 491,ae "C14NWriterTarget.pi" 492,ae "/claim/cut.py" 493,ad 174 0,ad 3 0,ad 0 0,ad 0 0,ad 3 0,.ref 141,.bool true,ad 276 0,.ref 142,.none,.ref 143,.ref 144,.ref 145,ad 497 0,ad 174 0,ae "/claim/cut.py" 498],
d7 147 (d8 (ac (fP (d9 7)) 11) (cS "C14NWriterTarget.pi") 3 .none .none .none (ae "cpy313.xml.etree.ElementTree" 289) none (.ref 146) .none 0),
aO 148 0 [ae "_data" 500,ae "_declared_ns_stack" 501,ae "_exclude_attrs" 502,ae "_exclude_tags" 503,ae "_find_qname_aware_attrs" 504,ae "_ignored_depth" 505,ae "_ns_stack" 506,ae "_pending_start" 507,ae "_prefix_map" 508,ae "_preserve_space" 509,ae "_qname_aware_tags" 510,ae "_rewrite_prefixes" 511,ae "_root_done" 512,ae "_root_seen" 513,ae "_strip_text" 514,ae "_with_comments" 515,ae "_write" 516],
(149,⟨(.type "dict"),none,(.dict [bz P "__module__" 367 (ae "cpy313.xml.etree.ElementTree" 289),bz P "__firstlineno__" 371 (ad 11 370),bz P "__init__" 393 (.ref 67),bz P "_iter_namespaces" 403 (.ref 75),bz P "_resolve_prefix_name" 415 (.ref 82),bz P "_qname" 428 (.ref 90),bz P "data" 436 (.ref 97),bz P "_flush" 449 (.ref 106),bz P "start_ns" 458 (.ref 113),bz P "start" 468 (.ref 120),bz P "_start" 474 (.ref 126),bz P "end" 482 (.ref 133),bz P "comment" 490 (.ref 140),bz P "pi" 499 (.ref 147),bz P "__static_attributes__" 517 (.ref 148),bz P "__dict__" 519 (.ref 151),bz P "__weakref__" 521 (.ref 152),bz P "__doc__" 522 .none].toArray 4),#[]⟩),
(150,⟨(.type "type"),none,(.cls ⟨(cS "C14NWriterTarget"),[.type "object"],[.ref 150,(.type "object")],149,(cS "C14NWriterTarget"),true,[],[],false,none,false⟩),#[none,none,(some (ae "C14NWriterTarget" 360)),(some (ae "C14NWriterTarget" 368)),(some (.builtin "object.__new__")),(some (.bool true))]⟩),
(151,⟨(.type "getset_descriptor"),none,(.fields [ae "__dict__" 518,.ref 150,(.builtin "function.__dict__"),(.builtin "function.__dict__#set")].toArray),#[]⟩),
(152,⟨(.type "getset_descriptor"),none,(.fields [ae "__weakref__" 520,.ref 150,(.builtin "ExceptionGroup.__weakref__"),.none].toArray),#[]⟩),
aO 155 0 [],
aO 157 0 [ae "text" 528],
aO 158 0 [],
d6 160 [ae "_escape_cdata_c14n" 525,ae "_escape_cdata_c14n" 526,ae "/claim/cut.py" 527,ad 176 0,ad 1 0,ad 0 0,ad 0 0,ad 3 0,.ref 155,.bool true,ad 276 0,.ref 156,.none,.ref 157,.ref 158,.ref 159,ad 529 0,ad 176 0,ae "/claim/cut.py" 530],
d7 161 (d8 (d9 8) (cS "_escape_cdata_c14n") 3 .none .none .none (ae "cpy313.xml.etree.ElementTree" 289) none (.ref 160) .none 0),
aO 162 0 [],
aO 164 0 [ae "text" 535],
aO 165 0 [],
d6 167 [ae "_escape_attrib_c14n" 532,ae "_escape_attrib_c14n" 533,ae "/claim/cut.py" 534,ad 189 0,ad 1 0,ad 0 0,ad 0 0,ad 3 0,.ref 162,.bool true,ad 276 0,.ref 163,.none,.ref 164,.ref 165,.ref 166,ad 536 0,ad 189 0,ae "/claim/cut.py" 537],
d7 168 (d8 (d9 9) (cS "_escape_attrib_c14n") 3 .none .none .none (ae "cpy313.xml.etree.ElementTree" 289) none (.ref 167) .none 0),
aO 169 0 [],
aO 171 0 [ae "num" 544,ae "val" 545,ae "AP" 546,ae "mod" 547],
aO 172 0 [],
d6 174 [ae "Int2AP" 541,ae "Int2AP" 542,ae "/claim/cut.py" 543,ad 207 0,ad 1 0,ad 0 0,ad 0 0,ad 3 0,.ref 169,.bool true,ad 276 0,.ref 170,.none,.ref 171,.ref 172,.ref 173,ad 548 0,ad 207 0,ae "/claim/cut.py" 549],
d7 175 (d8 (d9 11) (cS "Int2AP") 3 .none .none .none (ae "cpy313.imaplib" 539) none (.ref 174) .none 0),
aO 186 0 [],
aO 188 0 [ae "self" 573,ae "ws" 574,ae "S" 575,ae "T" 576,ae "count" 577,ae "b" 578,ae "n" 579,ae "nt" 580,ae "ch" 581],
aO 189 0 [],
d6 191 [ae "__init__" 570,ae "Whitespace.__init__" 571,ae "/claim/cut.py" 572,ad 219 0,ad 2 0,ad 0 0,ad 0 0,ad 3 0,.ref 186,.bool true,ad 276 0,.ref 187,.none,.ref 188,.ref 189,.ref 190,ad 582 0,ad 219 0,ae "/claim/cut.py" 583],
d7 192 (d8 (ac (fP (d9 13)) 1) (cS "Whitespace.__init__") 3 .none .none .none (ae "cpy313.tabnanny" 551) none (.ref 191) .none 0),
aO 193 0 [],
aO 195 0 [ae "self" 588,ae "count" 589,ae "trailing" 590],
aO 196 0 [],
d6 198 [ae "longest_run_of_spaces" 585,ae "Whitespace.longest_run_of_spaces" 586,ae "/claim/cut.py" 587,ad 242 0,ad 1 0,ad 0 0,ad 0 0,ad 3 0,.ref 193,.bool true,ad 276 0,.ref 194,.none,.ref 195,.ref 196,.ref 197,ad 591 0,ad 242 0,ae "/claim/cut.py" 592],
d7 199 (d8 (ac (fP (d9 13)) 2) (cS "Whitespace.longest_run_of_spaces") 3 .none .none .none (ae "cpy313.tabnanny" 551) none (.ref 198) .none 0),
aO 200 0 [],
aO 202 0 [ae "self" 597,ae "tabsize" 598,ae "count" 599,ae "trailing" 600,ae "il" 601,ae "i" 602],
aO 203 0 [],
d6 205 [ae "indent_level" 594,ae "Whitespace.indent_level" 595,ae "/claim/cut.py" 596,ad 246 0,ad 2 0,ad 0 0,ad 0 0,ad 3 0,.ref 200,.bool true,ad 276 0,.ref 201,.none,.ref 202,.ref 203,.ref 204,ad 603 0,ad 246 0,ae "/claim/cut.py" 604],
d7 206 (d8 (ac (fP (d9 13)) 3) (cS "Whitespace.indent_level") 3 .none .none .none (ae "cpy313.tabnanny" 551) none (.ref 205) .none 0),
aO 207 0 [],
aO 209 0 [ae "self" 609,ae "other" 610],
aO 210 0 [],
d6 212 [ae "equal" 606,ae "Whitespace.equal" 607,ae "/claim/cut.py" 608,ad 253 0,ad 2 0,ad 0 0,ad 0 0,ad 3 0,.ref 207,.bool true,ad 276 0,.ref 208,.none,.ref 209,.ref 210,.ref 211,ad 611 0,ad 253 0,ae "/claim/cut.py" 612],
d7 213 (d8 (ac (fP (d9 13)) 4) (cS "Whitespace.equal") 3 .none .none .none (ae "cpy313.tabnanny" 551) none (.ref 212) .none 0),
aO 214 0 [],
aO 216 0 [ae "self" 617,ae "other" 618],
aO 217 0 [],
d6 219 [ae "not_equal_witness" 614,ae "Whitespace.not_equal_witness" 615,ae "/claim/cut.py" 616,ad 256 0,ad 2 0,ad 0 0,ad 0 0,ad 3 0,.ref 214,.bool true,ad 276 0,.ref 215,.none,.ref 216,.ref 217,.ref 218,ad 619 0,ad 256 0,ae "/claim/cut.py" 620],
d7 220 (d8 (ac (fP (d9 13)) 5) (cS "Whitespace.not_equal_witness") 3 .none .none .none (ae "cpy313.tabnanny" 551) none (.ref 219) .none 0),
aO 221 0 [],
aO 223 0 [ae "self" 625,ae "other" 626,ae "n" 627,ae "ts" 628],
aO 224 0 [],
d6 226 [ae "less" 622,ae "Whitespace.less" 623,ae "/claim/cut.py" 624,ad 259 0,ad 2 0,ad 0 0,ad 0 0,ad 3 0,.ref 221,.bool true,ad 276 0,.ref 222,.none,.ref 223,.ref 224,.ref 225,ad 629 0,ad 259 0,ae "/claim/cut.py" 630],
d7 227 (d8 (ac (fP (d9 13)) 6) (cS "Whitespace.less") 3 .none .none .none (ae "cpy313.tabnanny" 551) none (.ref 226) .none 0),
aO 228 0 [],
aO 230 0 [ae "self" 635,ae "other" 636],
aO 231 0 [],
d6 233 [ae "not_less_witness" 632,ae "Whitespace.not_less_witness" 633,ae "/claim/cut.py" 634,ad 270 0,ad 2 0,ad 0 0,ad 0 0,ad 3 0,.ref 228,.bool true,ad 276 0,.ref 229,.none,.ref 230,.ref 231,.ref 232,ad 637 0,ad 270 0,ae "/claim/cut.py" 638],
d7 234 (d8 (ac (fP (d9 13)) 7) (cS "Whitespace.not_less_witness") 3 .none .none .none (ae "cpy313.tabnanny" 551) none (.ref 233) .none 0),
aO 235 0 [ae "is_simple" 640,ae "n" 641,ae "norm" 642,ae "nt" 643,ae "raw" 644],
(236,⟨(.type "dict"),none,(.dict [bz P "__module__" 560 (ae "cpy313.tabnanny" 551),bz P "__firstlineno__" 564 (ad 216 563),bz P "S" 568 (ae " " 566),bz P "T" 569 (ae "\t" 567),bz P "__init__" 584 (.ref 192),bz P "longest_run_of_spaces" 593 (.ref 199),bz P "indent_level" 605 (.ref 206),bz P "equal" 613 (.ref 213),bz P "not_equal_witness" 621 (.ref 220),bz P "less" 631 (.ref 227),bz P "not_less_witness" 639 (.ref 234),bz P "__static_attributes__" 645 (.ref 235),bz P "__dict__" 647 (.ref 238),bz P "__weakref__" 649 (.ref 239),bz P "__doc__" 650 .none].toArray 4),#[]⟩),
(237,⟨(.type "type"),none,(.cls ⟨(cS "Whitespace"),[.type "object"],[.ref 237,(.type "object")],236,(cS "Whitespace"),true,[],[],false,none,false⟩),#[none,none,(some (ae "Whitespace" 553)),(some (ae "Whitespace" 561)),(some (.builtin "object.__new__")),(some (.bool true))]⟩),
(238,⟨(.type "getset_descriptor"),none,(.fields [ae "__dict__" 646,.ref 237,(.builtin "function.__dict__"),(.builtin "function.__dict__#set")].toArray),#[]⟩),
(239,⟨(.type "getset_descriptor"),none,(.fields [ae "__weakref__" 648,.ref 237,(.builtin "ExceptionGroup.__weakref__"),.none].toArray),#[]⟩),
aO 245 0 [ad 14 0,ad 10 0,ad 4 0,ad 1 0,ad 1 0,ad 22 0,ad 0 0,ad 31 0,ad 16 0,ad 127 0,ad 0 0,ad 13 0,ad 7 0,ad 22 0,ad 0 0,ad 31 0,ad 16 0,ad 127 0,ad 0 0,ad 1 0],
(246,⟨(.type "re.Pattern"),none,(.fields [ae "[\\x00-\\x1F\\x7F]" 656,ad 32 679,ad 0 0,.none,.none,.ref 245,ad 0 0].toArray),#[]⟩),
aO 250 0 [ad 14 0,ad 14 0,ad 4 0,ad 1 0,ad 1 0,ad 9 0,ad 4294966783 0,ad 0 0,ad 0 0,ad 2147483648 0,ad 0 0,ad 0 0,ad 0 0,ad 0 0,ad 0 0,ad 13 0,ad 11 0,ad 9 0,ad 4294966783 0,ad 0 0,ad 0 0,ad 2147483648 0,ad 0 0,ad 0 0,ad 0 0,ad 0 0,ad 0 0,ad 1 0],
(251,⟨(.type "re.Pattern"),none,(.fields [ae "[\\x00-\\x08\\x0A-\\x1F\\x7F]" 682,ad 32 713,ad 0 0,.none,.none,.ref 250,ad 0 0].toArray),#[]⟩),
aO 259 0 [.none],
aO 260 0 [],
aO 262 0 [ae "self" 730,ae "headers" 731,ae "k" 732,ae "v" 733],
aO 263 0 [],
d6 265 [ae "__init__" 727,ae "Headers.__init__" 728,ae "/claim/cut.py" 729,ad 277 0,ad 2 0,ad 0 0,ad 0 0,ad 3 0,.ref 260,.bool true,ad 276 0,.ref 261,.none,.ref 262,.ref 263,.ref 264,ad 734 0,ad 277 0,ae "/claim/cut.py" 735],
d7 266 (d8 (ac (fP (d9 17)) 0) (cS "Headers.__init__") 3 (.ref 259) .none .none (ae "cpy313.wsgiref.headers" 653) none (.ref 265) .none 0),
aO 267 0 [],
aO 269 0 [ae "self" 740,ae "value" 741,ae "name" 742,ae "regex" 743],
aO 270 0 [],
d6 272 [ae "_convert_string_type" 737,ae "Headers._convert_string_type" 738,ae "/claim/cut.py" 739,ad 287 0,ad 2 0,ad 0 0,ad 1 0,ad 3 0,.ref 267,.bool true,ad 276 0,.ref 268,.none,.ref 269,.ref 270,.ref 271,ad 744 0,ad 287 0,ae "/claim/cut.py" 745],
d7 273 (d8 (ac (fP (d9 17)) 1) (cS "Headers._convert_string_type") 3 .none .none .none (ae "cpy313.wsgiref.headers" 653) none (.ref 272) .none 0),
aO 274 0 [],
aO 276 0 [ae "self" 750],
aO 277 0 [],
d6 279 [ae "__len__" 747,ae "Headers.__len__" 748,ae "/claim/cut.py" 749,ad 295 0,ad 1 0,ad 0 0,ad 0 0,ad 3 0,.ref 274,.bool true,ad 276 0,.ref 275,.none,.ref 276,.ref 277,.ref 278,ad 751 0,ad 295 0,ae "/claim/cut.py" 752],
d7 280 (d8 (ac (fP (d9 17)) 2) (cS "Headers.__len__") 3 .none .none .none (ae "cpy313.wsgiref.headers" 653) none (.ref 279) .none 0),
aO 281 0 [],
aO 283 0 [ae "self" 757,ae "name" 758,ae "val" 759],
aO 284 0 [],
d6 286 [ae "__setitem__" 754,ae "Headers.__setitem__" 755,ae "/claim/cut.py" 756,ad 298 0,ad 3 0,ad 0 0,ad 0 0,ad 3 0,.ref 281,.bool true,ad 276 0,.ref 282,.none,.ref 283,.ref 284,.ref 285,ad 760 0,ad 298 0,ae "/claim/cut.py" 761],
d7 287 (d8 (ac (fP (d9 17)) 3) (cS "Headers.__setitem__") 3 .none .none .none (ae "cpy313.wsgiref.headers" 653) none (.ref 286) .none 0),
aO 288 0 [],
d6 291 [ae "__delitem__" 763,ae "Headers.__delitem__" 764,ae "/claim/cut.py" 765,ad 302 0,ad 2 0,ad 0 0,ad 0 0,ad 3 0,.ref 288,.bool true,ad 276 0,.ref 289,.none,.none,.none,.ref 290,ad 766 0,ad 302 0,ae "/claim/cut.py" 767],
d7 292 (d8 (ac (fP (d9 17)) 4) (cS "Headers.__delitem__") 3 .none .none .none (ae "cpy313.wsgiref.headers" 653) none (.ref 291) .none 0),
aO 293 0 [],
aO 295 0 [ae "self" 772,ae "name" 773],
aO 296 0 [],
d6 298 [ae "__getitem__" 769,ae "Headers.__getitem__" 770,ae "/claim/cut.py" 771,ad 306 0,ad 2 0,ad 0 0,ad 0 0,ad 3 0,.ref 293,.bool true,ad 276 0,.ref 294,.none,.ref 295,.ref 296,.ref 297,ad 774 0,ad 306 0,ae "/claim/cut.py" 775],
d7 299 (d8 (ac (fP (d9 17)) 5) (cS "Headers.__getitem__") 3 .none .none .none (ae "cpy313.wsgiref.headers" 653) none (.ref 298) .none 0),
aO 300 0 [],
aO 302 0 [ae "self" 780,ae "name" 781],
aO 303 0 [],
d6 305 [ae "__contains__" 777,ae "Headers.__contains__" 778,ae "/claim/cut.py" 779,ad 309 0,ad 2 0,ad 0 0,ad 0 0,ad 3 0,.ref 300,.bool true,ad 276 0,.ref 301,.none,.ref 302,.ref 303,.ref 304,ad 782 0,ad 309 0,ae "/claim/cut.py" 783],
d7 306 (d8 (ac (fP (d9 17)) 6) (cS "Headers.__contains__") 3 .none .none .none (ae "cpy313.wsgiref.headers" 653) none (.ref 305) .none 0),
aO 307 0 [],
aO 309 0 [ae "self" 788,ae "name" 789],
aO 310 0 [],
d6 312 [ae "get_all" 785,ae "Headers.get_all" 786,ae "/claim/cut.py" 787,ad 312 0,ad 2 0,ad 0 0,ad 0 0,ad 3 0,.ref 307,.bool true,ad 276 0,.ref 308,.none,.ref 309,.ref 310,.ref 311,ad 790 0,ad 312 0,ae "/claim/cut.py" 791],
d7 313 (d8 (ac (fP (d9 17)) 7) (cS "Headers.get_all") 3 .none .none .none (ae "cpy313.wsgiref.headers" 653) none (.ref 312) .none 0),
aO 314 0 [.none],
aO 315 0 [],
aO 317 0 [ae "self" 796,ae "name" 797,ae "default" 798,ae "k" 799,ae "v" 800],
aO 318 0 [],
d6 320 [ae "get" 793,ae "Headers.get" 794,ae "/claim/cut.py" 795,ad 315 0,ad 3 0,ad 0 0,ad 0 0,ad 3 0,.ref 315,.bool true,ad 276 0,.ref 316,.none,.ref 317,.ref 318,.ref 319,ad 801 0,ad 315 0,ae "/claim/cut.py" 802],
d7 321 (d8 (ac (fP (d9 17)) 8) (cS "Headers.get") 3 (.ref 314) .none .none (ae "cpy313.wsgiref.headers" 653) none (.ref 320) .none 0),
aO 322 0 [],
d6 325 [ae "keys" 804,ae "Headers.keys" 805,ae "/claim/cut.py" 806,ad 322 0,ad 1 0,ad 0 0,ad 0 0,ad 3 0,.ref 322,.bool true,ad 276 0,.ref 323,.none,.none,.none,.ref 324,ad 807 0,ad 322 0,ae "/claim/cut.py" 808],
d7 326 (d8 (ac (fP (d9 17)) 9) (cS "Headers.keys") 3 .none .none .none (ae "cpy313.wsgiref.headers" 653) none (.ref 325) .none 0),
aO 327 0 [],
d6 330 [ae "values" 810,ae "Headers.values" 811,ae "/claim/cut.py" 812,ad 325 0,ad 1 0,ad 0 0,ad 0 0,ad 3 0,.ref 327,.bool true,ad 276 0,.ref 328,.none,.none,.none,.ref 329,ad 813 0,ad 325 0,ae "/claim/cut.py" 814],
d7 331 (d8 (ac (fP (d9 17)) 10) (cS "Headers.values") 3 .none .none .none (ae "cpy313.wsgiref.headers" 653) none (.ref 330) .none 0),
aO 332 0 [],
aO 334 0 [ae "self" 819],
aO 335 0 [],
d6 337 [ae "items" 816,ae "Headers.items" 817,ae "/claim/cut.py" 818,ad 328 0,ad 1 0,ad 0 0,ad 0 0,ad 3 0,.ref 332,.bool true,ad 276 0,.ref 333,.none,.ref 334,.ref 335,.ref 336,ad 820 0,ad 328 0,ae "/claim/cut.py" 821],
d7 338 (d8 (ac (fP (d9 17)) 11) (cS "Headers.items") 3 .none .none .none (ae "cpy313.wsgiref.headers" 653) none (.ref 337) .none 0),
aO 339 0 [],
aO 341 0 [ae "self" 826],
aO 342 0 [],
d6 344 [ae "__repr__" 823,ae "Headers.__repr__" 824,ae "/claim/cut.py" 825,ad 331 0,ad 1 0,ad 0 0,ad 0 0,ad 3 0,.ref 339,.bool true,ad 276 0,.ref 340,.none,.ref 341,.ref 342,.ref 343,ad 827 0,ad 331 0,ae "/claim/cut.py" 828],
d7 345 (d8 (ac (fP (d9 17)) 12) (cS "Headers.__repr__") 3 .none .none .none (ae "cpy313.wsgiref.headers" 653) none (.ref 344) .none 0),
aO 346 0 [],
d6 349 [ae "__str__" 830,ae "Headers.__str__" 831,ae "/claim/cut.py" 832,ad 334 0,ad 1 0,ad 0 0,ad 0 0,ad 3 0,.ref 346,.bool true,ad 276 0,.ref 347,.none,.none,.none,.ref 348,ad 833 0,ad 334 0,ae "/claim/cut.py" 834],
d7 350 (d8 (ac (fP (d9 17)) 13) (cS "Headers.__str__") 3 .none .none .none (ae "cpy313.wsgiref.headers" 653) none (.ref 349) .none 0),
aO 351 0 [],
aO 353 0 [ae "self" 839],
aO 354 0 [],
d6 356 [ae "__bytes__" 836,ae "Headers.__bytes__" 837,ae "/claim/cut.py" 838,ad 337 0,ad 1 0,ad 0 0,ad 0 0,ad 3 0,.ref 351,.bool true,ad 276 0,.ref 352,.none,.ref 353,.ref 354,.ref 355,ad 840 0,ad 337 0,ae "/claim/cut.py" 841],
d7 357 (d8 (ac (fP (d9 17)) 14) (cS "Headers.__bytes__") 3 .none .none .none (ae "cpy313.wsgiref.headers" 653) none (.ref 356) .none 0),
aO 358 0 [],
aO 360 0 [ae "self" 846,ae "name" 847,ae "value" 848,ae "result" 849],
aO 361 0 [],
d6 363 [ae "setdefault" 843,ae "Headers.setdefault" 844,ae "/claim/cut.py" 845,ad 340 0,ad 3 0,ad 0 0,ad 0 0,ad 3 0,.ref 358,.bool true,ad 276 0,.ref 359,.none,.ref 360,.ref 361,.ref 362,ad 850 0,ad 340 0,ae "/claim/cut.py" 851],
d7 364 (d8 (ac (fP (d9 17)) 15) (cS "Headers.setdefault") 3 .none .none .none (ae "cpy313.wsgiref.headers" 653) none (.ref 363) .none 0),
aO 365 0 [],
aO 367 0 [ae "self" 856,ae "_name" 857,ae "_value" 858,ae "_params" 859],
aO 368 0 [],
d6 370 [ae "add_header" 853,ae "Headers.add_header" 854,ae "/claim/cut.py" 855,ad 348 0,ad 3 0,ad 0 0,ad 0 0,ad 11 0,.ref 365,.bool true,ad 276 0,.ref 366,.none,.ref 367,.ref 368,.ref 369,ad 860 0,ad 348 0,ae "/claim/cut.py" 861],
d7 371 (d8 (ac (fP (d9 17)) 16) (cS "Headers.add_header") 3 .none .none .none (ae "cpy313.wsgiref.headers" 653) none (.ref 370) .none 0),
aO 372 0 [ae "_headers" 863],
(373,⟨(.type "dict"),none,(.dict [bz P "__module__" 722 (ae "cpy313.wsgiref.headers" 653),bz P "__firstlineno__" 726 (ad 275 725),bz P "__init__" 736 (.ref 266),bz P "_convert_string_type" 746 (.ref 273),bz P "__len__" 753 (.ref 280),bz P "__setitem__" 762 (.ref 287),bz P "__delitem__" 768 (.ref 292),bz P "__getitem__" 776 (.ref 299),bz P "__contains__" 784 (.ref 306),bz P "get_all" 792 (.ref 313),bz P "get" 803 (.ref 321),bz P "keys" 809 (.ref 326),bz P "values" 815 (.ref 331),bz P "items" 822 (.ref 338),bz P "__repr__" 829 (.ref 345),bz P "__str__" 835 (.ref 350),bz P "__bytes__" 842 (.ref 357),bz P "setdefault" 852 (.ref 364),bz P "add_header" 862 (.ref 371),bz P "__static_attributes__" 864 (.ref 372),bz P "__dict__" 866 (.ref 375),bz P "__weakref__" 868 (.ref 376),bz P "__doc__" 869 .none].toArray 4),#[]⟩),
(374,⟨(.type "type"),none,(.cls ⟨(cS "Headers"),[.type "object"],[.ref 374,(.type "object")],373,(cS "Headers"),true,[],[],false,none,false⟩),#[none,none,(some (ae "Headers" 715)),(some (ae "Headers" 723)),(some (.builtin "object.__new__")),(some (.bool true))]⟩),
(375,⟨(.type "getset_descriptor"),none,(.fields [ae "__dict__" 865,.ref 374,(.builtin "function.__dict__"),(.builtin "function.__dict__#set")].toArray),#[]⟩),
(376,⟨(.type "getset_descriptor"),none,(.fields [ae "__weakref__" 867,.ref 374,(.builtin "ExceptionGroup.__weakref__"),.none].toArray),#[]⟩),
aO 379 0 [],
aO 381 0 [ae "number" 877],
aO 382 0 [],
d6 384 [ae "_law_word" 874,ae "_law_word" 875,ae "/claim/cut.py" 876,ad 351 0,ad 1 0,ad 0 0,ad 0 0,ad 3 0,.ref 379,.bool true,ad 276 0,.ref 380,.none,.ref 381,.ref 382,.ref 383,ad 878 0,ad 351 0,ae "/claim/cut.py" 879],
d7 385 (d8 (d9 19) (cS "_law_word") 3 .none .none .none (ae "law_tp0065_02" 872) none (.ref 384) .none 0),
aO 386 0 [],
aO 388 0 [ae "cells" 884,ae "tower" 885,ae "depths" 886,ae "leads" 887,ae "cell" 888,ae "depth" 889],
aO 389 0 [],
d6 391 [ae "_law_page" 881,ae "_law_page" 882,ae "/claim/cut.py" 883,ad 353 0,ad 1 0,ad 0 0,ad 0 0,ad 3 0,.ref 386,.bool true,ad 276 0,.ref 387,.none,.ref 388,.ref 389,.ref 390,ad 890 0,ad 353 0,ae "/claim/cut.py" 891],
d7 392 (d8 (d9 20) (cS "_law_page") 3 .none .none .none (ae "law_tp0065_02" 872) none (.ref 391) .none 0),
aO 393 0 [],
aO 395 0 [ae "leads" 896,ae "pile" 897,ae "depths" 898,ae "lead" 899,ae "indent" 900],
aO 396 0 [],
d6 398 [ae "_law_found" 893,ae "_law_found" 894,ae "/claim/cut.py" 895,ad 361 0,ad 1 0,ad 0 0,ad 0 0,ad 3 0,.ref 393,.bool true,ad 276 0,.ref 394,.none,.ref 395,.ref 396,.ref 397,ad 901 0,ad 361 0,ae "/claim/cut.py" 902],
d7 399 (d8 (d9 21) (cS "_law_found") 3 .none .none .none (ae "law_tp0065_02" 872) none (.ref 398) .none 0),
aO 400 0 [],
d6 403 [ae "_law_parents" 904,ae "_law_parents" 905,ae "/claim/cut.py" 906,ad 370 0,ad 1 0,ad 0 0,ad 0 0,ad 3 0,.ref 400,.bool true,ad 276 0,.ref 401,.none,.none,.none,.ref 402,ad 907 0,ad 370 0,ae "/claim/cut.py" 908],
d7 404 (d8 (d9 22) (cS "_law_parents") 3 .none .none .none (ae "law_tp0065_02" 872) none (.ref 403) .none 0),
aO 405 0 [],
aO 407 0 [ae "parents" 913,ae "book" 914,ae "line" 915,ae "word" 916,ae "above" 917,ae "rank" 918],
aO 408 0 [],
d6 410 [ae "_law_book" 910,ae "_law_book" 911,ae "/claim/cut.py" 912,ad 375 0,ad 1 0,ad 0 0,ad 0 0,ad 3 0,.ref 405,.bool true,ad 276 0,.ref 406,.none,.ref 407,.ref 408,.ref 409,ad 919 0,ad 375 0,ae "/claim/cut.py" 920],
d7 411 (d8 (d9 23) (cS "_law_book") 3 .none .none .none (ae "law_tp0065_02" 872) none (.ref 410) .none 0),
aO 412 0 [],
aO 414 0 [ae "parents" 925,ae "book" 926,ae "owners" 927,ae "line" 928,ae "above" 929,ae "rank" 930,ae "lower" 931,ae "heir" 932],
aO 415 0 [],
d6 417 [ae "_law_owners" 922,ae "_law_owners" 923,ae "/claim/cut.py" 924,ad 385 0,ad 2 0,ad 0 0,ad 0 0,ad 3 0,.ref 412,.bool true,ad 276 0,.ref 413,.none,.ref 414,.ref 415,.ref 416,ad 933 0,ad 385 0,ae "/claim/cut.py" 934],
d7 418 (d8 (d9 24) (cS "_law_owners") 3 .none .none .none (ae "law_tp0065_02" 872) none (.ref 417) .none 0),
aO 419 0 [],
aO 421 0 [ae "depths" 939,ae "owners" 940,ae "pieces" 941,ae "opened" 942,ae "writer" 943,ae "line" 944,ae "depth" 945],
aO 422 0 [],
d6 424 [ae "_law_written" 936,ae "_law_written" 937,ae "/claim/cut.py" 938,ad 394 0,ad 2 0,ad 0 0,ad 0 0,ad 3 0,.ref 419,.bool true,ad 276 0,.ref 420,.none,.ref 421,.ref 422,.ref 423,ad 946 0,ad 394 0,ae "/claim/cut.py" 947],
d7 425 (d8 (d9 25) (cS "_law_written") 3 .none .none .none (ae "law_tp0065_02" 872) none (.ref 424) .none 0),
aO 426 0 [],
aO 428 0 [ae "depths" 952,ae "owners" 953,ae "text" 954,ae "opened" 955,ae "known" 956,ae "line" 957,ae "depth" 958,ae "declared" 959,ae "prefix" 960],
aO 429 0 [],
d6 431 [ae "_law_told" 949,ae "_law_told" 950,ae "/claim/cut.py" 951,ad 405 0,ad 2 0,ad 0 0,ad 0 0,ad 3 0,.ref 426,.bool true,ad 276 0,.ref 427,.none,.ref 428,.ref 429,.ref 430,ad 961 0,ad 405 0,ae "/claim/cut.py" 962],
d7 432 (d8 (d9 26) (cS "_law_told") 3 .none .none .none (ae "law_tp0065_02" 872) none (.ref 431) .none 0),
aO 433 0 [],
d6 436 [ae "_law_least" 964,ae "_law_least" 965,ae "/claim/cut.py" 966,ad 422 0,ad 1 0,ad 0 0,ad 0 0,ad 3 0,.ref 433,.bool true,ad 276 0,.ref 434,.none,.none,.none,.ref 435,ad 967 0,ad 422 0,ae "/claim/cut.py" 968],
d7 437 (d8 (d9 27) (cS "_law_least") 3 .none .none .none (ae "law_tp0065_02" 872) none (.ref 436) .none 0),
aO 438 0 [],
aO 440 0 [ae "text" 973,ae "opened" 974,ae "most" 975,ae "total" 976,ae "part" 977,ae "fresh" 978],
aO 441 0 [],
d6 443 [ae "_law_sights" 970,ae "_law_sights" 971,ae "/claim/cut.py" 972,ad 435 0,ad 1 0,ad 0 0,ad 0 0,ad 3 0,.ref 438,.bool true,ad 276 0,.ref 439,.none,.ref 440,.ref 441,.ref 442,ad 979 0,ad 435 0,ae "/claim/cut.py" 980],
d7 444 (d8 (d9 28) (cS "_law_sights") 3 .none .none .none (ae "law_tp0065_02" 872) none (.ref 443) .none 0),
aO 445 0 [],
d6 448 [ae "law" 982,ae "law" 983,ae "/claim/cut.py" 984,ad 445 0,ad 1 0,ad 0 0,ad 0 0,ad 3 0,.ref 445,.bool true,ad 276 0,.ref 446,.none,.none,.none,.ref 447,ad 985 0,ad 445 0,ae "/claim/cut.py" 986],
d7 449 (d8 (d9 29) (cS "law") 3 .none .none .none (ae "law_tp0065_02" 872) none (.ref 448) .none 0)]
noncomputable def i0 (ok:Thread→Bool) (st:SharedT→Thread→Option (SharedT×Thread)):Nat→SharedT→Thread→Option SharedT
 | 0,_,_=>none
 | n+1,s,t=>match through t with
  | true=>some s
  | false=>match ok t with
   | false=>none
   | true=>match st s t with
    | some (s',t')=>i0 ok st n s' t'
    | none=>none
theorem lr {tb:String→Option Builtin} {p:Program} {w:World} {n₀:Nat} {ann:Option Value}:∀ {n:Nat} {s s':SharedT} {t:Thread},i0 (stepOk n₀ ann) (stepT (denote tb) p w) n s t=some s'→topRun tb p w n₀ ann n s.abs t=some s'.abs
 | 0,_,_,_,h=>by cases h
 | n+1,s,s',t,h=>by
  unfold i0 at h
  unfold topRun
  cases ht:through t with
  | true=>rw [ht] at h; cases h; rfl
  | false=>
   rw [ht] at h
   cases hk:stepOk n₀ ann t with
   | false=>rw [hk] at h; cases h
   | true=>
    rw [hk] at h
    cases hs:stepT (denote tb) p w s t with
    | none=>rw [hs] at h; cases h
    | some r=>obtain ⟨s₂,t₂⟩:=r; rw [hs] at h; dsimp only; rw [stepT_spec hs]; exact lr h
noncomputable def MB:List Obj→BT→Nat→Option (BT×Nat)
 | [],T,n=>some (T,n)
 | o::l,T,n=>match ((T.ins n o).get n).isSome with
  | true=>MB l (T.ins n o) (n+1)
  | false=>none
theorem xd {life:Life}:∀ {l:List Obj} {T T':BT} {n n':Nat},MB l T n=some (T',n')→(absHeap T' n' life).objs=(absHeap T n life).objs++l.toArray
 | [],T,T',n,n',h=>by cases h; simp
 | o::l,T,T',n,n',h=>by
  unfold MB at h
  cases e:((T.ins n o).get n).isSome with
  | false=>rw [e] at h; cases h
  | true=>
   rw [e] at h
   rw [xd h,absHeap_ins e]
   simp [Heap.push]
noncomputable def iZ (ok:Nat→Option Value→Thread→Bool) (st:SharedT→Thread→Option (SharedT×Thread)) (p:Program) (N:Nat) (s₀:Shared):Option Shared:=
 match s₀.heap.isNs mainGlobals && s₀.gens.size==0 with
 | true=>match MB s₀.heap.objs.toList .nil 0 with
  | none=>none
  | some (T,n)=>match i0 (ok s₀.heap.objs.size (s₀.heap.nsMap mainGlobals "__annotations__")) st N ⟨T,n,s₀.heap.life,s₀.gens,s₀.drawn,s₀.toks,s₀.os⟩ (topStub p) with
   | none=>none
   | some s₁=>match staticsOk (importedModules p.main.body) s₀.heap s₁.abs.heap && namesBound p s₁.abs.heap && gensDone s₁.abs && laidKept s₀.heap s₁.abs.heap with
    | true=>some s₁.abs
    | false=>none
 | false=>none
theorem jO {tb:String→Option Builtin} {p:Program} {w:World} {N:Nat} {s₀ r:Shared} (h:iZ stepOk (stepT (denote tb) p w) p N s₀=some r):topFrom tb p w N s₀=some r:=by
 unfold iZ at h
 unfold topFrom
 cases e:s₀.heap.isNs mainGlobals && s₀.gens.size==0 with
 | false=>rw [e] at h; cases h
 | true=>
  rw [e] at h
  dsimp only at h ⊢
  cases m:MB s₀.heap.objs.toList .nil 0 with
  | none=>rw [m] at h; cases h
  | some x=>
   obtain ⟨T,n⟩:=x
   rw [m] at h
   dsimp only at h
   have q:(⟨T,n,s₀.heap.life,s₀.gens,s₀.drawn,s₀.toks,s₀.os⟩:SharedT).abs=s₀:=by
    have:=xd (life:=s₀.heap.life) m
    show (⟨absHeap T n s₀.heap.life,_,_,_,_⟩:Shared)=s₀
    have:absHeap T n s₀.heap.life=s₀.heap:=by
     show Heap.mk (absHeap T n s₀.heap.life).objs s₀.heap.life=_
     rw [this]
     simp [absHeap,BT.list]
    rw [this]
   cases k:i0 (stepOk s₀.heap.objs.size (s₀.heap.nsMap mainGlobals "__annotations__")) (stepT (denote tb) p w) N ⟨T,n,s₀.heap.life,s₀.gens,s₀.drawn,s₀.toks,s₀.os⟩ (topStub p) with
   | none=>rw [k] at h; cases h
   | some s₁=>
    rw [k] at h
    have k':=lr k
    rw [q] at k'
    rw [k']
    dsimp only [Option.bind] at h ⊢
    exact h
noncomputable def vw:Program:=view pw [0,1,3,4,5,6,7,8,9,11,13,15,16,17,19,20,21,22,23,24,25,26,27,28,29]
noncomputable def KE:List Str:=[cS "_twin_re_1",cS "_namespace_map",cS "_looks_like_prefix_name",cS "C14NWriterTarget",cS "Whitespace",cS "_name_disallowed_re",cS "_value_disallowed_re"]
noncomputable def XT (s:Shared):Bool:=xlAt vw [] s && recOk (RowW.records PySem.Challenge.rw_tp0065_02.row.toRowW) s
noncomputable def KA:List Addr:=[2,3,32,34,35,37,38,42,43,44,45,47,48,50,51,52,60,61,63,64,66,67,68,69,71,72,74,75,76,78,79,81,82,83,84,86,87,89,90,91,93,94,96,97,98,99,100,102,103,105,106,107,109,110,112,113,114,116,117,119,120,121,122,125,126,127,129,130,132,133,134,136,137,139,140,141,143,144,146,147,148,149,150,151,152,155,157,158,160,161,162,164,165,167,168,169,171,172,174,175,186,188,189,191,192,193,195,196,198,199,200,202,203,205,206,207,209,210,212,213,214,216,217,219,220,221,223,224,226,227,228,230,231,233,234,235,236,237,238,239,245,246,250,251,259,260,262,263,265,266,267,269,270,272,273,274,276,277,279,280,281,283,284,286,287,288,291,292,293,295,296,298,299,300,302,303,305,306,307,309,310,312,313,314,315,317,318,320,321,322,325,326,327,330,331,332,334,335,337,338,339,341,342,344,345,346,349,350,351,353,354,356,357,358,360,361,363,364,365,367,368,370,371,372,373,374,375,376,379,381,382,384,385,386,388,389,391,392,393,395,396,398,399,400,403,404,405,407,408,410,411,412,414,415,417,418,419,421,422,424,425,426,428,429,431,432,433,436,437,438,440,441,443,444,445,448,449]
theorem K7 (P:Params):KA=(KH P).map (·.1):=rfl
noncomputable def HK:Hook:=kmHook KH KA K7 [123]
theorem Ov {α β γ:Type} {o:Option α} {f:α→β} {g:α→γ} {a:β} {b:γ} (h1:o.map f=some a) (h2:o.map g=some b):o.map (fun x=>(f x,g x))=some (a,b):=by
 cases o with
 | none=>cases h1
 | some x=>cases h1; cases h2; rfl
noncomputable def so (w:World):Option Shared:=(Fast.tw10274390034422433532 Fast.tw14364793385576792824 (opening pw) w 5710 (Fast.tw1435165496053646825 (opening pw)).1 (Fast.tw1435165496053646825 (opening pw)).2).bind (Fast.tw14289696077712309145 pw)
theorem xC (w:World):fencedOpening treeTable pw w 5710=so w:=by
 unfold fencedOpening so
 rw [Fast.te10274390034422433532,Fast.te1435165496053646825,Fast.te14289696077712309145,Fast.te14364793385576792824]
noncomputable abbrev BW (w:World) (b:Bool):World:=w.withFollow "special-get-raises" b
noncomputable abbrev Ng (w:World) (b:Bool) (s₀:Shared):Option Shared:=iZ stepOk (stepT (denote treeTable) pw (BW w b)) pw 5710 s₀
noncomputable abbrev BX (w:World) (b:Bool) (s₀:Shared):Option Shared:=iZ Fast.tw6613529449190102663 (Fast.tw10156331382660048174 (Fast.tw11892475500146522536 Fast.tw14364793385576792824) pw (BW w b)) pw 5710 s₀
theorem BY:@Ng=@BX:=by
 funext w b s
 unfold Ng BX
 rw [Fast.te6613529449190102663,Fast.te10156331382660048174,Fast.te11892475500146522536,Fast.te14364793385576792824]
theorem N1 (w:World):(so w).map (fun s₀=>(BX w false s₀).map fun s=>(Fast.tw4187177175401517315 vw KE (Fast.tw5923862056798008813 pw.main.body) XT true s,Hook.obs HK s))=some (some (openGood vw KE,Hook.val HK (BW w false))):=by kernel_rfl
theorem N2 (w:World):(so w).map (fun s₀=>(BX w true s₀).map fun s=>(Fast.tw4187177175401517315 vw KE (Fast.tw5923862056798008813 pw.main.body) XT true s,Hook.obs HK s))=some (some (openGood vw KE,Hook.val HK (BW w true))):=by kernel_rfl
theorem CW {α β γ:Type} {o:Option α} {r r':α→Option β} {f:β→γ} {v:γ} (hr:∀ {a:α} {x:β},r a=some x→r' a=some x) (h:o.map (fun a=>(r a).map f)=some (some v)):o.map (fun a=>(r' a).map f)=some (some v):=by
 cases o with
 | none=>cases h
 | some a=>
  obtain ⟨x,e,rfl⟩:=Option.map_eq_some_iff.mp (Option.some.inj h)
  show some ((r' a).map f)=_
  rw [hr e]
  rfl
theorem PM:LeftO pw vw KE XT (Hook.obs HK) (Hook.val HK) 5710:=LeftO.of_split "special-get-raises" fun w=>by
 have e1:=N1 w
 have e2:=N2 w
 rw [← xC,← BY,← Fast.te4187177175401517315,← Fast.te5923862056798008813] at e1 e2
 exact Ov (CW jO e1) (CW jO e2)
theorem Px:PySem.Challenge.rw_tp0065_02.wellSaid=true:=(Q9 Fast.te9446332074065402090 _).trans (by kernel_rfl)
inductive V where
 | non | boo (b:Bool) | int (i:Int) | str (s:List Nat) | byt (s:List UInt8)
 | ty (n:String) | gl (a:Nat) | loc (l:Nat)
 | obj (C:Nat) (l:Nat)
 | tup (vs:List V) | fro (vs:List V)
 | bm (l:Nat)
 | pm (f:Nat) (C:Nat) (l:Nat)
 | junk
 | fob (C:Nat) (vs:List V)
inductive AO where
 | list (vs:List V)
 | ns (at_:List (Nat×V))
 | dict (kvs:List (List Nat×V))
 | set (ks:List (List Nat))
 | cold
 | set1 (k:Option (List Nat))
 | wds (ss:List (List Nat))
 | own
structure St where
 lo:List (Nat×V)
 st:List (Nat×AO)
 nx:Nat
noncomputable def aj {α:Type} (n:Nat) (l:List (Nat×α)):Option α:=@List.rec (Nat×α) (fun _=>Option α) none (fun p _ ih=>@Prod.rec Nat α (fun _=>Option α) (fun k v=>@Bool.rec (fun _=>Option α) ih (some v) (Nat.beq n k)) p) l
noncomputable def gE {α:Type} (n:Nat) (a:α) (l:List (Nat×α)):List (Nat×α):=@List.rec (Nat×α) (fun _=>List (Nat×α)) [(n,a)] (fun p r ih=>@Prod.rec Nat α (fun _=>List (Nat×α)) (fun k v=>@Bool.rec (fun _=>List (Nat×α)) ((k,v)::ih) ((n,a)::r) (Nat.beq n k)) p) l
theorem dY {a b:Nat}:Nat.beq a b=decide (a=b):=by
 cases h:Nat.beq a b with
 | true=>exact (QS (QP h)).symm
 | false=>exact (QR (Nat.ne_of_beq_eq_false h)).symm
theorem wZ {α:Type} {n:Nat}:aj n ([]:List (Nat×α))=none:=rfl
theorem am {α:Type} {n m:Nat} {a:α} {r:List (Nat×α)}:aj n ((m,a)::r)=if n=m then some a else aj n r:=by
 show (@Bool.rec (fun _=>Option α) (aj n r) (some a) (Nat.beq n m))=_
 rw [dY]; by_cases h:n=m <;> simp [h]
theorem nD {α:Type} {n:Nat} {a:α}:gE n a []=[(n,a)]:=rfl
theorem eE {α:Type} {n m:Nat} {a b:α} {r:List (Nat×α)}:gE n a ((m,b)::r)=if n=m then (n,a)::r else (m,b)::gE n a r:=by
 show (@Bool.rec (fun _=>List (Nat×α)) ((m,b)::gE n a r) ((n,a)::r) (Nat.beq n m))=_
 rw [dY]; by_cases h:n=m <;> simp [h]
theorem eB {α:Type} {n:Nat} {a:α}:∀ {l:List (Nat×α)} {k:Nat},aj k (gE n a l)=if k=n then some a else aj k l
 | [],k=>by rw [nD,am]
 | (m,b)::r,k=>by
  rw [eE]
  by_cases h:n=m
  ·subst h; rw [QI rfl,am,am]; by_cases q:k=n <;> simp [q]
  ·rw [QH h,am,am,eB]
   by_cases q:k=m
   ·subst q; simp [Ne.symm h]
   ·simp [q]
structure Wd where
 ρ:Nat→Addr
 F:Addr→Option Obj
 tb:Array Value
 P:Addr→Bool
noncomputable def cO:List Str:=(["raw","n","nt","norm","is_simple"]:List String).map Str.ofString
noncomputable def rC (od:Obj) (vals:List Value):Prop:=∃ (es:Array DictEntry) (ep:Nat) (m:Str→Option Value),od.data=.dict es ep∧StrKeys es∧UniqKeys es∧(∀ name,nsFind es name=m name)∧vals.length=5∧(∀ (k:Nat) (x:Str),cO[k]?=some x→m x=vals[k]?)∧∀ (x:Str) (v:Value),m x=some v→x∈cO
noncomputable def LObj (T:String) (o:Obj) (items:List Value):Prop:=o.cls=.type T∧o.dict=none∧(∃ ep,o.data=.seq items.toArray ep)∧o.slots=#[]
mutual
inductive RepV (X:Wd) (n:Nat):V→Value→Prop
 | non:RepV X n .non .none
 | boo (b:Bool):RepV X n (.boo b) (.bool b)
 | int (i:Int) (t:Tok):RepV X n (.int i) (.int i t)
 | str (s:List Nat) (t:Tok):RepV X n (.str s) (.str ⟨s.toArray⟩ t)
 | byt (s:List UInt8) (t:Tok):RepV X n (.byt s) (.bytes s.toArray t)
 | ty (T:String):RepV X n (.ty T) (.type T)
 | gl (a:Addr):RepV X n (.gl a) (.ref a)
 | loc (l:Nat) (h:l<n):RepV X n (.loc l) (.ref (X.ρ l))
 | obj (C l a:Nat) (h:l<n) (o:X.F a=some (instObj C (X.ρ l))):RepV X n (.obj C l) (.ref a)
 | tup (vs:List V) (vals:List Value) (a:Addr) (o:Obj) (h:X.F a=some o) (ho:LObj "tuple" o vals) (hs:RepVs X n vs vals):RepV X n (.tup vs) (.ref a)
 | fro (vs:List V) (vals:List Value) (a:Addr) (o:Obj) (h:X.F a=some o) (ho:LObj "list" o vals) (hs:RepVs X n vs vals):RepV X n (.fro vs) (.ref a)
 | bm (l a:Nat) (h:l<n) (o:X.F a=some {cls:=.type "builtin_function_or_method",data:=.fields #[.builtin "list.append",.ref (X.ρ l)]}):RepV X n (.bm l) (.ref a)
 | pm (f C l a b:Nat) (h:l<n) (o:X.F a=some (methodObj (.ref f) (.ref b))) (ob:X.F b=some (instObj C (X.ρ l))):RepV X n (.pm f C l) (.ref a)
 | junk (a:Addr):RepV X n .junk (.ref a)
 | fob (C a d:Nat) (od:Obj) (vs:List V) (vals:List Value) (h:X.F a=some (instObj C d)) (hd:X.F d=some od) (hP:X.P d=true) (ho:rC od vals) (hs:RepVs X n vs vals):RepV X n (.fob C vs) (.ref a)
inductive RepVs (X:Wd) (n:Nat):List V→List Value→Prop
 | nil:RepVs X n [] []
 | cons {v:V} {val:Value} {vs:List V} {vals:List Value} (h:RepV X n v val) (hs:RepVs X n vs vals):RepVs X n (v::vs) (val::vals)
end
structure Wd.le (n:Nat) (X X':Wd):Prop where
 ρ:∀ l,l<n→X'.ρ l=X.ρ l
 F:∀ a o,X.F a=some o→X'.F a=some o
 P:∀ a o,X.F a=some o→X'.P a=X.P a
theorem Wd.le.refl {n:Nat} {X:Wd}:X.le n X:=⟨fun _ _=>rfl,fun _ _ e=>e,fun _ _ _=>rfl⟩
theorem Wd.le.trans {n m:Nat} {X Y Z:Wd} (a:X.le n Y) (b:Y.le m Z) (h:n≤m):X.le n Z:=
 ⟨fun l hl=>(b.ρ l (QZ hl h)).trans (a.ρ l hl),fun x o e=>b.F x o (a.F x o e),fun x o e=>(b.P x o (a.F x o e)).trans (a.P x o e)⟩
noncomputable def Obj.loose (o:Obj):Bool:=match o.data with
 | .seq ..=>false
 | .plain=>false
 | .fields vs=>(o.cls==.type "list_iterator") || (o.cls==.type "range_iterator") || (o.cls==.type "enumerate")
   || (o.cls==.type "str_ascii_iterator") || (o.cls==.type "zip") || (o.cls==.type "tuple_iterator") || (o.cls==.type "list_reverseiterator") || (o.cls==.type "generator")
 | _=>true
theorem Obj.loose_lobj {T:String} {o:Obj} {xs:List Value} (h:LObj T o xs):Obj.loose o=false:=by
 obtain ⟨_,_,⟨ep,hd⟩,_⟩:=h; unfold Obj.loose; rw [hd]
noncomputable def fy (X:Wd) (b:Addr) (o:Obj):Prop:=Obj.loose o=true∧(X.P b=false∨∃ vs,o.data=.fields vs)
noncomputable def bG (v:V):Bool:=@V.rec (fun _=>Bool) (fun _=>Bool) true (fun _=>true) (fun _=>true) (fun _=>true) (fun _=>true) (fun _=>true) (fun _=>true) (fun _=>false) (fun _ _=>false) (fun _ ih=>ih) (fun _ ih=>ih) (fun _=>false) (fun _ _ _=>false) true (fun _ _ ih=>ih) true (fun _ _ a b=>@Bool.rec (fun _=>Bool) false b a) v
noncomputable def aM (vs:List V):Bool:=@List.rec V (fun _=>Bool) true (fun v _ b=>@Bool.rec (fun _=>Bool) false b (bG v)) vs
theorem dh:∀ {vs:List V},@V.rec_1 (fun _=>Bool) (fun _=>Bool) true (fun _=>true) (fun _=>true) (fun _=>true) (fun _=>true) (fun _=>true) (fun _=>true) (fun _=>false) (fun _ _=>false) (fun _ ih=>ih) (fun _ ih=>ih) (fun _=>false) (fun _ _ _=>false) true (fun _ _ ih=>ih) true (fun _ _ a b=>@Bool.rec (fun _=>Bool) false b a) vs=aM vs
 | []=>rfl
 | v::r=>congrArg (fun b=>@Bool.rec (fun _=>Bool) false b (bG v)) (dh (vs:=r))
theorem tR {vs:List V} (h:bG (.tup vs)=true):aM vs=true:=dh.symm.trans h
theorem tQ {vs:List V} (h:bG (.fro vs)=true):aM vs=true:=dh.symm.trans h
theorem tP {C:Nat} {vs:List V} (h:bG (.fob C vs)=true):aM vs=true:=dh.symm.trans h
theorem eU {v:V} {r:List V} (h:aM (v::r)=true):bG v=true∧aM r=true:=by
 have h:@Bool.rec (fun _=>Bool) false (aM r) (bG v)=true:=h
 cases q:bG v with
 | true=>rw [q] at h; exact ⟨rfl,h⟩
 | false=>rw [q] at h; first | exact nS h | exact nB h | cases h
section
variable {X X':Wd} {n n':Nat}
theorem RepV.map (hF:∀ a o,X.F a=some o→Obj.loose o=false→X'.F a=some o) (hD:∀ d od vals,X.F d=some od→X.P d=true→rC od vals→X'.F d=some od∧X'.P d=true)
  {v:V} {val:Value} (W:RepV X n v val):(bG v=true∨∀ l,l<n→l<n'∧X'.ρ l=X.ρ l)→RepV X' n' v val:=
 @RepV.rec X n (fun v val _=>(bG v=true∨∀ l,l<n→l<n'∧X'.ρ l=X.ρ l)→RepV X' n' v val) (fun vs vals _=>(aM vs=true∨∀ l,l<n→l<n'∧X'.ρ l=X.ρ l)→RepVs X' n' vs vals)
  (fun _=>.non) (fun b _=>.boo b) (fun i t _=>.int i t) (fun s t _=>.str s t) (fun s t _=>.byt s t) (fun T _=>.ty T) (fun a _=>.gl a)
  (fun l h p=>p.elim (fun p=>(QM p).elim) fun q=>(q l h).2 ▸ .loc l (q l h).1)
  (fun C l a h o p=>p.elim (fun p=>(QM p).elim) fun q=>.obj C l a (q l h).1 ((q l h).2.symm ▸ hF _ _ o rfl))
  (fun vs vals a o h ho _ ih p=>.tup vs vals a o (hF _ _ h (Obj.loose_lobj ho)) ho (ih (p.imp_left tR)))
  (fun vs vals a o h ho _ ih p=>.fro vs vals a o (hF _ _ h (Obj.loose_lobj ho)) ho (ih (p.imp_left tQ)))
  (fun l a h o p=>p.elim (fun p=>(QM p).elim) fun q=>.bm l a (q l h).1 ((q l h).2.symm ▸ hF _ _ o rfl))
  (fun f C l a b h o ob p=>p.elim (fun p=>(QM p).elim) fun q=>.pm f C l a b (q l h).1 (hF _ _ o rfl) ((q l h).2.symm ▸ hF _ _ ob rfl))
  (fun a _=>.junk a)
  (fun C a d od vs vals h hd hP ho _ ih p=>.fob C a d od vs vals (hF _ _ h rfl) (hD _ _ _ hd hP ho).1 (hD _ _ _ hd hP ho).2 ho (ih (p.imp_left tP)))
  (fun _=>.nil)
  (fun _ _ h hs p=>.cons (h (p.imp_left fun e=>(eU e).1)) (hs (p.imp_left fun e=>(eU e).2))) v val W
theorem RepVs.imp {p:V→Prop} (f:∀ {v:V} {val:Value},RepV X n v val→p v→RepV X' n' v val):∀ {vs:List V} {vals:List Value},RepVs X n vs vals→(∀ v∈vs,p v)→RepVs X' n' vs vals:=by
 intro vs
 induction vs with
 | nil=>intro vals h _; cases h; exact .nil
 | cons v r ih=>intro vals h q; cases h with | cons a b=>exact .cons (f a (q v (QL ..))) (ih b fun u hu=>q u (QE _ hu))
theorem la:∀ {vs:List V},aM vs=true→∀ v∈vs,bG v=true
 | [],_,_,h=>nomatch h
 | _::_,h,_,.head _=>(eU h).1
 | _::_,h,_,.tail _ m=>la (eU h).2 _ m
theorem RepV.mono (L:X.le n X') (hn:n≤n') {v:V} {val:Value} (W:RepV X n v val):RepV X' n' v val:=
 W.map (fun a o h _=>L.F a o h) (fun d od _ h hP _=>⟨L.F d od h,(L.P d od h).trans hP⟩) (.inr fun l h=>⟨QZ h hn,L.ρ l h⟩)
theorem RepVs.mono (L:X.le n X') (hn:n≤n') {vs:List V} {vals:List Value} (W:RepVs X n vs vals):RepVs X' n' vs vals:=W.imp (p:=fun _=>True) (fun a _=>a.mono L hn) fun _ _=>trivial
theorem RepV.pure (hF:∀ a o,X.F a=some o→X'.F a=some o) (hP:∀ a o,X.F a=some o→X'.P a=X.P a) {v:V} {val:Value} (W:RepV X n v val) (p:bG v=true):RepV X' n' v val:=
 W.map (fun a o h _=>hF a o h) (fun d od _ h hp _=>⟨hF d od h,(hP d od h).trans hp⟩) (.inl p)
theorem RepVs.pure (hF:∀ a o,X.F a=some o→X'.F a=some o) (hP:∀ a o,X.F a=some o→X'.P a=X.P a) {vs:List V} {vals:List Value} (W:RepVs X n vs vals) (p:aM vs=true):RepVs X' n' vs vals:=W.imp (fun a q=>a.pure hF hP q) (la p)
theorem RepV.loc_at {l:Nat} {a:Addr} (h:l<n) (e:X.ρ l=a):RepV X n (.loc l) (.ref a):=e ▸ .loc l h
inductive AtTup (X:Wd) (n:Nat) (T:String) (vs:List V):Value→Prop
 | mk (vals:List Value) (a:Addr) (o:Obj) (h:X.F a=some o) (h1:LObj T o vals) (h2:RepVs X n vs vals):AtTup X n T vs (.ref a)
inductive AtFob (X:Wd) (n C:Nat) (vs:List V):Value→Prop
 | mk (a d:Addr) (od:Obj) (vals:List Value) (h:X.F a=some (instObj C d)) (hd:X.F d=some od) (hP:X.P d=true) (ho:rC od vals) (hs:RepVs X n vs vals):AtFob X n C vs (.ref a)
inductive AtBm (X:Wd) (n l:Nat):Value→Prop
 | mk (a:Addr) (h:l<n) (o:X.F a=some {cls:=.type "builtin_function_or_method",data:=.fields #[.builtin "list.append",.ref (X.ρ l)]}):AtBm X n l (.ref a)
inductive AtPm (X:Wd) (n f C l:Nat):Value→Prop
 | mk (a b:Addr) (h:l<n) (o:X.F a=some (methodObj (.ref f) (.ref b))) (ob:X.F b=some (instObj C (X.ρ l))):AtPm X n f C l (.ref a)
inductive AtOb (X:Wd) (n C l:Nat):Value→Prop
 | mk (a:Addr) (h:l<n) (o:X.F a=some (instObj C (X.ρ l))):AtOb X n C l (.ref a)
noncomputable def Le (X:Wd) (n:Nat) (v:V) (w:Value):Prop:=match v with
 | .non=>w=.none
 | .boo b=>w=.bool b
 | .int i=>∃ t,w=.int i t
 | .str s=>∃ t,w=.str ⟨s.toArray⟩ t
 | .byt s=>∃ t,w=.bytes s.toArray t
 | .ty T=>w=.type T
 | .gl a=>w=.ref a
 | .loc l=>w=.ref (X.ρ l)
 | .tup vs=>AtTup X n "tuple" vs w
 | .fro vs=>AtTup X n "list" vs w
 | .bm l=>AtBm X n l w
 | .pm f C l=>AtPm X n f C l w
 | .obj C l=>AtOb X n C l w
 | .junk=>∃ a,w=.ref a
 | .fob C vs=>AtFob X n C vs w
theorem RepV.inv {v:V} {w:Value} (W:RepV X n v w):Le X n v w:=
 @RepV.casesOn X n (fun v w _=>Le X n v w) v w W rfl (fun _=>rfl) (fun _ t=>⟨t,rfl⟩) (fun _ t=>⟨t,rfl⟩) (fun _ t=>⟨t,rfl⟩) (fun _=>rfl) (fun _=>rfl) (fun _ _=>rfl)
  (fun _ _ a h o=>.mk a h o) (fun _ vals a o h h1 h2=>.mk vals a o h h1 h2) (fun _ vals a o h h1 h2=>.mk vals a o h h1 h2) (fun _ a h o=>.mk a h o) (fun _ _ _ a b h o ob=>.mk a b h o ob) (fun a=>⟨a,rfl⟩) (fun _ a d od _ vals h hd hP ho hs=>.mk a d od vals h hd hP ho hs)
theorem RepV.tupI {vs:List V} {w:Value} (W:RepV X n (.tup vs) w):AtTup X n "tuple" vs w:=W.inv
theorem RepV.froI {vs:List V} {w:Value} (W:RepV X n (.fro vs) w):AtTup X n "list" vs w:=W.inv
theorem bc {P:Prop} (h:¬P→False):P:=Classical.byContradiction h
theorem nS {α:Type} {a:α} {P:Prop} (h:none=some a):P:=nomatch h
theorem nB {P:Prop} (h:false=true):P:=nomatch h
noncomputable def aZ (v:V) (k:Int→Prop):Prop:=match v with | .int i=>k i | _=>False
noncomputable def bv (v:V) (k:List Nat→Prop):Prop:=match v with | .str x=>k x | _=>False
noncomputable def sn (v:V) (k:List UInt8→Prop):Prop:=match v with | .byt x=>k x | _=>False
noncomputable def iT (v:V) (k:Nat→Prop):Prop:=match v with | .loc l=>k l | _=>False
noncomputable def sM (v:V) (k:List V→Prop):Prop:=match v with | .tup vs=>k vs | _=>False
noncomputable def nV (vs:List V) (k:V→Prop):Prop:=match vs with | [v]=>k v | _=>False
noncomputable def uo (vs:List V) (k:V→V→Prop):Prop:=match vs with | [v,w]=>k v w | _=>False
noncomputable def G0 (vs:List V) (k:V→V→V→Prop):Prop:=match vs with | [u,v,w]=>k u v w | _=>False
noncomputable def Bg (v:V) (k:Nat→Prop):Prop:=match v with | .bm l=>k l | _=>False
noncomputable def G1 (v:V) (k:Nat→Nat→Nat→Prop):Prop:=match v with | .pm f C l=>k f C l | _=>False
noncomputable def C2 (v:V) (k:Nat→Nat→Prop):Prop:=match v with | .obj C l=>k C l | _=>False
noncomputable def noS {α:Type} (o:Option α) (P:Prop):Prop:=match o with | none=>P | some _=>False
theorem noS.out {α:Type} {o:Option α} {P:Prop} (h:noS o P):o=none∧P:=by cases o with | none=>exact ⟨rfl,h⟩ | some _=>exact h.elim
noncomputable def onNil {α:Type} (l:List α) (P:Prop):Prop:=match l with | []=>P | _::_=>False
theorem onNil.out {α:Type} {l:List α} {P:Prop} (h:onNil l P):l=[]∧P:=by cases l with | nil=>exact ⟨rfl,h⟩ | cons=>exact h.elim
noncomputable def onT (b:Bool) (P:Prop):Prop:=match b with | true=>P | false=>False
noncomputable def onS {α:Type} (o:Option α) (k:α→Prop):Prop:=match o with | some x=>k x | none=>False
theorem onT.out {b:Bool} {P:Prop} (h:onT b P):b=true∧P:=by cases b with | true=>exact ⟨rfl,h⟩ | false=>exact h.elim
inductive Got {α:Type} (o:Option α) (k:α→Prop):Prop
 | mk (x:α) (e:o=some x) (h:k x):Got o k
theorem onS.out {α:Type} {o:Option α} {k:α→Prop} (h:onS o k):Got o k:=by cases o with | some x=>exact ⟨x,rfl,h⟩ | none=>exact h.elim
section
variable {v:V} {w:Value} {M:Value→Prop}
@[elab_as_elim] theorem RepV.int_ (W:RepV X n v w) {k:Int→Prop} (h:aZ v k) (H:∀ i t,k i→M (.int i t)):M w:=by
 cases v with
 | int i=>obtain ⟨t,rfl⟩:=W.inv; exact H _ _ h
 | _=>exact h.elim
@[elab_as_elim] theorem RepV.str_ (W:RepV X n v w) {k:List Nat→Prop} (h:bv v k) (H:∀ x t,k x→M (.str ⟨x.toArray⟩ t)):M w:=by
 cases v with
 | str i=>obtain ⟨t,rfl⟩:=W.inv; exact H _ _ h
 | _=>exact h.elim
@[elab_as_elim] theorem RepV.byt_ (W:RepV X n v w) {k:List UInt8→Prop} (h:sn v k) (H:∀ x t,k x→M (.bytes x.toArray t)):M w:=by
 cases v with
 | byt i=>obtain ⟨t,rfl⟩:=W.inv; exact H _ _ h
 | _=>exact h.elim
@[elab_as_elim] theorem RepV.tup_ (W:RepV X n v w) {k:List V→Prop} (h:sM v k) (H:∀ vs vals a o,X.F a=some o→LObj "tuple" o vals→RepVs X n vs vals→k vs→M (.ref a)):M w:=by
 cases v with
 | tup vs=>cases W.tupI with | mk vals a o h1 h2 h3=>exact H _ _ _ _ h1 h2 h3 h
 | _=>exact h.elim
@[elab_as_elim] theorem RepV.bm_ (W:RepV X n v w) {k:Nat→Prop} (h:Bg v k) (H:∀ l a,l<n→X.F a=some {cls:=.type "builtin_function_or_method",data:=.fields #[.builtin "list.append",.ref (X.ρ l)]}→k l→M (.ref a)):M w:=by
 cases v with
 | bm l=>cases (W.inv:AtBm X n l w) with | mk a h1 h2=>exact H _ _ h1 h2 h
 | _=>exact h.elim
@[elab_as_elim] theorem RepV.pm_ (W:RepV X n v w) {k:Nat→Nat→Nat→Prop} (h:G1 v k) (H:∀ f C l a b,l<n→X.F a=some (methodObj (.ref f) (.ref b))→X.F b=some (instObj C (X.ρ l))→k f C l→M (.ref a)):M w:=by
 cases v with
 | pm f C l=>cases (W.inv:AtPm X n f C l w) with | mk a b h1 h2 h3=>exact H _ _ _ _ _ h1 h2 h3 h
 | _=>exact h.elim
@[elab_as_elim] theorem RepV.loc_ (W:RepV X n v w) {k:Nat→Prop} (h:iT v k) (H:∀ l,k l→M (.ref (X.ρ l))):M w:=by
 cases v with
 | loc l=>cases (W.inv:w=.ref (X.ρ l)); exact H _ h
 | _=>exact h.elim
@[elab_as_elim] theorem RepVs.on1_ {vs:List V} {vals:List Value} {M:List Value→Prop} (W:RepVs X n vs vals) {k:V→Prop} (h:nV vs k) (H:∀ v val,RepV X n v val→k v→M [val]):M vals:=by
 cases W with
 | nil=>exact h.elim
 | cons a b=>cases b with
  | nil=>exact H _ _ a h
  | cons=>exact h.elim
@[elab_as_elim] theorem RepVs.on2_ {vs:List V} {vals:List Value} {M:List Value→Prop} (W:RepVs X n vs vals) {k:V→V→Prop} (h:uo vs k) (H:∀ v w val val',RepV X n v val→RepV X n w val'→k v w→M [val,val']):M vals:=by
 cases W with
 | nil=>exact h.elim
 | cons a b=>cases b with
  | nil=>exact h.elim
  | cons b c=>cases c with
   | nil=>exact H _ _ _ _ a b h
   | cons=>exact h.elim
@[elab_as_elim] theorem RepVs.on3_ {vs:List V} {vals:List Value} {M:List Value→Prop} (W:RepVs X n vs vals) {k:V→V→V→Prop} (h:G0 vs k) (H:∀ u v w val val' val'',RepV X n u val→RepV X n v val'→RepV X n w val''→k u v w→M [val,val',val'']):M vals:=by
 cases W with
 | nil=>exact h.elim
 | cons a b=>cases b with
  | nil=>exact h.elim
  | cons b c=>cases c with
   | nil=>exact h.elim
   | cons c d=>cases d with
    | nil=>exact H _ _ _ _ _ _ a b c h
    | cons=>exact h.elim
end
end
noncomputable def Wd.drop (X:Wd) (S:List Addr):Wd:={X with F:=fun a=>if a∈S then none else X.F a}
noncomputable def Wd.frz (X:Wd) (S:List Addr) (h:Heap):Wd:={X with F:=fun a=>if a∈S then h.get? a else X.F a,P:=fun a=>if a∈S then false else X.P a}
section
variable {X:Wd} {n:Nat} {S:List Addr}
theorem Wd.drop_F {a:Addr} {o:Obj} (hS:∀ b∈S,∀ o,X.F b=some o→fy X b o) (h:X.F a=some o) (hl:Obj.loose o=false):(X.drop S).F a=some o:=by
 show (if a∈S then none else X.F a)=_
 by_cases q:a∈S
 ·rw [(hS a q o h).1] at hl; cases hl
 ·rw [QH q]; exact h
theorem Wd.drop_P {d:Addr} {od:Obj} {vals:List Value} (hS:∀ b∈S,∀ o,X.F b=some o→fy X b o) (h:X.F d=some od) (hP:X.P d=true) (ho:rC od vals):(X.drop S).F d=some od:=by
 show (if d∈S then none else X.F d)=_
 by_cases q:d∈S
 ·rcases (hS d q od h).2 with z | ⟨vs,z⟩
  ·rw [hP] at z; cases z
  ·obtain ⟨es,ep,m,e,_⟩:=ho; rw [e] at z; cases z
 ·rw [QH q]; exact h
theorem RepV.drop (hS:∀ b∈S,∀ o,X.F b=some o→fy X b o) {v:V} {val:Value} (W:RepV X n v val):RepV (X.drop S) n v val:=
 W.map (fun a o h hl=>Wd.drop_F hS h hl) (fun d od vals h hP ho=>⟨Wd.drop_P hS h hP ho,hP⟩) (.inr fun l h=>⟨h,rfl⟩)
end
structure Glob where
 prog:Program
 w:World
 K:Frag
 hb:Heap
 T:Addr
 mb:Str→Option Value
 an:List Str
 os:OsState
 drawn:Drawn
 TbOk:(Addr→Option Obj)→Array Value→Prop
 Gn:Array GenState→Prop
 Hp:Addr→Option Obj
structure Glob.Ok (G:Glob):Prop where
 K:G.K.In G.hb
 KT:G.K.lookup G.T=none
 nolimit:G.hb.NoLimit
 T1:G.T≠cStatics
 T2:G.T≠builtinsNs
 T3:G.T≠mainGlobals
 b:G.hb.Ns builtinsNs G.mb
 main:∃ o,G.hb.get? mainGlobals=some o
 boot:∀ x:Str,x≠"__name__"→G.mb x=bootBuiltins x
 tbmono:∀ F F' ps,(∀ a o,F a=some o→Obj.loose o=false→F' a=some o)→G.TbOk F ps→G.TbOk F' ps
 annd:G.an.Nodup
 anlen:G.an.length≤1000
 ws:∀ (i:Nat) (x:Str),cO[i]?=some x→G.an[i]?=some x
 lam:∃ mg,G.hb.Ns mainGlobals mg∧G.hb.BuiltinsAt mg G.T
noncomputable def B8 (ps:Array Value):Obj:={cls:=.none,data:=.fields ps}
noncomputable def AttrsAre (G:Glob) (X:Wd) (n:Nat) (at_:List (Nat×V)) (m:Str→Option Value):Prop:=
 ∀ i x,G.an[i]?=some x→match aj i at_ with
  | some v=>∃ val,m x=some val∧RepV X n v val
  | none=>m x=none
noncomputable def PairsAre (X:Wd) (n:Nat):List (List Nat×V)→List (Str×Value)→Prop
 | [],[]=>True
 | (k,v)::r,(x,val)::r'=>x=⟨k.toArray⟩∧RepV X n v val∧PairsAre X n r r'
 | _,_=>False
noncomputable def DP (w:World) (k:Option (List Nat)) (o:Obj):Prop:=match k with
 | none=>o={cls:=.type "set",dict:=none,data:=.set #[] 0 (.fresh 0 0 (!w.params.followText "set-order"))}
 | some k=>o.ExactSet∧∃ (hs:Int) (tk:Tok) (ep:Nat) (t:SetTable),o.data=.set #[(hs,.str ⟨k.toArray⟩ tk)] ep t∧t.fits 1=true∧t.led=(!w.params.followText "set-order")∧t.tooFull=false
noncomputable def RepO (G:Glob) (X:Wd) (n:Nat) (h:Heap) (a:Addr):AO→Prop
 | .list vs=>∃ o vals,h.get? a=some o∧LObj "list" o vals∧RepVs X n vs vals
 | .ns at_=>∃ m,h.Ns1 a m∧Within m G.an∧AttrsAre G X n at_ m
 | .dict kvs=>∃ kvals,h.DictOf (strKind G.prog G.w) a kvals∧PairsAre X n kvs kvals
 | .set ks=>∃ S,h.SetOf (strKind G.prog G.w) a S ks.length∧∀ x:Str,S x=ks.contains x.cps.toList
 | .cold=>h.get? a=some {cls:=.type "list",data:=.seq #[] 1}
 | .set1 k=>∃ o,h.get? a=some o∧DP G.w k o
 | .wds ss=>∃ o vals,h.get? a=some o∧LObj "list" o vals∧RepVs X n (ss.map V.str) vals
 | .own=>∃ x y:Value,h.get? a=some {cls:=.type "tuple",data:=.seq #[x,y]}
structure LocOk (G:Glob) (X:Wd) (n:Nat) (st:List (Nat×AO)) (env:Env) (lo:List (Nat×V)) (h:Heap):Prop where
 ns:∃ (m cm:Str→Option Value),h.Ns env.locals m∧(∀ x c,env.cells.lookup x=some c→h.IsCell c (cm x)) ∧
  ∀ i v,aj i lo=some v→∃ x k val,env.scope.names[i]?=some (x,k)∧RepV X n v val ∧
   ((k=.local∧m x=some val)∨((k=.cell∨k=.free)∧(env.cells.lookup x).isSome=true∧cm x=some val))
 freeL:X.F env.locals=none∧(∀ l o,aj l st=some o→X.ρ l≠env.locals)∧env.locals≠G.T
 freeC:env.frame=some env.locals→∀ x c,env.cells.lookup x=some c→X.F c=none∧(∀ l o,aj l st=some o→X.ρ l≠c)∧c≠env.locals∧c≠G.T
 frzC:env.frame≠some env.locals→∀ x c,env.cells.lookup x=some c→∃ o,X.F c=some o
 apart:env.cells.Pairwise fun x y=>x.2≠y.2
noncomputable def DJ (G:Glob) (X:Wd) (st:List (Nat×AO)) (env:Env) (h:Heap):Prop:=∀ a o,G.Hp a=some o→h.get? a=some o∧X.F a=none∧(∀ l o',aj l st=some o'→X.ρ l≠a)∧a≠env.locals∧(∀ x c,env.cells.lookup x=some c→c≠a)∧a≠G.T
structure Rel (G:Glob) (X:Wd) (env:Env) (σ:St) (s:Shared):Prop where
 sub:∀ a o,X.F a=some o→s.heap.get? a=some o
 base:∀ a o,G.hb.get? a=some o→a≠G.T→X.F a=some o
 own:∀ l o,aj l σ.st=some o→X.F (X.ρ l)=none∧X.ρ l≠G.T
 inj:∀ l l' o o',aj l σ.st=some o→aj l' σ.st=some o'→X.ρ l=X.ρ l'→l=l'
 big:∀ l o,aj l σ.st=some o→mainGlobals<X.ρ l
 st:∀ l o,aj l σ.st=some o→l<σ.nx∧RepO G X σ.nx s.heap (X.ρ l) o
 tab:s.heap.get? G.T=some (B8 X.tb)∧X.F G.T=none∧G.TbOk X.F X.tb
 loc:LocOk G X σ.nx σ.st env σ.lo s.heap
 os:s.os=G.os
 drawn:s.drawn=G.drawn
 gens:G.Gn s.gens
 hp:DJ G X σ.st env s.heap
inductive Post (G:Glob) (X:Wd) (env:Env) (n:Nat) (Q:V→St→Prop) (val:Value) (s':Shared):Prop
 | mk (v:V) (σ':St) (X':Wd) (q:Q v σ') (L:X.le n X') (hn:n≤σ'.nx) (R:Rel G X' env σ' s') (W:RepV X' σ'.nx v val)
inductive PostT (G:Glob) (X:Wd) (env:Env) (n:Nat) (Q:St→Prop) {α:Type} (u:α) (s':Shared):Prop
 | mk (σ':St) (X':Wd) (q:Q σ') (L:X.le n X') (hn:n≤σ'.nx) (R:Rel G X' env σ' s')
structure AOk (lv:Nat) (A:Around):Prop where
 handled:A.handled=none
 depth:A.depth+4*lv+8<recursionLimit
 units:A.units+64*lv+64<cLine
theorem AOk.room {lv:Nat} {A:Around} (h:AOk lv A):A.depth<recursionLimit:=Rb (QC (Nat.le_add_right _ (4*lv)) (Nat.le_add_right _ 8)) h.depth
theorem Dj {d a k l c:Nat} (h:a≤k):d+a+k*l+c≤d+k*(l+1)+c:=by
 rw [Nat.mul_succ,Nat.add_assoc d,Nat.add_comm a]; exact Nat.add_le_add_right (Nat.add_le_add_left (Nat.add_le_add_left h _) _) _
theorem AOk.up {lv:Nat} (a b:Nat) {A A':Around} (h:AOk (lv+1) A) (e0:A'.handled=A.handled) (e1:A'.depth=A.depth+a) (e2:A'.units=A.units+b) (ha:a≤4) (hb:b≤64):AOk lv A':=
 ⟨e0.trans h.handled,e1 ▸ Rb (Dj ha) h.depth,e2 ▸ Rb (Dj hb) h.units⟩
structure Sc where
 names:List (Str×NameKind)
 fn:Bool
 code:Nat
 qual:Str
structure EOk (sc:Sc) (env:Env):Prop where
 names:env.scope.names=sc.names
 kind:env.scope.kind=.function
 globals:env.globals=mainGlobals
 builtins:env.builtins=builtinsNs
 nd:(sc.names.map (·.1)).Nodup
 fn:sc.fn=true→env.frame=some env.locals
 hasC:∀ x,sc.names.lookup x=some .cell→(env.cells.lookup x).isSome=true
 code:sc.code≠0→env.code=.ref sc.code∧env.qual=sc.qual
noncomputable abbrev DE:=St→(V→St→Prop)→Prop
noncomputable def SE (G:Glob) (lv:Nat) (sc:Sc) (e:PySem.Expr) (d:DE):Prop:=∀ σ Q,d σ Q→∀ A env X s,AOk lv A→EOk sc env→Rel G X env σ s →
 wpAny (model G.prog G.w) A (eval e env) (Post G X env σ.nx Q) (fun _ _=>False) s
noncomputable abbrev DB:=St→(Bool→St→Prop)→Prop
noncomputable abbrev PostB (G:Glob) (X:Wd) (env:Env) (n:Nat) (Q:Bool→St→Prop) (b:Bool) (s':Shared):Prop:=PostT G X env n (Q b) b s'
noncomputable def SB (G:Glob) (lv:Nat) (sc:Sc) (e:PySem.Expr) (d:DB):Prop:=∀ σ Q,d σ Q→∀ A env X s,AOk lv A→EOk sc env→Rel G X env σ s →
 wpAny (model G.prog G.w) A (isTrue e env (eval e env)) (PostB G X env σ.nx Q) (fun _ _=>False) s
inductive Fl where
 | next | brk | cont | ret (v:V)
inductive RepF (X:Wd) (n:Nat):Fl→Flow→Prop
 | next:RepF X n .next .next
 | brk:RepF X n .brk .brk
 | cont:RepF X n .cont .cont
 | ret (v:V) (val:Value) (h:RepV X n v val):RepF X n (.ret v) (.ret val)
noncomputable abbrev DS:=St→(Fl→St→Prop)→Prop
inductive PostS (G:Glob) (X:Wd) (env:Env) (n:Nat) (Q:Fl→St→Prop) (f:Flow) (s':Shared):Prop
 | mk (fl:Fl) (σ':St) (X':Wd) (q:Q fl σ') (L:X.le n X') (hn:n≤σ'.nx) (R:Rel G X' env σ' s') (W:RepF X' σ'.nx fl f)
noncomputable def SS (G:Glob) (lv:Nat) (sc:Sc) (b:PySem.Stmt) (d:DS):Prop:=∀ σ Q,d σ Q→∀ A env X s,AOk lv A→EOk sc env→Rel G X env σ s →
 wpAny (model G.prog G.w) A (exec b env) (PostS G X env σ.nx Q) (fun _ _=>False) s
noncomputable def i8 (G:Glob) (lv:Nat) (sc:Sc) (b:List PySem.Stmt) (d:DS):Prop:=∀ σ Q,d σ Q→∀ A env X s,AOk lv A→EOk sc env→Rel G X env σ s →
 wpAny (model G.prog G.w) A (execs b env) (PostS G X env σ.nx Q) (fun _ _=>False) s
variable {G:Glob} {X X' X0 X1 X2:Wd} {env env':Env} {σ σ' σ1 σ2:St} {s s' s1 s2:Shared} {n n' n0:Nat} {lv lv':Nat} {sc sc':Sc} {A:Around} {S:List Addr} {tg tg':Bool}
theorem AttrsAre.imp {m:Str→Option Value} {n':Nat} {at_:List (Nat×V)} (f:∀ {v:V} {val:Value},RepV X n v val→RepV X' n' v val) (h:AttrsAre G X n at_ m):AttrsAre G X' n' at_ m:=by
 intro i x hx
 have:=h i x hx
 cases q:aj i at_ with
 | none=>rw [q] at this; exact this
 | some v=>rw [q] at this; exact this.imp fun val w=>⟨w.1,f w.2⟩
theorem PairsAre.imp {n':Nat} (f:∀ {v:V} {val:Value},RepV X n v val→RepV X' n' v val) {kvs:List (List Nat×V)}:∀ {kvals:List (Str×Value)},PairsAre X n kvs kvals→PairsAre X' n' kvs kvals:=by
 induction kvs with
 | nil=>intro kvals h; cases kvals with | nil=>exact h | cons=>exact h.elim
 | cons a r ih=>intro kvals h; cases kvals with | nil=>exact h.elim | cons=>exact ⟨h.1,f h.2.1,ih h.2.2⟩
theorem vR {prog:Program} {w:World} {h h':Heap} {a:Addr} {kvs:List (Str×Value)} (x:h.DictOf (strKind prog w) a kvs) (e:h'.get? a=h.get? a):h'.DictOf (strKind prog w) a kvs:=
 let ⟨o,es,ep,ho,r⟩:=x; ⟨o,es,ep,e.trans ho,r⟩
theorem B2 {prog:Program} {w:World} {h h':Heap} {a:Addr} {S:Str→Bool} {n:Nat} (x:h.SetOf (strKind prog w) a S n) (e:h'.get? a=h.get? a):h'.SetOf (strKind prog w) a S n:=
 let ⟨o,es,ep,t,ho,r⟩:=x; ⟨o,es,ep,t,e.trans ho,r⟩
theorem jr {h h':Heap} {a:Addr} {m:Str→Option Value} (x:h.Ns a m) (e:h'.get? a=h.get? a):h'.Ns a m:=
 let ⟨o,es,ep,ho,r⟩:=x; ⟨o,es,ep,e.trans ho,r⟩
theorem Bd {h h':Heap} {a:Addr} {m:Str→Option Value} (x:h.Ns1 a m) (e:h'.get? a=h.get? a):h'.Ns1 a m:=x.at fun o z=>e.trans z
theorem RepO.imp {h h':Heap} {a:Addr} {o:AO} {n':Nat} (f:∀ {v:V} {val:Value},RepV X n v val→RepV X' n' v val) (r:RepO G X n h a o) (e:h'.get? a=h.get? a):RepO G X' n' h' a o:=by
 have fs:∀ {vs:List V} {vals:List Value},RepVs X n vs vals→RepVs X' n' vs vals:=fun w=>w.imp (p:=fun _=>True) (fun a _=>f a) fun _ _=>trivial
 cases o with
 | list vs=>obtain ⟨o,vals,h1,h2,h3⟩:=r; exact ⟨o,vals,e.trans h1,h2,fs h3⟩
 | ns at_=>obtain ⟨m,h1,h1',h2⟩:=r; exact ⟨m,Bd h1 e,h1',h2.imp f⟩
 | dict kvs=>obtain ⟨kvals,h1,h2⟩:=r; exact ⟨kvals,vR h1 e,h2.imp f⟩
 | set ks=>obtain ⟨S,h1,h2⟩:=r; exact ⟨S,B2 h1 e,h2⟩
 | cold=>exact e.trans r
 | set1 k=>obtain ⟨ob,h1,h2⟩:=r; exact ⟨ob,e.trans h1,h2⟩
 | wds ss=>obtain ⟨o,vals,h1,h2,h3⟩:=r; exact ⟨o,vals,e.trans h1,h2,fs h3⟩
 | own=>obtain ⟨x,y,h1⟩:=r; exact ⟨x,y,e.trans h1⟩
theorem RepO.go {h h':Heap} {a:Addr} {o:AO} {n':Nat} (r:RepO G X n h a o) (L:X.le n X') (hn:n≤n') (e:h'.get? a=h.get? a):RepO G X' n' h' a o:=r.imp (fun w=>w.mono L hn) e
theorem RepO.there {h:Heap} {a:Addr} {o:AO} (r:RepO G X n h a o):∃ ob,h.get? a=some ob:=by
 cases o with
 | list vs=>obtain ⟨o,vals,h1,h2,h3⟩:=r; exact ⟨o,h1⟩
 | ns at_=>obtain ⟨m,h1,_,h2⟩:=r; obtain ⟨o,_,_,h1,_⟩:=h1.ns; exact ⟨o,h1⟩
 | dict kvs=>obtain ⟨kvals,⟨o,_,_,h1,_⟩,h2⟩:=r; exact ⟨o,h1⟩
 | set ks=>obtain ⟨S,⟨o,_,_,_,h1,_⟩,h2⟩:=r; exact ⟨o,h1⟩
 | cold=>exact ⟨_,r⟩
 | set1 k=>obtain ⟨ob,h1,h2⟩:=r; exact ⟨ob,h1⟩
 | wds ss=>obtain ⟨o,vals,h1,h2,h3⟩:=r; exact ⟨o,h1⟩
 | own=>obtain ⟨x,y,h1⟩:=r; exact ⟨_,h1⟩
theorem f8 {h h':Heap} {a:Addr} {o:Obj} (k:∀ b o,h.get? b=some o→h'.get? b=some o) (e:h.get? a=some o):h'.get? a=h.get? a:=(k a o e).trans e.symm
theorem LocOk.go {lo:List (Nat×V)} {st st':List (Nat×AO)} {h h':Heap} {n':Nat} (r:LocOk G X n st env lo h) (L:X.le n X') (hn:n≤n')
  (eL:h'.get? env.locals=h.get? env.locals) (eC:∀ x c,env.cells.lookup x=some c→h'.get? c=h.get? c)
  (fL:X'.F env.locals=none∧(∀ l o,aj l st'=some o→X'.ρ l≠env.locals))
  (fC:env.frame=some env.locals→∀ x c,env.cells.lookup x=some c→X'.F c=none∧(∀ l o,aj l st'=some o→X'.ρ l≠c)):LocOk G X' n' st' env lo h':=by
 apply bc;intro z_
 obtain ⟨⟨m,cm,h1,h2,h3⟩,h4,h5,h6,h7⟩:=r
 apply z_;clear z_
 refine ⟨⟨m,cm,jr h1 eL,fun x c hc=>?_,fun i v hv=>?_⟩,⟨fL.1,fL.2,h4.2.2⟩,fun w x c b=>⟨(fC w x c b).1,(fC w x c b).2,(h5 w x c b).2.2⟩,fun w x c b=>let ⟨o,z⟩:=h6 w x c b; ⟨o,L.F _ _ z⟩,h7⟩
 ·obtain ⟨o,ho,hd⟩:=h2 x c hc; exact ⟨o,(eC x c hc).trans ho,hd⟩
 ·obtain ⟨x,k,val,a,b,c⟩:=h3 i v hv; exact ⟨x,k,val,a,b.mono L hn,c⟩
theorem LocOk.ltL {lo:List (Nat×V)} {st:List (Nat×AO)} {h:Heap} (r:LocOk G X n st env lo h):∃ o,h.get? env.locals=some o:=by obtain ⟨_,_,⟨o,_,_,ho,_⟩,_⟩:=r.ns; exact ⟨o,ho⟩
theorem LocOk.ltC {lo:List (Nat×V)} {st:List (Nat×AO)} {h:Heap} (r:LocOk G X n st env lo h) {x:Str} {c:Addr} (e:env.cells.lookup x=some c):∃ o,h.get? c=some o:=by obtain ⟨_,_,_,h2,_⟩:=r.ns; obtain ⟨o,ho,_⟩:=h2 x c e; exact ⟨o,ho⟩
theorem Rel.keeps (R:Rel G X env σ s) (k:∀ b o,s.heap.get? b=some o→s'.heap.get? b=some o) (ho:s'.os=s.os) (hd:s'.drawn=s.drawn) (hg:G.Gn s'.gens):Rel G X env σ s':=by
 apply bc;intro z_
 obtain ⟨h1,h2,h3,h4,hb,h5,h6,h7,h8,h9,h10,h11⟩:=R
 apply z_;clear z_
 refine ⟨fun a o e=>k _ _ (h1 a o e),h2,h3,h4,hb,fun l o e=>⟨(h5 l o e).1,?_⟩,⟨k _ _ h6.1,h6.2⟩,?_,ho.trans h8,hd.trans h9,hg,fun a o e=>let ⟨z,r⟩:=h11 a o e; ⟨k _ _ z,r⟩⟩
 ·apply bc;intro z_
  obtain ⟨ob,z⟩:=(h5 l o e).2.there
  apply z_;clear z_
  exact (h5 l o e).2.go .refl (QF _) (f8 k z)
 ·apply bc;intro z_
  obtain ⟨oL,zL⟩:=h7.ltL
  apply z_;clear z_
  exact h7.go .refl (QF _) (f8 k zL) (fun x c e=>let ⟨o,z⟩:=h7.ltC e; f8 k z) ⟨h7.freeL.1,h7.freeL.2.1⟩ (fun w x c b=>⟨(h7.freeC w x c b).1,(h7.freeC w x c b).2.1⟩)
theorem Rel.toks (R:Rel G X env σ s) (t:Nat):Rel G X env σ {s with toks:=t}:=R.keeps (fun _ _ e=>e) rfl rfl R.gens
theorem Rel.heap (R:Rel G X env σ s) {h':Heap} {t:Nat} (k:∀ b o,s.heap.get? b=some o→h'.get? b=some o):Rel G X env σ {s with heap:=h',toks:=t}:=R.keeps k rfl rfl R.gens
theorem Rel.push (R:Rel G X env σ s) (o:Obj) (t:Nat):Rel G X env σ {s with heap:=s.heap.push o,toks:=t}:=R.heap fun _ _ e=>QB o e
theorem Rel.K (R:Rel G X env σ s) (ok:G.Ok):G.K.In s.heap:=fun a o e=>by
 refine R.sub _ _ (R.base a o (ok.K a o e) fun q=>?_)
 rw [q,ok.KT] at e; cases e
theorem Rel.nolimit (R:Rel G X env σ s) (ok:G.Ok):s.heap.NoLimit:=by
 apply bc;intro z_
 obtain ⟨mc,⟨o,es,ep,ho,r⟩,q⟩:=ok.nolimit
 apply z_;clear z_
 exact ⟨mc,⟨o,es,ep,R.sub _ _ (R.base _ _ ho ok.T1.symm),r⟩,q⟩
theorem Rel.bns (R:Rel G X env σ s) (ok:G.Ok):s.heap.Ns builtinsNs G.mb:=by
 apply bc;intro z_
 obtain ⟨o,es,ep,ho,r⟩:=ok.b
 apply z_;clear z_
 exact ⟨o,es,ep,R.sub _ _ (R.base _ _ ho ok.T2.symm),r⟩
theorem Rel.size (R:Rel G X env σ s) (ok:G.Ok):mainGlobals<s.heap.objs.size:=by
 obtain ⟨o,ho⟩:=ok.main
 exact QO (R.sub _ _ (R.base _ _ ho ok.T3.symm))
theorem Rel.there (R:Rel G X env σ s) {l:Nat} {o:AO} (e:aj l σ.st=some o):∃ ob,s.heap.get? (X.ρ l)=some ob:=(R.st l o e).2.there
theorem Rel.still (R:Rel G X env σ s) {a:Addr} {o:Obj} (ha:s.heap.get? a=none) (k:∀ b o,s.heap.get? b=some o→s'.heap.get? b=some o) (ho:s'.heap.get? a=some o)
  (hos:s'.os=s.os) (hd:s'.drawn=s.drawn) (hg:G.Gn s'.gens) (ok:G.Ok) :
  Rel G {X with F:=fun b=>if b=a then some o else X.F b} env σ s'∧X.le σ.nx {X with F:=fun b=>if b=a then some o else X.F b}:=by
 have ne:∀ {b:Addr} {ob:Obj},s.heap.get? b=some ob→b≠a:=fun e q=>by rw [q,ha] at e; cases e
 have L:X.le σ.nx {X with F:=fun b=>if b=a then some o else X.F b}:=⟨fun _ _=>rfl,fun b ob e=>by
  show (if b=a then some o else X.F b)=_
  rw [QH (ne (R.sub _ _ e))]; exact e,fun _ _ _=>rfl⟩
 have R':=R.keeps k hos hd hg
 apply bc;intro z_
 obtain ⟨h1,h2,h3,h4,hb,h5,h6,h7,h8,h9,h10,h11⟩:=R'
 apply z_;clear z_
 refine ⟨⟨fun b ob e=>?_,fun b ob e q=>L.F _ _ (h2 b ob e q),fun l ol hl=>⟨?_,(h3 l ol hl).2⟩,h4,hb,fun l ob e=>⟨(h5 l ob e).1,(h5 l ob e).2.go L (QF _) rfl⟩,⟨h6.1,?_,ok.tbmono _ _ _ (fun b ob e _=>L.F _ _ e) h6.2.2⟩,?_,h8,h9,h10,fun b ob e=>let ⟨z1,z2,r⟩:=h11 b ob e; ⟨z1,(QH (ne (R.hp b ob e).1)).trans z2,r⟩⟩,L⟩
 ·by_cases q:b=a
  ·have:(if b=a then some o else X.F b)=some ob:=e
   rw [QI q] at this; rw [q]; rw [← this]; exact ho
  ·have:(if b=a then some o else X.F b)=some ob:=e
   rw [QH q] at this; exact h1 _ _ this
 ·show (if X.ρ l=a then some o else X.F (X.ρ l))=none
  apply bc;intro z_
  obtain ⟨ob,z⟩:=R.there hl
  apply z_;clear z_
  rw [QH (ne z)]; exact (h3 l ol hl).1
 ·show (if G.T=a then some o else X.F G.T)=none
  rw [QH (ne R.tab.1)]; exact h6.2.1
 ·refine h7.go L (QF _) rfl (fun _ _ _=>rfl) ⟨?_,h7.freeL.2.1⟩ (fun w x c q=>⟨?_,(h7.freeC w x c q).2.1⟩)
  ·show (if env.locals=a then some o else X.F env.locals)=none
   apply bc;intro z_
   obtain ⟨oL,zL⟩:=R.loc.ltL
   apply z_;clear z_
   rw [QH (ne zL)]; exact h7.freeL.1
  ·show (if c=a then some o else X.F c)=none
   apply bc;intro z_
   obtain ⟨oL,zL⟩:=R.loc.ltC q
   apply z_;clear z_
   rw [QH (ne zL)]; exact (h7.freeC w x c q).1
theorem Rel.anew (R:Rel G X env σ s) {a:Addr} {o:AO} (ha:s.heap.get? a=none) (hbig:mainGlobals<a) (k:∀ b o,s.heap.get? b=some o→s'.heap.get? b=some o)
  (ho:∀ X',X.le σ.nx X'→RepO G X' (σ.nx+1) s'.heap a o)
  (hos:s'.os=s.os) (hd:s'.drawn=s.drawn) (hg:G.Gn s'.gens) :
  Rel G {X with ρ:=fun l=>if l=σ.nx then a else X.ρ l} env {σ with st:=(σ.nx,o)::σ.st,nx:=σ.nx+1} s'∧X.le σ.nx {X with ρ:=fun l=>if l=σ.nx then a else X.ρ l}:=by
 have ne:∀ {b:Addr} {ob:Obj},s.heap.get? b=some ob→b≠a:=fun e q=>by rw [q,ha] at e; cases e
 have L:X.le σ.nx {X with ρ:=fun l=>if l=σ.nx then a else X.ρ l}:=⟨fun l hl=>QH (Q8 hl),fun _ _ e=>e,fun _ _ _=>rfl⟩
 have Fa:X.F a=none:=by
  cases q:X.F a with
  | none=>rfl
  | some ob=>exact absurd rfl (ne (R.sub _ _ q))
 have R':=R.keeps k hos hd hg
 apply bc;intro z_
 obtain ⟨h1,h2,h3,h4,hb,h5,h6,h7,h8,h9,h10,h11⟩:=R'
 apply z_;clear z_
 have ho':=ho _ L
 have own':∀ l ol,aj l σ.st=some ol→X.ρ l≠a:=fun l ol hl=>let ⟨ob,z⟩:=R.there hl; ne z
 have cs:∀ {l:Nat} {ol:AO},aj l ((σ.nx,o)::σ.st)=some ol→(l=σ.nx∧ol=o)∨(l≠σ.nx∧aj l σ.st=some ol):=fun {l ol} e=>by
  rw [am] at e
  by_cases q:l=σ.nx
  ·rw [QI q] at e; cases e; exact .inl ⟨q,rfl⟩
  ·rw [QH q] at e; exact .inr ⟨q,e⟩
 refine ⟨⟨h1,h2,fun l ol hl=>?_,fun l l' ol ol' hl hl'=>?_,fun l ol hl=>?_,fun l ob e=>?_,h6,?_,h8,h9,h10,fun b ob e=>let ⟨z1,z2,z3,r⟩:=h11 b ob e; ⟨z1,z2,fun l ol hl=>?_,r⟩⟩,L⟩
 ·show X.F (if l=σ.nx then a else X.ρ l)=none∧(if l=σ.nx then a else X.ρ l)≠G.T
  rcases cs hl with ⟨q,_⟩ | ⟨q,hl⟩
  ·rw [QI q]; exact ⟨Fa,fun z=>ne R.tab.1 z.symm⟩
  ·rw [QH q]; exact h3 l ol hl
 ·show (if l=σ.nx then a else X.ρ l)=(if l'=σ.nx then a else X.ρ l')→l=l'
  rcases cs hl with ⟨q,_⟩ | ⟨q,hl⟩ <;> rcases cs hl' with ⟨q',_⟩ | ⟨q',hl'⟩
  ·intro _; rw [q,q']
  ·rw [QI q,QH q']; intro z; exact absurd z.symm (own' l' _ hl')
  ·rw [QH q,QI q']; intro z; exact absurd z (own' l _ hl)
  ·rw [QH q,QH q']; exact h4 l l' _ _ hl hl'
 ·show mainGlobals<(if l=σ.nx then a else X.ρ l)
  rcases cs hl with ⟨q,_⟩ | ⟨q,hl⟩
  ·rw [QI q]; exact hbig
  ·rw [QH q]; exact hb l _ hl
 ·rcases cs e with ⟨q,rfl⟩ | ⟨q,e⟩
  ·refine ⟨by rw [q]; exact QK _,?_⟩
   show RepO _ _ _ _ (if l=σ.nx then a else X.ρ l) _
   rw [QI q]; exact ho'
  ·refine ⟨Q4 (h5 l ob e).1,?_⟩
   show RepO _ _ _ _ (if l=σ.nx then a else X.ρ l) _
   rw [QH q]; exact (h5 l ob e).2.go L (Q0 _) rfl
 ·refine h7.go L (Q0 _) rfl (fun _ _ _=>rfl) ⟨h7.freeL.1,fun l ol hl=>?_⟩ (fun w x c q=>⟨(h7.freeC w x c q).1,fun l ol hl=>?_⟩)
  ·show (if l=σ.nx then a else X.ρ l)≠_
   rcases cs hl with ⟨w,_⟩ | ⟨w,hl⟩
   ·rw [QI w]; obtain ⟨oL,zL⟩:=R.loc.ltL; exact fun z=>ne zL z.symm
   ·rw [QH w]; exact h7.freeL.2.1 l ol hl
  ·show (if l=σ.nx then a else X.ρ l)≠_
   rcases cs hl with ⟨w',_⟩ | ⟨w',hl⟩
   ·rw [QI w']; obtain ⟨oL,zL⟩:=R.loc.ltC q; exact fun z=>ne zL z.symm
   ·rw [QH w']; exact (h7.freeC w x c q).2.1 l ol hl
 ·show (if l=σ.nx then a else X.ρ l)≠_
  rcases cs hl with ⟨w',_⟩ | ⟨w',hl⟩
  ·rw [QI w']; exact fun z=>ne (R.hp b ob e).1 z.symm
  ·rw [QH w']; exact z3 l ol hl
theorem Rel.upd (R:Rel G X env σ s) {l:Nat} {o₀ o:AO} (hl:aj l σ.st=some o₀) (k:∀ b,b≠X.ρ l→∀ o,s.heap.get? b=some o→s'.heap.get? b=some o)
  (ho:RepO G X σ.nx s'.heap (X.ρ l) o)
  (hos:s'.os=s.os) (hd:s'.drawn=s.drawn) (hg:G.Gn s'.gens):Rel G X env {σ with st:=gE l o σ.st} s':=by
 apply bc;intro z_
 obtain ⟨h1,h2,h3,h4,hb,h5,h6,h7,h8,h9,h10,h11⟩:=R
 apply z_;clear z_
 have neF:∀ {b:Addr} {ob:Obj},X.F b=some ob→b≠X.ρ l:=fun e q=>by rw [q,(h3 l _ hl).1] at e; cases e
 have cs:∀ {l':Nat} {ol:AO},aj l' (gE l o σ.st)=some ol→(l'=l∧ol=o)∨(l'≠l∧aj l' σ.st=some ol):=fun {l' ol} e=>by
  rw [eB] at e
  by_cases q:l'=l
  ·rw [QI q] at e; cases e; exact .inl ⟨q,rfl⟩
  ·rw [QH q] at e; exact .inr ⟨q,e⟩
 have live:∀ {l':Nat} {ol:AO},aj l' (gE l o σ.st)=some ol→∃ ol',aj l' σ.st=some ol':=fun e=>by
  rcases cs e with ⟨rfl,_⟩ | ⟨_,e⟩
  ·exact ⟨_,hl⟩
  ·exact ⟨_,e⟩
 refine ⟨fun b ob e=>k b (neF e) _ (h1 b ob e),h2,fun l' ol hl'=>let ⟨_,z⟩:=live hl'; h3 l' _ z,fun l' l'' _ _ e e'=>let ⟨_,z⟩:=live e; let ⟨_,z'⟩:=live e'; h4 l' l'' _ _ z z',fun l' _ e=>let ⟨_,z⟩:=live e; hb l' _ z,fun l' ob e=>?_,⟨k _ (h3 l _ hl).2.symm _ h6.1,h6.2⟩,?_,hos.trans h8,hd.trans h9,hg,fun b ob e=>let ⟨z1,z2,z3,r⟩:=h11 b ob e; ⟨k _ (fun w=>z3 l _ hl w.symm) _ z1,z2,fun l' _ e=>let ⟨_,z⟩:=live e; z3 l' _ z,r⟩⟩
 ·rcases cs e with ⟨rfl,rfl⟩ | ⟨q,e⟩
  ·exact ⟨(h5 _ _ hl).1,ho⟩
  ·refine ⟨(h5 l' ob e).1,?_⟩
   apply bc;intro z_
   obtain ⟨ob',z⟩:=(h5 l' ob e).2.there
   apply z_;clear z_
   exact (h5 l' ob e).2.go .refl (QF _) ((k _ (fun w=>q (h4 _ _ _ _ e hl w)) _ z).trans z.symm)
 ·apply bc;intro z_
  obtain ⟨oL,zL⟩:=h7.ltL
  apply z_;clear z_
  refine h7.go .refl (QF _) ((k _ (h7.freeL.2.1 l _ hl).symm _ zL).trans zL.symm) (fun x c e=>?_) ⟨h7.freeL.1,fun l' _ e=>let ⟨_,z⟩:=live e; h7.freeL.2.1 l' _ z⟩ (fun w x c b=>⟨(h7.freeC w x c b).1,fun l' _ e=>let ⟨_,z⟩:=live e; (h7.freeC w x c b).2.1 l' _ z⟩)
  apply bc;intro z_
  obtain ⟨oc,zc⟩:=h7.ltC e
  apply z_;clear z_
  refine (k _ (fun w=>?_) _ zc).trans zc.symm
  by_cases q:env.frame=some env.locals
  ·exact (h7.freeC q x c e).2.1 l _ hl w.symm
  ·apply bc;intro z_
   obtain ⟨o',z⟩:=h7.frzC q x c e
   apply z_;clear z_
   exact neF z w
noncomputable abbrev bh:Value→Shared→Prop:=fun _ _=>False
theorem Post.lift {Q:V→St→Prop} {val:Value} (L:X.le n X') (hn:n≤n') (h:Post G X' env n' Q val s):Post G X env n Q val s:=by
 obtain ⟨v,σ',Y,q,L',n1,R,W⟩:=h
 exact ⟨v,σ',Y,q,L.trans L' hn,QC hn n1,R,W⟩
theorem PostB.lift {Q:Bool→St→Prop} {b:Bool} (L:X.le n X') (hn:n≤n') (h:PostB G X' env n' Q b s):PostB G X env n Q b s:=by
 obtain ⟨σ',Y,q,L',n1,R⟩:=h
 exact ⟨σ',Y,q,L.trans L' hn,QC hn n1,R⟩
theorem PostS.lift {Q:Fl→St→Prop} {f:Flow} (L:X.le n X') (hn:n≤n') (h:PostS G X' env n' Q f s):PostS G X env n Q f s:=by
 obtain ⟨v,σ',Y,q,L',n1,R,W⟩:=h
 exact ⟨v,σ',Y,q,L.trans L' hn,QC hn n1,R,W⟩
theorem Post.ret {Q:V→St→Prop} {val:Value} {v:V} (q:Q v σ) (R:Rel G X env σ s) (W:RepV X σ.nx v val):Post G X env σ.nx Q val s:=
 ⟨v,σ,X,q,.refl,QF _,R,W⟩
theorem PostB.ret {Q:Bool→St→Prop} {b:Bool} (q:Q b σ) (R:Rel G X env σ s):PostB G X env σ.nx Q b s:=
 ⟨σ,X,q,.refl,QF _,R⟩
theorem SE.run {e:PySem.Expr} {d:DE} (h:SE G lv sc e d) {K:V→St→Prop} {Q:Value→Shared→Prop} (hd:d σ K) (ha:AOk lv A) (he:EOk sc env) (R:Rel G X env σ s)
  (k:∀ val s1 v σ1 X1,K v σ1→X.le σ.nx X1→σ.nx≤σ1.nx→Rel G X1 env σ1 s1→RepV X1 σ1.nx v val→Q val s1):wpAny (model G.prog G.w) A (eval e env) Q bh s:=
 Qv (h σ K hd A env X s ha he R) (fun val s1 ⟨v,σ1,X1,q,L,n1,R1,W⟩=>k val s1 v σ1 X1 q L n1 R1 W) fun _ _ z=>z
theorem SB.run {e:PySem.Expr} {d:DB} (h:SB G lv sc e d) {K:Bool→St→Prop} {Q:Bool→Shared→Prop} (hd:d σ K) (ha:AOk lv A) (he:EOk sc env) (R:Rel G X env σ s)
  (k:∀ b s1 σ1 X1,K b σ1→X.le σ.nx X1→σ.nx≤σ1.nx→Rel G X1 env σ1 s1→Q b s1):wpAny (model G.prog G.w) A (isTrue e env (eval e env)) Q bh s:=
 Qv (h σ K hd A env X s ha he R) (fun b s1 ⟨σ1,X1,q,L,n1,R1⟩=>k b s1 σ1 X1 q L n1 R1) fun _ _ z=>z
theorem SS.run {b:PySem.Stmt} {d:DS} (h:SS G lv sc b d) {K:Fl→St→Prop} {Q:Flow→Shared→Prop} (hd:d σ K) (ha:AOk lv A) (he:EOk sc env) (R:Rel G X env σ s)
  (k:∀ f s1 fl σ1 X1,K fl σ1→X.le σ.nx X1→σ.nx≤σ1.nx→Rel G X1 env σ1 s1→RepF X1 σ1.nx fl f→Q f s1):wpAny (model G.prog G.w) A (exec b env) Q bh s:=
 Qv (h σ K hd A env X s ha he R) (fun f s1 ⟨fl,σ1,X1,q,L,n1,R1,W⟩=>k f s1 fl σ1 X1 q L n1 R1 W) fun _ _ z=>z
theorem cZ {k:Nat} {p:Pos}:SE G lv sc (.Constant .none k p) (fun σ Q=>Q .non σ):=fun σ Q hd A env X s ha he R=>wpAny_Constant_none (Post.ret hd R .non)
theorem b7 {b:Bool} {k:Nat} {p:Pos}:SE G lv sc (.Constant (.bool b) k p) (fun σ Q=>Q (.boo b) σ):=fun σ Q hd A env X s ha he R=>wpAny_Constant_bool (Post.ret hd R (.boo b))
theorem aq {i:Int} {k:Nat} {p:Pos}:SE G lv sc (.Constant (.int i) k p) (fun σ Q=>Q (.int i) σ):=fun σ Q hd A env X s ha he R=>wpAny_Constant_int (Post.ret hd (R.toks _) (.int i _))
theorem aK {x:Str} {cs:List Nat} {k:Nat} {p:Pos} (h:x=⟨cs.toArray⟩):SE G lv sc (.Constant (.str x) k p) (fun σ Q=>Q (.str cs) σ):=fun σ Q hd A env X s ha he R=>by
 subst h; exact wpAny_Constant_str (Post.ret hd (R.toks _) (.str cs _))
theorem Cr {x:List UInt8} {k:Nat} {p:Pos}:SE G lv sc (.Constant (.bytes x) k p) (fun σ Q=>Q (.byt x) σ):=fun σ Q hd A env X s ha he R=>by
 show wpAny _ _ (mkTextBytes x.toArray) _ _ _
 exact Qt (wpAny_fresh (Qu (Post.ret hd (R.toks _) (.byt x _))))
theorem j2 {env:Env} {sc:Sc} (he:EOk sc env) {i:Nat} {x:Str} {k:NameKind} (h:sc.names[i]?=some (x,k)):env.kindOf x=some k:=by
 show env.scope.names.lookup x=some k
 rw [he.names]
 have nd:=he.nd
 revert i
 generalize sc.names=l at nd
 induction l with
 | nil=>intro i h; simp at h
 | cons y r ih=>
  intro i h
  obtain ⟨y,ky⟩:=y
  simp only [List.map_cons,List.nodup_cons] at nd
  cases i with
  | zero=>simp at h; obtain ⟨rfl,rfl⟩:=h; simp [List.lookup_cons]
  | succ i=>
   simp at h
   have hm:x∈r.map (·.1):=List.mem_map.mpr ⟨(x,k),QY h,rfl⟩
   have hne:(x==y)=false:=by
    cases q:x==y with
    | false=>rfl
    | true=>rw [beq_iff_eq.mp q] at hm; exact absurd hm nd.1
   rw [List.lookup_cons,hne]; exact ih nd.2 h
noncomputable def fO (i:Nat) (σ:St) (Q:V→St→Prop):Prop:=match aj i σ.lo with | some v=>Q v σ | none=>False
theorem kH {Q:V→St→Prop} {i:Nat} {x:Str} {k:NameKind} (hx:sc.names[i]?=some (x,k)) (hd:fO i σ Q) (he:EOk sc env) (R:Rel G X env σ s) (hcd:(x==("__classdict__":Str))=false) :
  wpAny (model G.prog G.w) A (loadName env x) (Post G X env σ.nx Q) bh s:=by
 unfold fO at hd
 cases hv:aj i σ.lo with
 | none=>rw [hv] at hd; exact hd.elim
 | some v=>
  rw [hv] at hd
  apply bc;intro z_
  obtain ⟨m,cm,h1,h2,h3⟩:=R.loc.ns
  obtain ⟨x',k',val,e1,W,e2⟩:=h3 i v hv
  apply z_;clear z_
  rw [he.names,hx] at e1
  cases e1
  have hk:=j2 he hx
  have hkf:env.scope.kind=.function:=he.kind
  rcases e2 with ⟨rfl,hm⟩ | ⟨hk',hc,hm⟩
  ·exact wpAny_loadName_local hkf hk h1 hm (Post.ret hd R W)
  ·apply bc;intro z_
   obtain ⟨c,hc⟩:=Option.isSome_iff_exists.mp hc
   apply z_;clear z_
   have hcell:=h2 x c hc
   rw [hm] at hcell
   rcases hk' with rfl | rfl
   ·exact wpAny_loadName_cell hkf hk hc hcell (Post.ret hd R W)
   ·exact wpAny_loadName_free hkf hk hc hcell (Post.ret hd R W) hcd
theorem uI {i:Nat} {x:Str} {k:NameKind} {p:Pos} (hx:sc.names[i]?=some (x,k)) (hdb:(x==("__debug__":Str))=false) (hcd:(x==("__classdict__":Str))=false):SE G lv sc (.Name x p) (fO i):=
 fun σ Q hd A env X s ha he R=>wpAny_Name (kH hx hd he R hcd) hdb
theorem gb {x:Str} {i:Nat} (he:EOk sc env) {Q:Value→Shared→Prop} (hx:sc.names[i]?=some (x,.globalImplicit)) (h:wpAny (model G.prog G.w) A (loadGlobal env x) Q bh s) :
  wpAny (model G.prog G.w) A (loadName env x) Q bh s:=by
 have hk:env.kindOf x=some .globalImplicit:=j2 he hx
 have hkf:env.scope.kind=.function:=he.kind
 unfold loadName
 simp only [Env.blockKind,hkf,hk,ScopeKind.isAnnotationScope,Bool.false_and,Bool.false_eq_true,if_false]
 exact h
theorem uG {i:Nat} {x:Str} {p:Pos} {a:Addr} (ok:G.Ok) (hx:sc.names[i]?=some (x,.globalImplicit)) (hg:nsIn G.K mainGlobals x=some (some (.ref a))) (hdb:(x==("__debug__":Str))=false) :
  SE G lv sc (.Name x p) (fun σ Q=>Q (.gl a) σ):=fun σ Q hd A env X s ha he R=>by
 refine wpAny_Name (gb he hx ?_) hdb
 unfold loadGlobal
 rw [he.globals]
 refine Qt ((looks_nsIn (R.K ok) hg).here ?_)
 exact Qu (Post.ret hd R (.gl a))
theorem eo {i:Nat} {x:Str} {v:Value} {Q:Value→Shared→Prop} (ok:G.Ok) (he:EOk sc env) (R:Rel G X env σ s) (hx:sc.names[i]?=some (x,.globalImplicit)) (hg:nsIn G.K mainGlobals x=some none)
  (hn:x≠"__name__") (hb:bootBuiltins x=some v) (q:Q v s):wpAny (model G.prog G.w) A (loadName env x) Q bh s:=by
 refine gb he hx ?_
 unfold loadGlobal
 rw [he.globals]
 refine Qt ((looks_nsIn (R.K ok) hg).here ?_)
 rw [he.builtins]
 refine Qt (wpAny_nsGet (R.bns ok) ?_)
 rw [ok.boot x hn,hb]
 exact Qu q
theorem Oj {i:Nat} {x:Str} {p:Pos} {T:String} (ok:G.Ok) (hx:sc.names[i]?=some (x,.globalImplicit)) (hg:nsIn G.K mainGlobals x=some none) (hn:x≠"__name__") (hb:bootBuiltins x=some (.type T)) (hdb:(x==("__debug__":Str))=false) :
  SE G lv sc (.Name x p) (fun σ Q=>Q (.ty T) σ):=fun σ Q hd A env X s ha he R=>wpAny_Name (eo ok he R hx hg hn hb (Post.ret hd R (.ty T))) hdb
noncomputable def bu (v:V) (σ:St) (k:List V→Prop):Prop:=match v with
 | .fro vs=>k vs
 | .loc l=>match aj l σ.st with
  | some (.list vs)=>k vs
  | _=>False
 | _=>False
theorem tz {q:Option AO} {k:List V→Prop} (h:match q with
  | some (.list vs)=>k vs
  | _=>False):∃ vs,q=some (.list vs)∧k vs:=by
 cases q with
 | none=>exact h.elim
 | some ao=>cases ao with
  | list vs=>exact ⟨vs,rfl,h⟩
  | _=>exact h.elim
theorem br {v:V} {val:Value} {k:List V→Prop} (R:Rel G X env σ s) (W:RepV X σ.nx v val) (h:bu v σ k) :
  ∃ a o items vs,val=.ref a∧s.heap.get? a=some o∧LObj "list" o items∧RepVs X σ.nx vs items∧k vs:=by
 cases v with
 | fro vs=>cases W.froI with | mk vals a o h1 h2 h3=>exact ⟨a,o,vals,vs,rfl,R.sub _ _ h1,h2,h3,h⟩
 | loc l=>
  apply bc;intro z_
  obtain ⟨vs,q,h⟩:=tz h
  obtain ⟨_,o,vals,h1,h2,h3⟩:=R.st l _ q
  apply z_;clear z_
  exact ⟨_,o,vals,vs,W.inv,h1,h2,h3,h⟩
 | _=>exact h.elim
theorem LObj.isList {h:Heap} {a:Addr} {o:Obj} {items:List Value} (e:h.get? a=some o) (l:LObj "list" o items):h.IsList a items.toArray:=⟨o,e,l.1,l.2.2.1⟩
theorem LObj.isTuple {h:Heap} {a:Addr} {o:Obj} {items:List Value} (e:h.get? a=some o) (l:LObj "tuple" o items):h.IsTuple a items.toArray:=⟨o,e,l.1,l.2.2.1⟩
theorem RepVs.length {vs:List V} {vals:List Value} (h:RepVs X n vs vals):vals.length=vs.length:=by
 induction vs generalizing vals with
 | nil=>cases h; rfl
 | cons v r ih=>cases h with | cons a b=>simp [ih b]
theorem RepVs.append {vs ws:List V} {vals wals:List Value} (h:RepVs X n vs vals) (h':RepVs X n ws wals):RepVs X n (vs++ws) (vals++wals):=by
 induction vs generalizing vals with
 | nil=>cases h; exact h'
 | cons v r ih=>cases h with | cons a b=>exact .cons a (ih b)
theorem RepVs.get {vs:List V} {vals:List Value} (h:RepVs X n vs vals) {i:Nat} {v:V} (e:vs[i]?=some v):∃ val,vals[i]?=some val∧RepV X n v val:=by
 induction vs generalizing vals i with
 | nil=>simp at e
 | cons w r ih=>
  cases h with
  | cons a b=>
   cases i with
   | zero=>simp at e; subst e; exact ⟨_,rfl,a⟩
   | succ i=>simp at e; obtain ⟨val,p,q⟩:=ih b e; exact ⟨val,by simpa using p,q⟩
theorem aH {h:Heap}:h.get? h.objs.size=none:=by
 cases q:h.get? h.objs.size with
 | none=>rfl
 | some o=>exact absurd (QO q) (Nat.lt_irrefl _)
theorem Post.newList {Q:V→St→Prop} {vs:List V} {vals:List Value} {t:Nat} (ok:G.Ok) (q:Q (.fro vs) σ) (R:Rel G X env σ s) (W:RepVs X σ.nx vs vals) {ep:Nat} :
  Post G X env σ.nx Q (.ref s.heap.objs.size) {s with heap:=s.heap.push {cls:=.type "list",data:=.seq vals.toArray ep},toks:=t}:=by
 apply bc;intro z_
 obtain ⟨R',L⟩:=R.still (s':={s with heap:=s.heap.push {cls:=.type "list",data:=.seq vals.toArray ep},toks:=t}) aH (fun _ _ e=>QB _ e) (QG _ rfl) rfl rfl R.gens ok
 apply z_;clear z_
 exact ⟨_,σ,_,q,L,QF _,R',.fro vs vals _ _ (QI rfl) ⟨rfl,rfl,⟨ep,rfl⟩,rfl⟩ (W.mono L (QF _))⟩
theorem Post.newTuple {Q:V→St→Prop} {vs:List V} {vals:List Value} {t:Nat} (ok:G.Ok) (q:Q (.tup vs) σ) (R:Rel G X env σ s) (W:RepVs X σ.nx vs vals) {ep:Nat} :
  Post G X env σ.nx Q (.ref s.heap.objs.size) {s with heap:=s.heap.push {cls:=.type "tuple",data:=.seq vals.toArray ep},toks:=t}:=by
 obtain ⟨R',L⟩:=R.still (s':={s with heap:=s.heap.push {cls:=.type "tuple",data:=.seq vals.toArray ep},toks:=t}) aH (fun _ _ e=>QB _ e) (QG _ rfl) rfl rfl R.gens ok
 exact ⟨_,σ,_,q,L,QF _,R',.tup vs vals _ _ (QI rfl) ⟨rfl,rfl,⟨ep,rfl⟩,rfl⟩ (W.mono L (QF _))⟩
noncomputable def g7 (o:AO) (σ:St) (Q:V→St→Prop):Prop:=Q (.loc σ.nx) {σ with st:=(σ.nx,o)::σ.st,nx:=σ.nx+1}
theorem Post.newLocList {Q:V→St→Prop} {vs:List V} {vals:List Value} {t:Nat} (ok:G.Ok) (q:g7 (.list vs) σ Q) (R:Rel G X env σ s) (W:RepVs X σ.nx vs vals) {ep:Nat} :
  Post G X env σ.nx Q (.ref s.heap.objs.size) {s with heap:=s.heap.push {cls:=.type "list",data:=.seq vals.toArray ep},toks:=t}:=by
 obtain ⟨R',L⟩:=R.anew (o:=.list vs) (s':={s with heap:=s.heap.push {cls:=.type "list",data:=.seq vals.toArray ep},toks:=t}) aH (R.size ok) (fun _ _ e=>QB _ e)
  (fun X' L=>⟨_,vals,QG _ rfl,⟨rfl,rfl,⟨ep,rfl⟩,rfl⟩,W.mono L (Q0 _)⟩) rfl rfl R.gens
 refine ⟨_,_,_,q,L,Q0 _,R',?_⟩
 have:=RepV.loc (X:={X with ρ:=fun l=>if l=σ.nx then s.heap.objs.size else X.ρ l}) (n:=σ.nx+1) σ.nx (QK _)
 dsimp only at this
 rw [QI rfl] at this
 exact this
noncomputable abbrev DA:=St→(List V→St→Prop)→Prop
noncomputable def SA (G:Glob) (lv:Nat) (sc:Sc) (es:List PySem.Expr) (d:DA):Prop:=∀ σ Q,d σ Q→∀ A env X s pos,AOk lv A→EOk sc env→Rel G X env σ s →
 wpAny (model G.prog G.w) A (spliced (backTo pos (starEach es env))) (fun vals s'=>∃ vs σ' X',Q vs σ'∧X.le σ.nx X'∧σ.nx≤σ'.nx∧Rel G X' env σ' s'∧RepVs X' σ'.nx vs vals) bh s
theorem ab:SA G lv sc [] (fun σ Q=>Q [] σ):=fun σ Q hd A env X s pos ha he R=>spliced_nil ⟨[],σ,X,hd,.refl,QF _,R,.nil⟩
noncomputable def ib (d:DE) (ds:DA):DA:=fun σ Q=>d σ fun v σ1=>ds σ1 fun vs σ2=>Q (v::vs) σ2
theorem mH {e:PySem.Expr} {es:List PySem.Expr} {d:DE} {ds:DA} (h:SE G lv sc e d) (hs:SA G lv sc es ds) (hst:∀ env r,starEach (e::r) env=(false,eval e env)::starEach r env):SA G lv sc (e::es) (ib d ds):=fun σ Q hd A env X s pos ha he R=>by
 rw [hst]
 show wpAny _ _ (spliced ((false,eval e env)::backTo pos (starEach es env))) _ _ _
 refine spliced_cons (h.run hd ha he R fun val s1 v σ1 X1 k1 L1 n1 R1 W1=>?_)
 refine Qv (hs σ1 _ k1 A env X1 s1 pos ha he R1) (fun vals s2 y_=>?_) fun _ _ z=>z
 apply bc;intro z_
 obtain ⟨vs,σ2,X2,q,L2,n2,R2,W2⟩:=y_
 apply z_;clear z_
 exact ⟨v::vs,σ2,X2,q,L1.trans L2 n1,QC n1 n2,R2,.cons (W1.mono L2 n2) W2⟩
noncomputable def sZ (ds:DA):DE:=fun σ Q=>ds σ fun vs σ1=>match Nat.ble vs.length 100000 with | true=>Q (.tup vs) σ1 | false=>False
theorem bA {es:List PySem.Expr} {ds:DA} {k:Nat} {p:Pos} (ok:G.Ok) (h:SA G lv sc es ds) (hz:es.length≤1000):SE G lv sc (.Tuple es k p) (sZ ds):=fun σ Q hd A env X s ha he R=>by
 refine Tuple_ (Qv (h σ _ hd A env X s p ha he R) (fun vals s1 y_=>?_) fun _ _ z=>z)
 apply bc;intro z_
 obtain ⟨vs,σ1,X1,q,L1,n1,R1,W1⟩:=y_
 apply z_;clear z_
 cases hb:Nat.ble vs.length 100000 with
 | false=>rw [hb] at q; exact q.elim
 | true=>
  rw [hb] at q
  have hz:vals.length≤sizeLine:=by rw [W1.length,QN]; have:=QD hb; omega
  unfold newTuple
  exact wpAny_newObj_type (Post.lift L1 n1 (Post.newTuple (t:=s1.toks) ok q R1 W1)) (by show vals.toArray.size≤sizeLine; rw [QJ]; exact hz)
noncomputable def uH (ds:DA):DE:=fun σ Q=>ds σ fun vs σ1=>match Nat.ble vs.length 100000 with | true=>g7 (.list vs) σ1 Q | false=>False
theorem b8 {es:List PySem.Expr} {ds:DA} {p:Pos} (ok:G.Ok) (h:SA G lv sc es ds):SE G lv sc (.List es p) (uH ds):=fun σ Q hd A env X s ha he R=>by
 refine List_ (Qv (h σ _ hd A env X s p ha he R) (fun vals s1 y_=>?_) fun _ _ z=>z)
 apply bc;intro z_
 obtain ⟨vs,σ1,X1,q,L1,n1,R1,W1⟩:=y_
 apply z_;clear z_
 cases hb:Nat.ble vs.length 100000 with
 | false=>rw [hb] at q; exact q.elim
 | true=>
  rw [hb] at q
  have hz:vals.length≤sizeLine:=by rw [W1.length,QN]; have:=QD hb; omega
  exact wpAny_newList (Post.lift L1 n1 (Post.newLocList (t:=s1.toks) ok q R1 W1)) hz
noncomputable def fits (n:Nat) (P:Prop):Prop:=onT (Nat.ble n 1000000) P
theorem fits.out {n:Nat} {P:Prop} (h:fits n P):n≤1000000∧P:=⟨QD (onT.out h).1,(onT.out h).2⟩
noncomputable def bg (i:Int):Bool:=match i with
 | .ofNat n=>Nat.blt n 1000000000
 | .negSucc n=>Nat.blt n 1000000000
theorem ew {i:Int} (h:bg i=true):i<1000000000 ∧ -1000000000≤i:=by
 cases i with
 | ofNat n=>exact ⟨Int.ofNat_lt.mpr (QD h),Int.le_trans (by decide) (Int.natCast_nonneg n)⟩
 | negSucc n=>exact ⟨Int.lt_trans (Int.negSucc_lt_zero n) (by decide),by have:n+1≤1000000000:=QD h; omega⟩
theorem fF {i:Int} (h:bg i=true):i.natAbs<1073741824:=by
 cases i with
 | ofNat n=>exact Nat.lt_trans (QD h:n<1000000000) (by decide)
 | negSucc n=>exact Rb (QD h:n+1≤1000000000) (by decide)
theorem A1 {n:Nat} (h:n<1073741824):n.log2<30:=by
 cases n with
 | zero=>decide
 | succ n=>exact (Nat.log2_lt (k:=30) (Nat.succ_ne_zero n)).mpr h
theorem jL {i:Int} (h:bg i=true):Builtin.Int.intBits i≤64:=by
 have:=A1 (fF h)
 unfold Builtin.Int.intBits
 split
 ·exact Q3 _
 ·exact QC (Nat.succ_le_succ (Nat.le_of_lt this)) (by decide)
noncomputable def posI (j:Int) (k:Nat→Prop):Prop:=match j with | .ofNat (n+1)=>k n | _=>False
theorem posI.out {j:Int} {k:Nat→Prop} (h:posI j k):∃ n,j=.ofNat (n+1)∧k n:=by
 cases j with
 | negSucc m=>exact h.elim
 | ofNat m=>cases m with
  | zero=>exact h.elim
  | succ m=>exact ⟨m,rfl,h⟩
noncomputable def vu (op:Operator) (i j:Int) (σ:St) (Q:V→St→Prop):Prop:=match op with
 | .Add=>Q (.int (i+j)) σ
 | .Sub=>Q (.int (i - j)) σ
 | .Mult=>onT (or (bg i) (bg j)) (Q (.int (i*j)) σ)
 | .FloorDiv=>onT (bg j) (posI j fun n=>Q (.int (Int.fdiv i (.ofNat (n+1)))) σ)
 | .Mod=>posI j fun n=>Q (.int (Int.fmod i (.ofNat (n+1)))) σ
 | .Pow=>onT (decide (i=10) && decide (j=6)) (Q (.int 1000000) σ)
 | _=>False
noncomputable def lJ {α:Type} (n:Int) (vs:List α):List α:=match n with
 | .ofNat n=>(List.replicate n vs).flatten
 | _=>[]
noncomputable def vz (op:Operator) (a b:V) (σ:St) (Q:V→St→Prop):Prop:=match op with
 | .Add=>bu a σ fun xs=>bu b σ fun ys=>fits (xs.length+ys.length) (Q (.fro (xs++ys)) σ)
 | .Mult=>aZ b fun n=>bu a σ fun xs=>onT (bg n) (fits (xs.length*n.toNat) (Q (.fro (lJ n xs)) σ))
 | _=>False
noncomputable def vA (op:Operator) (x:List Nat) (b:V) (σ:St) (Q:V→St→Prop):Prop:=match op with
 | .Add=>bv b fun y=>fits (x.length+y.length) (Q (.str (x++y)) σ)
 | .Mult=>aZ b fun n=>onT (bg n) (fits (x.length*n.toNat) (Q (.str (lJ n x)) σ))
 | _=>False
noncomputable def vt (op:Operator) (x:List UInt8) (b:V) (σ:St) (Q:V→St→Prop):Prop:=match op with
 | .Add=>sn b fun y=>fits (x.length+y.length) (Q (.byt (x++y)) σ)
 | _=>False
noncomputable def D3 (op:Operator) (a b:V) (σ:St) (Q:V→St→Prop):Prop:=match a with
 | .int i=>aZ b fun j=>vu op i j σ Q
 | .str x=>vA op x b σ Q
 | .byt x=>vt op x b σ Q
 | a=>vz op a b σ Q
theorem fH {x y:List Nat}:(⟨x.toArray⟩:Str)++⟨y.toArray⟩=⟨(x++y).toArray⟩:=by
 show Str.mk (x.toArray++y.toArray)=_
 simp
theorem bl {x:List Nat}:(⟨x.toArray⟩:Str).length=x.length:=by show x.toArray.size=_; simp
theorem gO {x:List Nat}:∀ (n:Nat) (acc:Array Nat),(List.replicate n x.toArray).foldl (·++·) acc=acc++((List.replicate n x).flatten).toArray
 | 0,acc=>by simp
 | n+1,acc=>by rw [List.replicate_succ,List.foldl_cons,gO n]; simp [List.replicate_succ]
theorem tc {op:Operator} {i j:Int} {t u:Tok} {Q:V→St→Prop} (ha:AOk lv A) (h:vu op i j σ Q) (R:Rel G X env σ s) :
  wpAny (model G.prog G.w) A (binaryOp op (.int i t) (.int j u)) (Post G X env σ.nx Q) bh s:=by
 have fin:∀ (k:Int),Q (.int k) σ→Post G X env σ.nx Q (.int k s.toks) {s with toks:=s.toks+1}:=fun k q=>Post.ret q (R.toks _) (.int k _)
 cases op with
 | Add=>exact add_int (fin _ h)
 | Sub=>exact sub_int (fin _ h)
 | Mult=>
  apply bc;intro z_
  obtain ⟨q,h⟩:=onT.out h
  apply z_;clear z_
  exact mul_int (fin _ h) ((Bool.or_eq_true_iff.mp q).elim (fun q=>IntMulOk.of_left (jL q)) fun q=>IntMulOk.of_right (jL q))
 | Mod=>
  apply bc;intro z_
  obtain ⟨m,rfl,h⟩:=posI.out h
  apply z_;clear z_
  exact PyProof.Rows.mod_int (by intro e; cases e) (fin _ h)
 | FloorDiv=>
  apply bc;intro z_
  obtain ⟨q,h⟩:=onT.out h
  obtain ⟨m,rfl,h⟩:=posI.out h
  apply z_;clear z_
  exact floordiv_int (by intro e; cases e) (fin _ h) (.inl (PyProof.noPylong_small (fF q)))
 | Pow=>
  apply bc;intro z_
  obtain ⟨q,h⟩:=onT.out h
  rw [Bool.and_eq_true,decide_eq_true_eq,decide_eq_true_eq] at q
  obtain ⟨rfl,rfl⟩:=q
  apply z_;clear z_
  exact pow_int (by decide) (by decide +kernel) (fin _ h)
 | _=>exact h.elim
theorem tf {a b:V} {va vb:Value} {Q:V→St→Prop} (ok:G.Ok) (R:Rel G X env σ s) (Wa:RepV X σ.nx a va) (Wb:RepV X σ.nx b vb)
  (h:bu a σ fun xs=>bu b σ fun ys=>fits (xs.length+ys.length) (Q (.fro (xs++ys)) σ)):wpAny (model G.prog G.w) A (binaryOp .Add va vb) (Post G X env σ.nx Q) bh s:=by
 apply bc;intro z_
 obtain ⟨l,o,vs,xs,rfl,ho,hl,W1,h⟩:=br R Wa h
 obtain ⟨l2,o2,ws,ys,rfl,ho2,hl2,W2,h⟩:=br R Wb h
 obtain ⟨hz,q⟩:=h.out
 obtain ⟨cls,dd,data,sl⟩:=o
 obtain ⟨cls2,dd2,data2,sl2⟩:=o2
 obtain ⟨hc,hdd,⟨n,hd⟩,hsl⟩:=hl
 obtain ⟨hc2,hdd2,⟨n2,hd2⟩,hsl2⟩:=hl2
 apply z_;clear z_
 dsimp only at hc hd hc2 hd2
 subst hc hd hc2 hd2
 refine concat_meets ⟨_,ho,rfl⟩ ⟨_,ho2,rfl⟩ noFill_list_add seq_list_add PySem.F.slot_list_add PySem.F.entry_list_add (PySem.F.args_list_add_2 _ _) (list_addW l l2 vs.toArray ws.toArray n n2 dd dd2 sl sl2 ?_) ⟨ho,ho2,?_⟩
 ·simp only [QJ,W1.length,W2.length,QN]; omega
 ·have e:vs.toArray++ws.toArray=(vs++ws).toArray:=by simp
  rw [e]
  exact Post.newList ok q R (W1.append W2)
theorem RepVs.flatten {vs:List V} {vals:List Value} (h:RepVs X n vs vals):∀ k:Nat,RepVs X n (List.replicate k vs).flatten (List.replicate k vals).flatten
 | 0=>.nil
 | k+1=>by rw [List.replicate_succ,List.replicate_succ,List.flatten_cons,List.flatten_cons]; exact h.append (RepVs.flatten h k)
theorem qW {a:V} {va:Value} {i:Int} {u:Tok} {Q:V→St→Prop} (ok:G.Ok) (R:Rel G X env σ s) (Wa:RepV X σ.nx a va)
  (h:bu a σ fun xs=>onT (bg i) (fits (xs.length*i.toNat) (Q (.fro (lJ i xs)) σ))):wpAny (model G.prog G.w) A (binaryOp .Mult va (.int i u)) (Post G X env σ.nx Q) bh s:=by
 apply bc;intro z_
 obtain ⟨l,o,vs,xs,rfl,ho,hl,W1,h⟩:=br R Wa h
 obtain ⟨hs,h⟩:=onT.out h
 obtain ⟨hz,q⟩:=fits.out h
 have ⟨b1,b2⟩:=ew hs
 obtain ⟨cls,dd,data,sl⟩:=o
 obtain ⟨hc,hdd,⟨k,hd⟩,hsl⟩:=hl
 apply z_;clear z_
 dsimp only at hc hd
 subst hc hd
 have hz':vs.toArray.size*i.toNat≤1000000:=by rw [QJ,W1.length]; exact hz
 have hz2:vs.length*i.toNat≤1000000:=hz'
 have eq:lJ i xs=(List.replicate i.toNat xs).flatten:=by cases i <;> rfl
 rw [eq] at q
 refine wpAny_binaryOp_repeat_ref (T:="list") (U:="int") (by decide) ⟨_,ho,rfl⟩ (fun s'=>typeIs_int s' i u) noFill_list_mul F.fills_int_mul F.slot_int_rmul repeat_list F.slot_int_index.lookup
  (call_meets F.slot_int_rmul (typeIs_int s i u) F.entry_int_rmul (F.args_int_rmul_2 _ _) (lm_int_rmul_list_any i u l vs.toArray k dd sl)
   ⟨ho,rfl,⟨_,ho,rfl⟩,call_meets F.slot_list_mul ⟨_,ho,rfl⟩ F.entry_list_mul (F.args_list_mul_2 _ _)
    (lm_list_mul_any l vs.toArray k dd sl i u (by simp [Builtin.List.listFitsIndex]; omega) (by omega) (by rw [QJ]; have hq:¬ (vs.length*i.toNat > sizeLine):=(by rw [QN]; omega); rw [show Builtin.List.listTooLong (vs.length*i.toNat)=false from QR hq]; exact QM))
    ⟨ho,?_⟩⟩)
 rw [listMul_foldl_if]
 exact Post.newList ok q R (W1.flatten _)
theorem Ba {x:List Nat} {i:Int}:Txt.mul ⟨x.toArray⟩ i=⟨(lJ i x).toArray⟩:=by
 unfold Txt.mul
 cases i with
 | negSucc n=>rw [QI (by omega)]; rfl
 | ofNat n=>
  by_cases h1:Int.ofNat n<1
  ·rw [QI h1]
   have:n=0:=by simp only [Int.ofNat_eq_natCast] at h1; omega
   subst this; rfl
  ·rw [QH h1]
   by_cases h2:((Int.ofNat n==1 || (⟨x.toArray⟩:Str).length==0)=true)
   ·rw [QI h2]
    rw [Bool.or_eq_true,bl] at h2
    rcases h2 with h2 | h2
    ·have:n=1:=Int.ofNat.inj (beq_iff_eq.mp h2)
     subst this; simp [lJ]
    ·have:x=[]:=List.length_eq_zero_iff.mp (beq_iff_eq.mp h2)
     subst this
     show Str.mk #[]=Str.mk (List.replicate n []).flatten.toArray
     rw [List.flatten_replicate_nil]
   ·rw [QH h2]
    show Str.mk _=Str.mk _
    rw [gO]
    simp [lJ]
theorem te {op:Operator} {x:List Nat} {t:Tok} {b:V} {vb:Value} {Q:V→St→Prop} (h:vA op x b σ Q) (R:Rel G X env σ s) (Wb:RepV X σ.nx b vb) :
  wpAny (model G.prog G.w) A (binaryOp op (.str ⟨x.toArray⟩ t) vb) (Post G X env σ.nx Q) bh s:=by
 cases op with
 | Add=>
  refine Wb.str_ h fun y u h=>?_
  apply bc;intro z_
  obtain ⟨hz,q⟩:=fits.out h
  apply z_;clear z_
  refine PyProof.Rows.add_str (fun t' tk=>?_) (by rw [bl,bl,QN]; exact QC hz (by decide))
  rw [fH]
  exact Post.ret q (R.toks _) (.str _ _)
 | Mult=>
  refine Wb.int_ h fun i u h=>?_
  apply bc;intro z_
  obtain ⟨hs,h⟩:=onT.out h
  obtain ⟨hz,q⟩:=fits.out h
  apply z_;clear z_
  have ⟨b1,b2⟩:=ew hs
  refine SB.mul ⟨?_,?_,?_⟩ fun t' k=>?_
  ·rw [Bool.or_eq_false_iff]; exact ⟨QR (by omega),QR (by omega)⟩
  ·intro h1 _ h2
   rw [bl] at h2
   have hi:0<i:=by omega
   have h3:=(Int.ediv_lt_iff_lt_mul hi).mp h2
   have h4:(x.length:Int)*i≤1000000:=by
    have:((x.length*i.toNat:Nat):Int)≤1000000:=Int.ofNat_le.mpr hz
    rw [Int.natCast_mul,Int.toNat_of_nonneg (Int.le_of_lt hi)] at this
    exact this
   exact absurd (Int.lt_of_lt_of_le h3 h4) (by decide)
  ·intro h1 _
   rw [bl]
   exact QR (by rw [QN]; omega)
  ·rw [Ba]
   exact Post.ret q (R.toks _) (.str _ _)
 | _=>exact h.elim
theorem s8 {op:Operator} {x:List UInt8} {t:Tok} {b:V} {vb:Value} {Q:V→St→Prop} (h:vt op x b σ Q) (R:Rel G X env σ s) (Wb:RepV X σ.nx b vb) :
  wpAny (model G.prog G.w) A (binaryOp op (.bytes x.toArray t) vb) (Post G X env σ.nx Q) bh s:=by
 cases op with
 | Add=>
  refine Wb.byt_ h fun y u h=>?_
  obtain ⟨hz,q⟩:=fits.out h
  refine PySem.W.KBy.add_bytes (by simp only [QJ]; omega) (fun t' tk=>?_)
  rw [show x.toArray++y.toArray=(x++y).toArray by simp]
  exact Post.ret q (R.toks _) (.byt _ _)
 | _=>exact h.elim
theorem td {op:Operator} {a b:V} {va vb:Value} {Q:V→St→Prop} (ok:G.Ok) (h:vz op a b σ Q) (R:Rel G X env σ s) (Wa:RepV X σ.nx a va) (Wb:RepV X σ.nx b vb) :
  wpAny (model G.prog G.w) A (binaryOp op va vb) (Post G X env σ.nx Q) bh s:=by
 cases op with
 | Add=>exact tf ok R Wa Wb h
 | Mult=>exact Wb.int_ h fun i t h=>qW ok R Wa h
 | _=>exact h.elim
theorem mO {op:Operator} {a b:V} {va vb:Value} {Q:V→St→Prop} (ok:G.Ok) (ha:AOk lv A) (h:D3 op a b σ Q) (R:Rel G X env σ s) (Wa:RepV X σ.nx a va) (Wb:RepV X σ.nx b vb) :
  wpAny (model G.prog G.w) A (binaryOp op va vb) (Post G X env σ.nx Q) bh s:=by
 cases a with
 | int i=>obtain ⟨t,rfl⟩:=Wa.inv; exact Wb.int_ h fun j u h=>tc ha h R
 | str x=>obtain ⟨t,rfl⟩:=Wa.inv; exact te h R Wb
 | byt x=>obtain ⟨t,rfl⟩:=Wa.inv; exact s8 h R Wb
 | _=>exact td ok h R Wa Wb
noncomputable def zX (op:Operator) (dl dr:DE):DE:=fun σ Q=>dl σ fun a σ1=>dr σ1 fun b σ2=>D3 op a b σ2 Q
theorem aD {op:Operator} {l r:PySem.Expr} {dl dr:DE} {p:Pos} (ok:G.Ok) (hl:SE G lv sc l dl) (hr:SE G lv sc r dr):SE G lv sc (.BinOp l op r p) (zX op dl dr):=fun σ Q hd A env X s ha he R=>by
 refine wpAny_BinOp (hl.run hd ha he R fun va s1 a σ1 X1 k1 L1 n1 R1 W1=>hr.run k1 ha he R1 fun vb s2 b σ2 X2 k2 L2 n2 R2 W2=>?_)
 exact Qv (mO ok ha k2 R2 (W1.mono L2 n2) W2) (fun _ _ z=>Post.lift (L1.trans L2 n1) (QC n1 n2) z) fun _ _ z=>z
noncomputable def z0 (d:DE):DE:=fun σ Q=>d σ fun v σ1=>aZ v fun i=>Q (.int (-i)) σ1
theorem d3 {e:PySem.Expr} {d:DE} {p:Pos} (h:SE G lv sc e d):SE G lv sc (.UnaryOp .USub e p) (z0 d):=fun σ Q hd A env X s ha he R=>by
 refine wpAny_UnaryOp (h.run hd ha he R fun va s1 a σ1 X1 k1 L1 n1 R1 W1=>?_)
 exact W1.int_ k1 fun i t k=>PyProof.Rows.neg_int (Post.lift L1 n1 (Post.ret k (R1.toks _) (.int _ _)))
noncomputable def Gx:List Nat→Bool
 | []=>true
 | c::r=>and (Nat.blt c 1114112) (Gx r)
noncomputable def pZ (f:V→Option PyData):List V→Option (List PyData)
 | []=>some []
 | v::r=>(f v).bind fun d=>(pZ f r).map (List.cons d)
noncomputable def eA (l:Nat) (σ:St):Option (List V):=match aj l σ.st with | some (.list vs)=>some vs | _=>none
theorem bS {l:Nat} {σ:St} {vs:List V} (h:eA l σ=some vs):aj l σ.st=some (.list vs):=by
 unfold eA at h
 split at h
 ·cases h; assumption
 ·first | exact nS h | exact nB h | cases h
noncomputable def zJ:Nat→St→V→Option PyData
 | 0,_,_=>none
 | n+1,σ,v=>match v with
  | .non=>some .none
  | .int i=>some (.int i)
  | .str s=>(match Gx s with | true=>some (.str ⟨s.toArray⟩) | false=>none)
  | .tup vs=>(pZ (zJ n σ) vs).map .tuple
  | .fro vs=>(pZ (zJ n σ) vs).map .list
  | .loc l=>(eA l σ).bind fun vs=>(pZ (zJ n σ) vs).map .list
  | _=>none
noncomputable def ly (x:List Nat):List Nat→Bool:=@List.rec Nat (fun _=>List Nat→Bool) (fun y=>@List.rec Nat (fun _=>Bool) true (fun _ _ _=>false) y)
 (fun a _ ih y=>@List.rec Nat (fun _=>Bool) false (fun b t _=>@Bool.rec (fun _=>Bool) false (ih t) (Nat.beq a b)) y) x
theorem dZ:∀ {x y:List Nat},ly x y=decide (x=y)
 | [],[]=>rfl
 | a::r,b::t=>by
  show (@Bool.rec (fun _=>Bool) false (ly r t) (Nat.beq a b))=_
  rw [dY]
  by_cases h:a=b
  ·simp [h,dZ (x:=r)]
  ·simp [h]
 | [],_::_=>rfl
 | _::_,[]=>rfl
noncomputable def Ax:Int→Int→Bool
 | .ofNat a,.ofNat b=>Nat.beq a b
 | .negSucc a,.negSucc b=>Nat.beq a b
 | _,_=>false
theorem Ay {a b:Int}:Ax a b=decide (a=b):=by
 cases a <;> cases b <;> simp [Ax,dY]
 omega
noncomputable def LN (f:PyData→PyData→Bool):List PyData→List PyData→Bool
 | [],[]=>true
 | a::r,b::t=>and (f a b) (LN f r t)
 | _,_=>false
noncomputable def Aw:Nat→PyData→PyData→Bool
 | 0,_,_=>false
 | n+1,d,e=>match d with
  | .none=>(match e with | .none=>true | _=>false)
  | .int i=>(match e with | .int j=>Ax i j | _=>false)
  | .str x=>(match e with | .str y=>ly x.cps.toList y.cps.toList | _=>false)
  | .tuple xs=>(match e with | .tuple ys=>LN (Aw n) xs ys | _=>false)
  | .list xs=>(match e with | .list ys=>LN (Aw n) xs ys | _=>false)
  | _=>false
theorem Gy:∀ {s:List Nat},Gx s=true→PyData.strOk ⟨s.toArray⟩=true:=by
 intro s h
 have:∀ c∈s,c<1114112:=by
  induction s with
  | nil=>intro c hc; cases hc
  | cons a r ih=>exact List.forall_mem_cons.mpr ⟨QD (Bool.and_eq_true_iff.mp h).1,ih (Bool.and_eq_true_iff.mp h).2⟩
 unfold PyData.strOk
 rw [← Array.all_toList,List.all_eq_true]
 intro c hc
 exact QS (this c hc)
inductive DatIs (h:Heap) (n:Nat) (val:Value) (d:PyData):Prop
 | mk (as:List Addr) (r:Reads h val d as) (c:d.canLay0=true) (l:d.depth≤n)
inductive DatsAre (h:Heap) (n:Nat) (vals:List Value) (ds:List PyData):Prop
 | mk (as:List Addr) (r:ReadsAll h vals ds as) (c:PyData.canLayAll0 ds=true) (l:PyData.depthAll ds≤n)
theorem gV {f:V→Option PyData} {h:Heap} {m:Nat} (hf:∀ {v:V} {val:Value} {d:PyData},RepV X n v val→f v=some d→DatIs h m val d) :
  ∀ {vs:List V} {vals:List Value} {ds:List PyData},RepVs X n vs vals→pZ f vs=some ds→DatsAre h m vals ds:=by
 intro vs
 induction vs with
 | nil=>intro vals ds W e; cases W; cases e; exact ⟨_,.nil,rfl,Q3 _⟩
 | cons v r hi=>
  intro vals ds W e
  cases W with
  | cons w ws=>
   apply bc;intro z_
   obtain ⟨d,q,e⟩:=Option.bind_eq_some_iff.mp e
   obtain ⟨ds',q',rfl⟩:=Option.map_eq_some_iff.mp e
   obtain ⟨as,ra,c,l⟩:=hf w q
   obtain ⟨bs,rb,c',l'⟩:=hi ws q'
   apply z_;clear z_
   exact ⟨_,.cons ra rb,by simp only [PyData.canLayAll0,c,c',Bool.and_self],by simp only [PyData.depthAll]; exact Nat.max_le.mpr ⟨l,l'⟩⟩
theorem oB {h:Heap} {m:Nat} {a:Addr} {o:Obj} {vals:List Value} {ds:List PyData} (ho:h.get? a=some o) (hl:LObj "list" o vals) (x:DatsAre h m vals ds):DatIs h (m+1) (.ref a) (.list ds):=by
 apply bc;intro z_
 obtain ⟨as,ra,c,l⟩:=x
 obtain ⟨hc,_,⟨ep,hd⟩,_⟩:=hl
 apply z_;clear z_
 exact ⟨_,reads_list_at ho hc hd ra,by simpa only [PyData.canLay0] using c,by simp only [PyData.depth]; exact Nat.succ_le_succ l⟩
theorem gw (R:Rel G X env σ s):∀ (n:Nat) {v:V} {val:Value} {d:PyData},RepV X σ.nx v val→zJ n σ v=some d→DatIs s.heap n val d:=by
 intro n
 induction n with
 | zero=>intro v val d _ e; cases e
 | succ n ih=>
  intro v val d W e
  cases v with
  | non=>cases e; cases (W.inv:val=.none); exact ⟨_,.none,rfl,by simp only [PyData.depth]; exact Q3 _⟩
  | int i=>cases e; obtain ⟨t,rfl⟩:=W.inv; exact ⟨_,.int i t,rfl,by simp only [PyData.depth]; exact Q3 _⟩
  | str x=>
   apply bc;intro z_
   obtain ⟨t,rfl⟩:=W.inv
   apply z_;clear z_
   have e:(match Gx x with | true=>some (PyData.str ⟨x.toArray⟩) | false=>none)=some d:=e
   cases q:Gx x with
   | false=>rw [q] at e; exact nS e
   | true=>rw [q] at e; cases e; exact ⟨_,.str _ t,by simpa only [PyData.canLay0] using Gy q,by simp only [PyData.depth]; exact Q3 _⟩
  | tup vs=>
   apply bc;intro z_
   obtain ⟨vals,a,o,h,ho,hs⟩:=W.tupI
   obtain ⟨ds,q,rfl⟩:=Option.map_eq_some_iff.mp e
   obtain ⟨as,ra,c,l⟩:=gV ih hs q
   obtain ⟨hc,_,⟨ep,hd⟩,_⟩:=ho
   apply z_;clear z_
   exact ⟨_,reads_tuple_at (R.sub _ _ h) hc hd ra,by simpa only [PyData.canLay0] using c,by simp only [PyData.depth]; exact Nat.succ_le_succ l⟩
  | fro vs=>
   apply bc;intro z_
   obtain ⟨vals,a,o,h,ho,hs⟩:=W.froI
   obtain ⟨ds,q,rfl⟩:=Option.map_eq_some_iff.mp e
   apply z_;clear z_
   exact oB (R.sub _ _ h) ho (gV ih hs q)
  | loc l=>
   cases (W.inv:val=.ref (X.ρ l))
   apply bc;intro z_
   obtain ⟨vs,q0,e⟩:=Option.bind_eq_some_iff.mp e
   obtain ⟨ds,q,rfl⟩:=Option.map_eq_some_iff.mp e
   obtain ⟨_,o,vals,h1,h2,h3⟩:=R.st l _ (bS q0)
   apply z_;clear z_
   exact oB h1 h2 (gV ih h3 q)
  | _=>exact nS e
noncomputable def un:Nat→PyData→Prop
 | 0,_=>False
 | n+1,d=>match d with
  | .none=>True
  | .int _=>True
  | .str _=>True
  | .tuple xs=>∀ x∈xs,un n x
  | .list xs=>∀ x∈xs,un n x
  | _=>False
theorem vO {f:V→Option PyData} {P:PyData→Prop} (hf:∀ v d,f v=some d→P d):∀ {vs:List V} {ds:List PyData},pZ f vs=some ds→∀ d∈ds,P d:=by
 intro vs
 induction vs with
 | nil=>intro ds e; cases e; intro d hd; cases hd
 | cons v r ih=>
  intro ds e
  apply bc;intro z_
  obtain ⟨d,q,e⟩:=Option.bind_eq_some_iff.mp e
  obtain ⟨ds',q',rfl⟩:=Option.map_eq_some_iff.mp e
  apply z_;clear z_
  exact List.forall_mem_cons.mpr ⟨hf v _ q,ih q'⟩
theorem mT:∀ (n:Nat) {σ:St} {v:V} {d:PyData},zJ n σ v=some d→un n d:=by
 intro n
 induction n with
 | zero=>intro σ v d e; cases e
 | succ n ih=>
  intro σ v d e
  have lst:∀ {vs:List V} {c:List PyData→PyData},(pZ (zJ n σ) vs).map c=some d→(∀ ds,(∀ x∈ds,un n x)→un (n+1) (c ds))→un (n+1) d:=by
   intro vs c e hc
   apply bc;intro z_
   obtain ⟨ds,q,rfl⟩:=Option.map_eq_some_iff.mp e
   apply z_;clear z_
   exact hc _ (vO (fun v d=>ih) q)
  cases v with
  | non=>cases e; trivial
  | int i=>cases e; trivial
  | str x=>
   have e:(match Gx x with | true=>some (PyData.str ⟨x.toArray⟩) | false=>none)=some d:=e
   cases q:Gx x with
   | false=>rw [q] at e; exact nS e
   | true=>rw [q] at e; cases e; trivial
  | tup vs=>exact lst e fun _ h=>h
  | fro vs=>exact lst e fun _ h=>h
  | loc l=>
   apply bc;intro z_
   obtain ⟨vs,q0,e⟩:=Option.bind_eq_some_iff.mp e
   apply z_;clear z_
   exact lst e fun _ h=>h
  | _=>exact nS e
theorem gx {i j:Int}:Ax i j=(i==j):=by rw [Ay]; by_cases q:i=j <;> simp [q]
theorem rT {x y:Str}:ly x.cps.toList y.cps.toList=(x==y):=by
 obtain ⟨⟨x⟩⟩:=x
 obtain ⟨⟨y⟩⟩:=y
 rw [dZ]
 by_cases q:x=y <;> simp [q]
theorem rU:∀ (n:Nat) {m:Nat} {d e:PyData},un n d→un m e→∀ k,n≤k→Aw k d e=PyData.eqv d e:=by
 intro n
 induction n with
 | zero=>intro m d e h; exact h.elim
 | succ n ih=>
  have all:∀ {k m:Nat} {xs ys:List PyData},n≤k→(∀ x∈xs,un n x)→(∀ y∈ys,un m y)→LN (Aw k) xs ys=PyData.eqvAll xs ys:=by
   intro k m xs
   induction xs with
   | nil=>intro ys _ _ _; cases ys <;> rfl
   | cons x xs hi=>
    intro ys hk hx hy
    cases ys with
    | nil=>rfl
    | cons y ys=>
     show and (Aw k x y) (LN (Aw k) xs ys)=and (PyData.eqv x y) (PyData.eqvAll xs ys)
     rw [ih (hx x (.head _)) (hy y (.head _)) k hk,hi hk (fun z hz=>hx z (.tail _ hz)) fun z hz=>hy z (.tail _ hz)]
  intro m d e hd he k hk
  cases k with
  | zero=>omega
  | succ k=>
   have hk:=Nat.le_of_succ_le_succ hk
   cases m with
   | zero=>exact he.elim
   | succ m=>
    cases d <;> first | exact hd.elim | skip
    ·cases e <;> first | rfl | exact he.elim
    ·cases e <;> first | rfl | exact he.elim | skip
     exact gx
    ·cases e <;> first | rfl | exact he.elim | skip
     exact rT
    ·cases e <;> first | rfl | exact he.elim | exact all hk hd he
    ·cases e <;> first | rfl | exact he.elim | exact all hk hd he
noncomputable def q5 {α:Type}:List α→Bool
 | []=>false
 | _::_=>true
noncomputable def kq (l:Nat) (σ:St):Option (List (List Nat×V)):=match aj l σ.st with | some (.dict kvs)=>some kvs | _=>none
theorem eR {l:Nat} {σ:St} {vs:List (List Nat×V)} (h:kq l σ=some vs):aj l σ.st=some (.dict vs):=by
 unfold kq at h
 split at h
 ·cases h; assumption
 ·first | exact nS h | exact nB h | cases h
noncomputable def zu (o:Option AO) (σ:St) (Q:Bool→St→Prop):Prop:=match o with
 | some (.list vs)=>fits vs.length (Q (q5 vs) σ)
 | some (.dict kvs)=>fits kvs.length (Q (q5 kvs) σ)
 | _=>False
noncomputable def dT (v:V) (σ:St) (Q:Bool→St→Prop):Prop:=match v with
 | .boo b=>Q b σ
 | .non=>Q false σ
 | .int i=>Q (!Ax i 0) σ
 | .str s=>fits s.length (Q (q5 s) σ)
 | .fro vs=>fits vs.length (Q (q5 vs) σ)
 | .loc l=>zu (aj l σ.st) σ Q
 | _=>False
theorem gI (R:Rel G X env σ s) {l:Nat} {o:AO} (hl:aj l σ.st=some o):(X.ρ l==sysModules)=false:=by
 have h:=R.big l o hl
 cases q:X.ρ l==sysModules with
 | false=>rfl
 | true=>rw [beq_iff_eq.mp q] at h; exact absurd h (by decide)
theorem gC {kvs:List (List Nat×V)} {kvals:List (Str×Value)}:PairsAre X n kvs kvals→kvals.length=kvs.length:=by
 induction kvs generalizing kvals with
 | nil=>intro h; cases kvals with | nil=>rfl | cons=>exact h.elim
 | cons a r ih=>intro h; cases kvals with | nil=>exact h.elim | cons b r'=>simp [ih h.2.2]
theorem o6 {α β:Type} {a:List α} {b:List β} (h:b.length=a.length):(!b.isEmpty)=q5 a:=by
 cases a <;> cases b <;> first | rfl | cases h
theorem gt {a:Addr} {o:Obj} {items:List Value} {vs:List V} {Q:Bool→St→Prop} (ho:s.heap.get? a=some o) (hl:LObj "list" o items) (W:RepVs X n vs items)
  (h:fits vs.length (Q (q5 vs) σ)) (R:Rel G X env σ s):wpAny (model G.prog G.w) A (truthy (.ref a)) (PostB G X env σ.nx Q) bh s:=by
 apply bc;intro z_
 obtain ⟨hz,q⟩:=h.out
 apply z_;clear z_
 refine wpAny_truthy_list (hl.isList ho) (by rw [QJ,W.length]; omega) ?_
 rw [List.isEmpty_toArray,o6 W.length]
 exact PostB.ret q (R.toks _)
theorem pJ {v:V} {val:Value} {Q:Bool→St→Prop} (h:dT v σ Q) (R:Rel G X env σ s) (W:RepV X σ.nx v val) :
  wpAny (model G.prog G.w) A (truthy val) (PostB G X env σ.nx Q) bh s:=by
 cases v with
 | non=>cases (W.inv:val=.none); exact truthy_none (PostB.ret h R)
 | boo b=>cases (W.inv:val=.bool b); exact wpAny_truthy_bool (PostB.ret h R)
 | int i=>obtain ⟨t,rfl⟩:=W.inv; exact PyProof.Rows.truthy_int (PostB.ret (show Q (!(i==0)) σ from gx (i:=i) (j:=0) ▸ h) R)
 | str x=>
  apply bc;intro z_
  obtain ⟨t,rfl⟩:=W.inv
  obtain ⟨hz,q⟩:=fits.out h
  apply z_;clear z_
  refine PySem.P.truthy_str (by rw [bl]; omega) ?_
  have:(((⟨x.toArray⟩:Str).length:Int) != 0)=(q5 x):=by
   rw [bl]; cases x <;> rfl
  rw [this]
  exact PostB.ret q (R.toks _)
 | fro vs=>cases W.froI with | mk vals a o h1 ho hs=>exact gt (R.sub _ _ h1) ho hs h R
 | loc l=>
  cases (W.inv:val=.ref (X.ρ l))
  have h:zu (aj l σ.st) σ Q:=h
  cases q:aj l σ.st with
  | none=>rw [q] at h; exact h.elim
  | some ao=>
   rw [q] at h
   cases ao with
   | list vs=>
    apply bc;intro z_
    obtain ⟨_,o,vals,h1,h2,h3⟩:=R.st l _ q
    apply z_;clear z_
    exact gt h1 h2 h3 h R
   | dict kvs=>
    apply bc;intro z_
    obtain ⟨hz,q2⟩:=fits.out h
    obtain ⟨_,kvals,h1,h2⟩:=R.st l _ q
    apply z_;clear z_
    have hlen:=gC h2
    refine wpAny_truthy_dict (gI R q) h1 (by rw [hlen]; omega) ?_
    rw [o6 hlen]
    exact PostB.ret q2 (R.toks _)
   | _=>exact h.elim
 | _=>exact h.elim
open PySem.SeqAt
noncomputable def jD (d:PyData):List PyData→Bool
 | []=>false
 | y::r=>or (Aw 8 y d) (jD d r)
noncomputable def r7 (k:List Nat):List (List Nat×V)→Bool
 | []=>false
 | p::r=>or (ly p.1 k) (r7 k r)
noncomputable def gM (k:List Nat):List (List Nat)→Bool
 | []=>false
 | x::r=>or (ly x k) (gM k r)
noncomputable def LP:Bool→CmpOp
 | true=>.NotEq
 | false=>.Eq
noncomputable def Mr:Bool→CmpOp
 | true=>.IsNot
 | false=>.Is
noncomputable def Fm:Bool→CmpOp
 | true=>.NotIn
 | false=>.In
noncomputable def ma:V→Bool
 | .non=>true
 | _=>false
noncomputable def jp (b:Bool) (σ:St) (Q:Bool→St→Prop):Bool→Prop:=fun r=>match b with | true=>Q (match r with | true=>false | false=>true) σ | false=>Q r σ
noncomputable def CF (neg:Bool) (a b:V) (σ:St) (Q:Bool→St→Prop):Prop:=onS (zJ 8 σ a) fun d=>onS (zJ 8 σ b) fun e=>jp neg σ Q (Aw 8 d e)
noncomputable def Ow (neg:Bool) (a b:V) (σ:St) (Q:Bool→St→Prop):Prop:=match a with
 | .int i=>aZ b fun j=>jp neg σ Q (Ax i j)
 | .str x=>bv b fun y=>jp neg σ Q (ly x y)
 | a=>CF neg a b σ Q
noncomputable def Pj (op:CmpOp) (i j:Int) (σ:St) (Q:Bool→St→Prop):Prop:=match op with
 | .Lt=>Q (decide (i<j)) σ
 | .LtE=>Q (decide (i≤j)) σ
 | .Gt=>Q (decide (j<i)) σ
 | .GtE=>Q (decide (j≤i)) σ
 | _=>False
noncomputable def G5 (op:CmpOp) (a b:V) (σ:St) (Q:Bool→St→Prop):Prop:=aZ a fun i=>aZ b fun j=>Pj op i j σ Q
noncomputable def O3 (neg:Bool) (a b:V) (σ:St) (Q:Bool→St→Prop):Prop:=match b with
 | .non=>jp neg σ Q (ma a)
 | .ty T=>(match a with
  | .ty U=>jp neg σ Q (decide (U=T))
  | _=>False)
 | _=>False
noncomputable def Nz (d:PyData) (k:List PyData→Prop):Prop:=match d with
 | .list ys=>k ys
 | .tuple ys=>k ys
 | _=>False
noncomputable def CR (neg:Bool) (a b:V) (σ:St) (Q:Bool→St→Prop):Prop:=onS (zJ 8 σ a) fun d=>onS (zJ 8 σ b) fun e=>Nz e fun ys=>jp neg σ Q (jD d ys)
noncomputable def P9 (neg:Bool) (a:V) (o:Option AO) (σ:St) (Q:Bool→St→Prop):Prop:=match o with
 | some (.set ks)=>bv a fun x=>jp neg σ Q (gM x ks)
 | some (.dict kvs)=>bv a fun x=>jp neg σ Q (r7 x kvs)
 | _=>False
noncomputable def OR (neg:Bool) (a b:V) (σ:St) (Q:Bool→St→Prop):Prop:=match b with
 | .loc l=>P9 neg a (aj l σ.st) σ Q
 | _=>CR neg a b σ Q
noncomputable def D5 (op:CmpOp) (a b:V) (σ:St) (Q:Bool→St→Prop):Prop:=match op with
 | .Eq=>Ow false a b σ Q
 | .NotEq=>Ow true a b σ Q
 | .Is=>O3 false a b σ Q
 | .IsNot=>O3 true a b σ Q
 | .In=>OR false a b σ Q
 | .NotIn=>OR true a b σ Q
 | op=>G5 op a b σ Q
theorem l4 {n:Nat} {d:PyData} (hd:un n d):∀ {ys:List PyData},(∀ y∈ys,un 7 y)→jD d ys=ys.any (fun y=>PyData.eqv y d):=by
 intro ys
 induction ys with
 | nil=>intro _; rfl
 | cons y r ih=>
  intro h
  show or (Aw 8 y d) (jD d r)=or (PyData.eqv y d) (r.any fun y=>PyData.eqv y d)
  rw [rU 7 (h y (.head _)) hd 8 (by decide),ih fun z hz=>h z (.tail _ hz)]
theorem cF {k:List Nat} {ks:List (List Nat)}:gM k ks=ks.contains k:=by
 induction ks with
 | nil=>rfl
 | cons x r ih=>
  show or (ly x k) (gM k r)=_
  rw [ih,dZ,List.contains_cons]
  by_cases h:x=k
  ·rw [h,beq_self_eq_true,QS rfl]
  ·rw [QR h,beq_eq_false_iff_ne.mpr fun e=>h e.symm]
theorem tr {k:List Nat} {kvs:List (List Nat×V)}:∀ {kvals:List (Str×Value)},PairsAre X n kvs kvals→r7 k kvs=(valueAt kvals ⟨k.toArray⟩).isSome:=by
 induction kvs with
 | nil=>intro kvals h; cases kvals with | nil=>rfl | cons=>exact h.elim
 | cons p r ih=>
  intro kvals h
  cases kvals with
  | nil=>exact h.elim
  | cons q r'=>
   apply bc;intro z_
   obtain ⟨y,val⟩:=q
   obtain ⟨rfl,_,hr⟩:=h
   apply z_;clear z_
   show or (ly p.1 k) (r7 k r)=_
   rw [ih hr,dZ]
   simp only [valueAt,List.find?_cons]
   by_cases q:p.1=k
   ·simp [q]
   ·have:¬ ((⟨p.1.toArray⟩:Str)=⟨k.toArray⟩):=by intro e; injection e with e; injection e with e; exact q e
    simp [q,this]
noncomputable def pst (G:Glob) (X:Wd) (env:Env) (n:Nat) (Q:Bool→St→Prop):Value→Shared→Prop:=fun v s'=>∃ b,v=.bool b∧PostB G X env n Q b s'
theorem Bc {neg r:Bool} {Q:Bool→St→Prop} (h:jp neg σ Q r):Q (neg ^^ r) σ:=by cases neg <;> cases r <;> exact h
theorem pst.ret {Q:Bool→St→Prop} {neg r b:Bool} (h:jp neg σ Q r) (e:b=(neg ^^ r)) (R:Rel G X env σ s):pst G X env σ.nx Q (.bool b) s:=
 ⟨b,rfl,PostB.ret (e ▸ Bc h) R⟩
theorem vX {neg:Bool} {a b:V} {va vb:Value} {Q:Bool→St→Prop} (ha:AOk lv A) (R:Rel G X env σ s) (Wa:RepV X σ.nx a va) (Wb:RepV X σ.nx b vb)
  (h:CF neg a b σ Q) :
  wpAny (model G.prog G.w) A (compareOp (LP neg) va vb) (pst G X env σ.nx Q) bh s:=by
 obtain ⟨d,q,h⟩:=onS.out h
 obtain ⟨e,q',h⟩:=onS.out h
 obtain ⟨as,ra,c,l⟩:=gw R 8 Wa q
 obtain ⟨bs,rb,c',l'⟩:=gw R 8 Wb q'
 have hu:A.units+64<cLine:=Rb (Nat.add_le_add_right (Nat.le_add_right ..) _) ha.units
 have e1:=rU 8 (mT 8 q) (mT 8 q') 8 (QF _)
 have sh:∀ {d:PyData},d.canLay0=true→d.depth≤8→SeqAt.shaped d=true:=fun c l=>by
  unfold SeqAt.shaped; rw [c,Bool.true_and]; exact QS (by omega)
 cases neg with
 | false=>exact eq_dataH ra rb (sh c l) (sh c' l') hu (pst.ret h (by rw [e1,Bool.false_xor]) R)
 | true=>exact ne_dataH ra rb (sh c l) (sh c' l') hu (pst.ret h (by rw [e1,Bool.true_xor]) R)
theorem vW {neg:Bool} {a b:V} {va vb:Value} {Q:Bool→St→Prop} (ha:AOk lv A) (R:Rel G X env σ s) (Wa:RepV X σ.nx a va) (Wb:RepV X σ.nx b vb) (h:Ow neg a b σ Q) :
  wpAny (model G.prog G.w) A (compareOp (LP neg) va vb) (pst G X env σ.nx Q) bh s:=by
 cases a with
 | int i=>
  obtain ⟨t,rfl⟩:=Wa.inv
  refine Wb.int_ h fun j u h=>?_
  cases neg with
  | false=>exact PyProof.Rows.eq_int (pst.ret h (by rw [gx,Bool.false_xor]) R)
  | true=>exact PyProof.Rows.ne_int (pst.ret h (by rw [gx,Bool.true_xor]; rfl) R)
 | str x=>
  obtain ⟨t,rfl⟩:=Wa.inv
  refine Wb.str_ h fun y u h=>?_
  have e:((⟨x.toArray⟩:Str)==⟨y.toArray⟩)=ly x y:=rT.symm
  cases neg with
  | false=>exact PyProof.Rows.eq_str (pst.ret h (by rw [e,Bool.false_xor]) R)
  | true=>exact PyProof.Rows.ne_str (pst.ret h (by rw [bne,e,Bool.true_xor]) R)
 | _=>exact vX ha R Wa Wb h
theorem RepV.nonIs {a:V} {va:Value} (W:RepV X n a va):PySem.plainIs va .none=true∧(va==Value.none)=ma a:=
 @RepV.casesOn X n (fun a va _=>PySem.plainIs va .none=true∧(va==Value.none)=ma a) a va W ⟨rfl,rfl⟩ (fun _=>⟨rfl,rfl⟩) (fun _ _=>⟨rfl,rfl⟩) (fun _ _=>⟨rfl,rfl⟩) (fun _ _=>⟨rfl,rfl⟩) (fun _=>⟨rfl,rfl⟩) (fun _=>⟨rfl,rfl⟩) (fun _ _=>⟨rfl,rfl⟩)
  (fun _ _ _ _ _=>⟨rfl,rfl⟩) (fun _ _ _ _ _ _ _=>⟨rfl,rfl⟩) (fun _ _ _ _ _ _ _=>⟨rfl,rfl⟩) (fun _ _ _ _=>⟨rfl,rfl⟩) (fun _ _ _ _ _ _ _ _=>⟨rfl,rfl⟩) (fun _=>⟨rfl,rfl⟩) (fun _ _ _ _ _ _ _ _ _ _ _=>⟨rfl,rfl⟩)
theorem wL {neg:Bool} {a b:V} {va vb:Value} {Q:Bool→St→Prop} (R:Rel G X env σ s) (Wa:RepV X σ.nx a va) (Wb:RepV X σ.nx b vb) (h:O3 neg a b σ Q) :
  wpAny (model G.prog G.w) A (compareOp (Mr neg) va vb) (pst G X env σ.nx Q) bh s:=by
 have fin:∀ {vb:Value} {r:Bool},PySem.plainIs va vb=true→(va==vb)=r→jp neg σ Q r→wpAny (model G.prog G.w) A (compareOp (Mr neg) va vb) (pst G X env σ.nx Q) bh s:=fun {vb r} hp e h=>by
  cases neg with
  | false=>exact wpAny_is_plain hp (pst.ret h (by rw [e,Bool.false_xor]) R)
  | true=>exact wpAny_isNot_plain hp (pst.ret h (by rw [e,Bool.true_xor]) R)
 cases b with
 | non=>
  cases (Wb.inv:vb=.none)
  exact fin Wa.nonIs.1 Wa.nonIs.2 h
 | ty T=>
  cases (Wb.inv:vb=.type T)
  cases a with
  | ty U=>
   cases (Wa.inv:va=.type U)
   exact fin rfl (by by_cases q:U=T <;> simp [q]) h
  | _=>exact h.elim
 | _=>exact h.elim
theorem Bi {op:CmpOp} {a b:V} {va vb:Value} {Q:Bool→St→Prop} (R:Rel G X env σ s) (Wa:RepV X σ.nx a va) (Wb:RepV X σ.nx b vb) (h:G5 op a b σ Q) :
  wpAny (model G.prog G.w) A (compareOp op va vb) (pst G X env σ.nx Q) bh s:=by
 refine Wa.int_ h fun i t h=>?_
 refine Wb.int_ h fun j u h=>?_
 cases op with
 | Lt=>exact PyProof.Rows.lt_int ⟨_,rfl,PostB.ret h R⟩
 | LtE=>exact PyProof.Rows.le_int ⟨_,rfl,PostB.ret h R⟩
 | Gt=>exact PyProof.Rows.gt_int ⟨_,rfl,PostB.ret h R⟩
 | GtE=>exact PyProof.Rows.ge_int ⟨_,rfl,PostB.ret h R⟩
 | _=>exact h.elim
theorem wC {neg:Bool} {a b:V} {va vb:Value} {Q:Bool→St→Prop} (ha:AOk lv A) (R:Rel G X env σ s) (Wa:RepV X σ.nx a va) (Wb:RepV X σ.nx b vb) (h:CR neg a b σ Q) :
  wpAny (model G.prog G.w) A (compareOp (Fm neg) va vb) (pst G X env σ.nx Q) bh s:=by
 obtain ⟨d,q,h⟩:=onS.out h
 obtain ⟨e,q',h⟩:=onS.out h
 obtain ⟨as,ra,c,l⟩:=gw R 8 Wa q
 obtain ⟨bs,rb,c',l'⟩:=gw R 8 Wb q'
 have hroom:∀ ys,A.units+1+min (PyData.depthAll ys) d.depth<cLine:=fun ys=>Rb (QC (Nat.add_le_add_left (QC (Nat.min_le_right ..) l) _) (by omega)) ha.units
 have o1:=mT 8 q
 have o2:=mT 8 q'
 cases e with
 | list ys=>
  have e1:jD d ys=_:=l4 o1 o2
  have h:jp neg σ Q (jD d ys):=h
  cases neg with
  | false=>exact in_list_reads rb ra c' c (hroom _) (pst.ret h (by rw [e1,Bool.false_xor]) R)
  | true=>exact notIn_list_reads rb ra c' c (hroom _) (pst.ret h (by rw [e1,Bool.true_xor]) R)
 | tuple ys=>
  have e1:jD d ys=_:=l4 o1 o2
  have h:jp neg σ Q (jD d ys):=h
  cases neg with
  | false=>exact in_tuple_reads rb ra c' c (hroom _) (pst.ret h (by rw [e1,Bool.false_xor]) R)
  | true=>exact notIn_tuple_reads rb ra c' c (hroom _) (pst.ret h (by rw [e1,Bool.true_xor]) R)
 | _=>exact h.elim
theorem Fk {neg:Bool} {a:V} {l:Nat} {va:Value} {Q:Bool→St→Prop} (R:Rel G X env σ s) (Wa:RepV X σ.nx a va) (h:P9 neg a (aj l σ.st) σ Q) :
  wpAny (model G.prog G.w) A (compareOp (Fm neg) va (.ref (X.ρ l))) (pst G X env σ.nx Q) bh s:=by
 cases q:aj l σ.st with
 | none=>rw [q] at h; exact h.elim
 | some ao=>
  rw [q] at h
  cases ao with
  | set ks=>
   refine Wa.str_ h fun x t h=>?_
   apply bc;intro z_
   obtain ⟨_,S,h1,h2⟩:=R.st l _ q
   apply z_;clear z_
   have e:S ⟨x.toArray⟩=gM x ks:=by rw [h2,cF]
   have hk:(PySem.strKind G.prog G.w).is ⟨x.toArray⟩ (.str ⟨x.toArray⟩ t)=true:=strKind_is _ _ _ _
   cases neg with
   | false=>exact wpAny_inSet_of hk rfl h1 (pst.ret h (by rw [e,Bool.false_xor]) (R.toks _))
   | true=>exact wpAny_notInSet_of hk rfl h1 (pst.ret h (by rw [e,Bool.true_xor]) (R.toks _))
  | dict kvs=>
   refine Wa.str_ h fun x t h=>?_
   apply bc;intro z_
   obtain ⟨_,kvals,h1,h2⟩:=R.st l _ q
   apply z_;clear z_
   have e:=tr (k:=x) h2
   have hk:(PySem.strKind G.prog G.w).is ⟨x.toArray⟩ (.str ⟨x.toArray⟩ t)=true:=strKind_is _ _ _ _
   cases neg with
   | false=>exact wpAny_in_of hk (gI R q) h1.mapOf (pst.ret h (by rw [e,Bool.false_xor]) (R.toks _))
   | true=>exact wpAny_notIn_of hk (gI R q) h1.mapOf (pst.ret h (by rw [e,Bool.true_xor]) (R.toks _))
  | _=>exact h.elim
theorem wB {neg:Bool} {a b:V} {va vb:Value} {Q:Bool→St→Prop} (ha:AOk lv A) (R:Rel G X env σ s) (Wa:RepV X σ.nx a va) (Wb:RepV X σ.nx b vb) (h:OR neg a b σ Q) :
  wpAny (model G.prog G.w) A (compareOp (Fm neg) va vb) (pst G X env σ.nx Q) bh s:=by
 cases b with
 | loc l=>cases (Wb.inv:vb=.ref (X.ρ l)); exact Fk R Wa h
 | _=>exact wC ha R Wa Wb h
theorem rM {op:CmpOp} {a b:V} {va vb:Value} {Q:Bool→St→Prop} (ha:AOk lv A) (R:Rel G X env σ s) (Wa:RepV X σ.nx a va) (Wb:RepV X σ.nx b vb) (h:D5 op a b σ Q) :
  wpAny (model G.prog G.w) A (compareOp op va vb) (pst G X env σ.nx Q) bh s:=by
 cases op with
 | Eq=>exact vW (neg:=false) ha R Wa Wb h
 | NotEq=>exact vW (neg:=true) ha R Wa Wb h
 | Is=>exact wL (neg:=false) R Wa Wb h
 | IsNot=>exact wL (neg:=true) R Wa Wb h
 | In=>exact wB (neg:=false) ha R Wa Wb h
 | NotIn=>exact wB (neg:=true) ha R Wa Wb h
 | _=>exact Bi R Wa Wb h
theorem n8 {op:CmpOp} {l r:PySem.Expr} {dl dr:DE} {p:Pos} (hl:SE G lv sc l dl) (hr:SE G lv sc r dr) (hm:behindInMarks op r=false) :
  SE G lv sc (.Compare l [op] [r] p) (fun σ Q=>dl σ fun a σ1=>dr σ1 fun b σ2=>D5 op a b σ2 fun z σ3=>Q (.boo z) σ3):=fun σ Q hd A env X s ha he R=>by
 refine wpAny_Compare1 (hl.run hd ha he R fun va s1 a σ1 X1 k1 L1 n1 R1 W1=>hr.run k1 ha he R1 fun vb s2 b σ2 X2 k2 L2 n2 R2 W2=>?_) hm
 refine Qv (rM ha R2 (W1.mono L2 n2) W2 k2) (fun v s3 z=>?_) fun _ _ z=>z
 obtain ⟨b,rfl,σ3,X3,q,L3,n3,R3⟩:=z
 exact ⟨_,σ3,X3,q,(L1.trans L2 n1).trans L3 (QC n1 n2),QC (QC n1 n2) n3,R3,.boo b⟩
noncomputable def Ai (op:CmpOp) (dl dr:DE):DB:=fun σ Q=>dl σ fun a σ1=>dr σ1 fun b σ2=>D5 op a b σ2 Q
theorem aY {op:CmpOp} {l r:PySem.Expr} {dl dr:DE} {p:Pos} (hl:SE G lv sc l dl) (hr:SE G lv sc r dr) (hm:behindInMarks op r=false):SB G lv sc (.Compare l [op] [r] p) (Ai op dl dr):=fun σ Q hd A env X s ha he R=>by
 refine wpAny_isTrue_Compare1 (hl.run hd ha he R fun va s1 a σ1 X1 k1 L1 n1 R1 W1=>hr.run k1 ha he R1 fun vb s2 b σ2 X2 k2 L2 n2 R2 W2=>?_) hm
 refine Qv (rM ha R2 (W1.mono L2 n2) W2 k2) (fun v s3 z=>?_) fun _ _ z=>z
 apply bc;intro z_
 obtain ⟨b,rfl,z⟩:=z
 apply z_;clear z_
 exact wpAny_truthy_bool (PostB.lift (L1.trans L2 n1) (QC n1 n2) z)
noncomputable def Ak (d:DE):DB:=fun σ Q=>d σ fun v σ1=>dT v σ1 Q
theorem bZ {e:PySem.Expr} {d:DE} (h:SE G lv sc e d) (hv:∀ env w,isTrue e env w=(do let v ← w; standAt e.pos; holding [v] (truthy v))):SB G lv sc e (Ak d):=fun σ Q hd A env X s ha he R=>by
 rw [hv]
 refine Qt (h.run hd ha he R fun va s1 a σ1 X1 k1 L1 n1 R1 W1=>Qt (Qx (Qw ?_)))
 exact Qv (pJ k1 R1 W1) (fun _ _ z=>PostB.lift L1 n1 z) fun _ _ z=>z
noncomputable def nb:Bool→Bool
 | true=>false
 | false=>true
noncomputable def Aj (d:DB):DB:=fun σ Q=>d σ fun b σ1=>Q (nb b) σ1
theorem Ct {e:PySem.Expr} {d:DB} {p:Pos} (h:SB G lv sc e d):SB G lv sc (.UnaryOp .Not e p) (Aj d):=fun σ Q hd A env X s ha he R=>by
 refine wpAny_isTrue_Not (h.run hd ha he R fun b s1 σ1 X1 k1 L1 n1 R1=>?_)
 have:(!b)=nb b:=by cases b <;> rfl
 rw [this]
 exact ⟨σ1,X1,k1,L1,n1,R1⟩
noncomputable def DK (G:Glob) (lv:Nat) (sc:Sc) (op:BoolOp) (es:List PySem.Expr) (d:DB):Prop:=∀ σ Q,d σ Q→∀ A env X s,AOk lv A→EOk sc env→Rel G X env σ s →
 wpAny (model G.prog G.w) A (allTrue op es env) (PostB G X env σ.nx Q) bh s
theorem fw:DK G lv sc .And [] (fun σ Q=>Q true σ):=fun σ Q hd A env X s ha he R=>wpAny_allTrue_And_nil (PostB.ret hd R)
theorem zV:DK G lv sc .Or [] (fun σ Q=>Q false σ):=fun σ Q hd A env X s ha he R=>wpAny_allTrue_Or_nil (PostB.ret hd R)
noncomputable def uv (d ds:DB):DB:=fun σ Q=>d σ fun b σ1=>match b with | true=>ds σ1 Q | false=>Q false σ1
theorem dw {e:PySem.Expr} {es:List PySem.Expr} {d ds:DB} (h:SB G lv sc e d) (hs:DK G lv sc .And es ds):DK G lv sc .And (e::es) (uv d ds):=fun σ Q hd A env X s ha he R=>by
 refine wpAny_allTrue_And_cons (h.run hd ha he R fun b s1 σ1 X1 k1 L1 n1 R1=>?_)
 cases b with
 | true=>exact Qv (hs σ1 Q k1 A env X1 s1 ha he R1) (fun _ _ z=>PostB.lift L1 n1 z) fun _ _ z=>z
 | false=>exact PostB.lift L1 n1 (PostB.ret k1 R1)
noncomputable def zW (d ds:DB):DB:=fun σ Q=>d σ fun b σ1=>match b with | true=>Q true σ1 | false=>ds σ1 Q
theorem Cj {e:PySem.Expr} {es:List PySem.Expr} {d ds:DB} (h:SB G lv sc e d) (hs:DK G lv sc .Or es ds):DK G lv sc .Or (e::es) (zW d ds):=fun σ Q hd A env X s ha he R=>by
 refine wpAny_allTrue_Or_cons (h.run hd ha he R fun b s1 σ1 X1 k1 L1 n1 R1=>?_)
 cases b with
 | false=>exact Qv (hs σ1 Q k1 A env X1 s1 ha he R1) (fun _ _ z=>PostB.lift L1 n1 z) fun _ _ z=>z
 | true=>exact PostB.lift L1 n1 (PostB.ret k1 R1)
theorem fV {op:BoolOp} {es:List PySem.Expr} {d:DB} {p:Pos} (h:DK G lv sc op es d):SB G lv sc (.BoolOp op es p) d:=fun σ Q hd A env X s ha he R=>
 wpAny_isTrue_BoolOp (h σ Q hd A env X s ha he R)
theorem K3 {x y:PySem.Expr} {dx dy:DE} {p:Pos} (hx:SE G lv sc x dx) (hy:SE G lv sc y dy) :
  SE G lv sc (.BoolOp .Or [x,y] p) (fun σ Q=>dx σ fun v σ1=>dT v σ1 fun b σ2=>match b with | true=>Q v σ2 | false=>dy σ2 Q):=fun σ Q hd A env X s ha he R=>by
 refine wpAny_Or2 (hx.run hd ha he R fun va s1 a σ1 X1 k1 L1 n1 R1 W1=>?_)
 refine Qv (pJ k1 R1 W1) (fun b s2 z=>?_) fun _ _ z=>z
 obtain ⟨σ2,X2,q,L2,n2,R2⟩:=z
 cases b with
 | true=>exact ⟨a,σ2,X2,q,L1.trans L2 n1,QC n1 n2,R2,W1.mono L2 n2⟩
 | false=>exact Qv (hy σ2 Q q A env X2 s2 ha he R2) (fun _ _ z=>Post.lift (L1.trans L2 n1) (QC n1 n2) z) fun _ _ z=>z
noncomputable def zZ (dt:DB) (db do_:DE):DE:=fun σ Q=>dt σ fun z σ1=>match z with | true=>db σ1 Q | false=>do_ σ1 Q
theorem gK {t b o:PySem.Expr} {dt:DB} {db do_:DE} {p:Pos} (ht:SB G lv sc t dt) (hb:SE G lv sc b db) (ho:SE G lv sc o do_):SE G lv sc (.IfExp t b o p) (zZ dt db do_):=fun σ Q hd A env X s ha he R=>by
 refine wpAny_IfExp (ht.run hd ha he R fun b s1 σ1 X1 k1 L1 n1 R1=>?_)
 cases b with
 | true=>exact Qv (hb σ1 Q k1 A env X1 s1 ha he R1) (fun _ _ z=>Post.lift L1 n1 z) fun _ _ z=>z
 | false=>exact Qv (ho σ1 Q k1 A env X1 s1 ha he R1) (fun _ _ z=>Post.lift L1 n1 z) fun _ _ z=>z
theorem ai:i8 G lv sc [] (fun σ Q=>Q .next σ):=fun σ Q hd A env X s ha he R=>wpAny_execs_nil ⟨.next,σ,X,hd,.refl,QF _,R,.next⟩
noncomputable def om (d ds:DS):DS:=fun σ Q=>d σ fun fl σ1=>match fl with | .next=>ds σ1 Q | fl=>Q fl σ1
theorem cr {b:PySem.Stmt} {r:List PySem.Stmt} {d ds:DS} (h:SS G lv sc b d) (hs:i8 G lv sc r ds):i8 G lv sc (b::r) (om d ds):=fun σ Q hd A env X s ha he R=>by
 refine wpAny_execs_cons (h.run hd ha he R fun f s1 fl σ1 X1 k1 L1 n1 R1 W1=>?_)
 cases W1 with
 | next=>exact Qv (hs σ1 Q k1 A env X1 s1 ha he R1) (fun _ _ z=>PostS.lift L1 n1 z) fun _ _ z=>z
 | brk=>exact ⟨_,σ1,X1,k1,L1,n1,R1,.brk⟩
 | cont=>exact ⟨_,σ1,X1,k1,L1,n1,R1,.cont⟩
 | ret v val W=>exact ⟨_,σ1,X1,k1,L1,n1,R1,.ret v val W⟩
theorem Ag {p:Pos}:SS G lv sc (.Break p) (fun σ Q=>Q .brk σ):=fun σ Q hd A env X s ha he R=>wpAny_Break ⟨.brk,σ,X,hd,.refl,QF _,R,.brk⟩
noncomputable def pS (d:DE):DS:=fun σ Q=>d σ fun v σ1=>Q (.ret v) σ1
theorem aF {e:PySem.Expr} {d:DE} {p:Pos} (h:SE G lv sc e d):SS G lv sc (.Return (some e) p) (pS d):=fun σ Q hd A env X s ha he R=>
 wpAny_Return_some (h.run hd ha he R fun va s1 a σ1 X1 k1 L1 n1 R1 W1=>⟨_,σ1,X1,k1,L1,n1,R1,.ret a va W1⟩)
noncomputable def DO (dt:DB) (db do_:DS):DS:=fun σ Q=>dt σ fun z σ1=>match z with | true=>db σ1 Q | false=>do_ σ1 Q
theorem bL {t:PySem.Expr} {b o:List PySem.Stmt} {dt:DB} {db do_:DS} {p:Pos} (ht:SB G lv sc t dt) (hb:i8 G lv sc b db) (ho:i8 G lv sc o do_):SS G lv sc (.If t b o p) (DO dt db do_):=fun σ Q hd A env X s ha he R=>by
 refine wpAny_If (ht.run hd ha he R fun b s1 σ1 X1 k1 L1 n1 R1=>?_)
 cases b with
 | true=>exact Qv (hb σ1 Q k1 A env X1 s1 ha he R1) (fun _ _ z=>PostS.lift L1 n1 z) fun _ _ z=>z
 | false=>exact Qv (ho σ1 Q k1 A env X1 s1 ha he R1) (fun _ _ z=>PostS.lift L1 n1 z) fun _ _ z=>z
theorem kC (he:EOk sc env):interactive env=false:=by
 unfold interactive
 rw [he.kind]; rfl
noncomputable def uZ (d:DE):DS:=fun σ Q=>d σ fun v σ1=>Q .next σ1
theorem bH {e:PySem.Expr} {d:DE} {p:Pos} (h:SE G lv sc e d) (hs:∀ env,swapsWith e none p.line env=pure false):SS G lv sc (.Expr e p) (uZ d):=fun σ Q hd A env X s ha he R=>
 wpAny_Expr_any (h.run hd ha he R fun va s1 a σ1 X1 k1 L1 n1 R1 W1=>⟨_,σ1,X1,k1,L1,n1,R1,.next⟩) (kC he) (hs env)
theorem mj {l:List (Str×NameKind)} (nd:(l.map (·.1)).Nodup) {i j:Nat} {x:Str} {k k':NameKind} (hi:l[i]?=some (x,k)) (hj:l[j]?=some (x,k')):i=j:=by
 induction l generalizing i j with
 | nil=>simp at hi
 | cons y r ih=>
  simp only [List.map_cons,List.nodup_cons] at nd
  cases i with
  | zero=>
   cases j with
   | zero=>rfl
   | succ j=>
    simp at hi hj
    subst hi
    exact absurd (List.mem_map.mpr ⟨_,QY hj,rfl⟩) nd.1
  | succ i=>
   cases j with
   | zero=>
    simp at hi hj
    subst hj
    exact absurd (List.mem_map.mpr ⟨_,QY hi,rfl⟩) nd.1
   | succ j=>simp at hi hj; rw [ih nd.2 hi hj]
noncomputable def dm (i:Nat) (v:V) (σ:St):St:={σ with lo:=gE i v σ.lo}
theorem gQ {α:Type} {P:Nat→α→Prop} {i:Nat} {v:α} {lo:List (Nat×α)} (hi:P i v) (h:∀ j w,j≠i→aj j lo=some w→P j w):∀ j w,aj j (gE i v lo)=some w→P j w:=fun j w e=>by
 rw [eB] at e
 by_cases hj:j=i
 ·rw [QI hj] at e; cases e; exact hj ▸ hi
 ·rw [QH hj] at e; exact h j w hj e
theorem Rel.reloc {lo:List (Nat×V)} {h':Heap} {a:Addr} {t:Nat} (R:Rel G X env σ s) (hF:X.F a=none) (hρ:∀ l o,aj l σ.st=some o→X.ρ l≠a) (hT:a≠G.T) (hp:∀ b o,G.Hp b=some o→b≠a)
  (hs:∀ b,b≠a→h'.get? b=s.heap.get? b) (loc:LocOk G X σ.nx σ.st env lo h'):Rel G X env {σ with lo:=lo} {s with heap:=h',toks:=t}:=
 ⟨fun b o e=>(hs b fun w=>by rw [w,hF] at e; cases e).trans (R.sub b o e),R.base,R.own,R.inj,R.big,fun l o e=>⟨(R.st l o e).1,(R.st l o e).2.go .refl (QF _) (hs _ (hρ l o e))⟩,
  ⟨(hs _ hT.symm).trans R.tab.1,R.tab.2⟩,loc,R.os,R.drawn,R.gens,fun b o e=>⟨(hs b (hp b o e)).trans (R.hp b o e).1,(R.hp b o e).2⟩⟩
theorem ia {i:Nat} {x:Str} {k:NameKind} {v:V} {val:Value} {Q:Unit→Shared→Prop} (hx:sc.names[i]?=some (x,k)) (hk:k=.local∨(k=.cell∧sc.fn=true)) (he:EOk sc env) (R:Rel G X env σ s) (W:RepV X σ.nx v val)
  (q:∀ s',Rel G X env (dm i v σ) s'→Q () s'):wpAny (model G.prog G.w) A (storeName env x val) Q bh s:=by
 have hkf:=he.kind
 have hkind:=j2 he hx
 have f1:=R.loc.freeL
 have f2:=R.loc.freeC
 have ne:∀ {j:Nat} {y:Str} {k':NameKind},j≠i→env.scope.names[j]?=some (y,k')→¬ y=x:=fun {j y k'} hj e1 w=>hj (mj he.nd (by rw [← he.names]; exact w ▸ e1) hx)
 apply bc;intro z_
 obtain ⟨m,cm,n1,n2,n3⟩:=R.loc.ns
 apply z_;clear z_
 rcases hk with rfl | ⟨rfl,hfn⟩
 ·refine wpAny_storeName_local hkind n1 (fun h' hn hs=>q _ ?_) (by rw [hkf]; rfl)
  have ncl:∀ x c,env.cells.lookup x=some c→c≠env.locals:=fun x c e=>by
   by_cases w:env.frame=some env.locals
   ·exact (f2 w x c e).2.2.1
   ·apply bc;intro z_
    obtain ⟨o,z⟩:=R.loc.frzC w x c e
    apply z_;clear z_
    intro w'; rw [w',f1.1] at z; cases z
  refine R.reloc (lo:=gE i v σ.lo) f1.1 f1.2.1 f1.2.2 (fun b o e=>(R.hp b o e).2.2.2.1) hs.2 ⟨⟨_,cm,hn,fun x c e=>let ⟨o,ho,hd⟩:=n2 x c e; ⟨o,(hs.2 _ (ncl x c e)).trans ho,hd⟩,?_⟩,f1,f2,R.loc.frzC,R.loc.apart⟩
  refine gQ ⟨x,.local,val,by rw [he.names]; exact hx,W,.inl ⟨rfl,QI rfl⟩⟩ fun j w hj e=>?_
  apply bc;intro z_
  obtain ⟨y,k',val',e1,W',e2⟩:=n3 j w e
  apply z_;clear z_
  exact ⟨y,k',val',e1,W',e2.imp_left fun e3=>⟨e3.1,(QH (ne hj e1)).trans e3.2⟩⟩
 ·obtain ⟨c,hc⟩:=Option.isSome_iff_exists.mp (he.hasC x (by have:=hkind; unfold Env.kindOf at this; rw [he.names] at this; exact this))
  apply bc;intro z_
  obtain ⟨g1,g2,g3,g4⟩:=f2 (he.fn hfn) x c hc
  apply z_;clear z_
  refine wpAny_storeName_cell hkf hkind hc (n2 x c hc) fun h' hn hs=>q _ ?_
  refine R.reloc (lo:=gE i v σ.lo) g1 g2 g4 (fun b o e=>((R.hp b o e).2.2.2.2.1 x c hc).symm) hs.2 ⟨⟨m,fun y=>if y=x then some val else cm y,jr n1 (hs.2 _ g3.symm),fun y c' e=>?_,?_⟩,f1,f2,R.loc.frzC,R.loc.apart⟩
  ·by_cases hy:y=x
   ·subst hy; rw [hc] at e; cases e; dsimp only; rw [QI rfl]; exact hn
   ·dsimp only; rw [QH hy]
    have:c'≠c:=fun w=>hy (name_of_addr R.loc.apart (mem_of_lookup (w ▸ e)) (mem_of_lookup hc))
    obtain ⟨o,ho,hd⟩:=n2 y c' e; exact ⟨o,(hs.2 _ this).trans ho,hd⟩
  ·refine gQ ⟨x,.cell,val,by rw [he.names]; exact hx,W,.inr ⟨.inl rfl,by rw [hc]; rfl,QI rfl⟩⟩ fun j w hj e=>?_
   apply bc;intro z_
   obtain ⟨y,k',val',e1,W',e2⟩:=n3 j w e
   apply z_;clear z_
   exact ⟨y,k',val',e1,W',e2.imp_right fun e3=>⟨e3.1,e3.2.1,(QH (ne hj e1)).trans e3.2.2⟩⟩
noncomputable abbrev DT:=V→St→(St→Prop)→Prop
noncomputable def ST (G:Glob) (lv:Nat) (sc:Sc) (t:PySem.Expr) (d:DT):Prop:=∀ v σ Q,d v σ Q→∀ A env X s val,AOk lv A→EOk sc env→Rel G X env σ s→RepV X σ.nx v val →
 wpAny (model G.prog G.w) A (assign t env val) (PostT G X env σ.nx Q) bh s
theorem aw {i:Nat} {x:Str} {k:NameKind} {p:Pos} (hx:sc.names[i]?=some (x,k)) (hk:k=.local∨(k=.cell∧sc.fn=true)):ST G lv sc (.Name x p) (fun v σ Q=>Q (dm i v σ)):=
 fun v σ Q hd A env X s val ha he R W=>wpAny_assign_Name (ia hx hk he R W fun s' R'=>⟨_,X,hd,.refl,QF _,R'⟩)
noncomputable def Lh (G:Glob) (lv:Nat) (sc:Sc) (ts:List PySem.Expr) (d:List V→St→(St→Prop)→Prop):Prop:=∀ vs σ Q,d vs σ Q→∀ A env X s vals,AOk lv A→EOk sc env→Rel G X env σ s→RepVs X σ.nx vs vals →
 wpAny (model G.prog G.w) A (assignInOrder ((assignEach ts env).map (·.2)) vals) (PostT G X env σ.nx Q) bh s
theorem dA:Lh G lv sc [] (fun vs σ Q=>match vs with | []=>Q σ | _::_=>False):=fun vs σ Q hd A env X s vals ha he R W=>by
 cases W with
 | nil=>exact Qu ⟨σ,X,hd,.refl,QF _,R⟩
 | cons=>exact hd.elim
theorem aR {t:PySem.Expr} {ts:List PySem.Expr} {d:DT} {ds:List V→St→(St→Prop)→Prop} (h:ST G lv sc t d) (hs:Lh G lv sc ts ds) (hst:∀ env,assignEach (t::ts) env=(false,assign t env)::assignEach ts env) :
  Lh G lv sc (t::ts) (fun vs σ Q=>match vs with | v::r=>d v σ fun σ1=>ds r σ1 Q | []=>False):=fun vs σ Q hd A env X s vals ha he R W=>by
 cases W with
 | nil=>exact hd.elim
 | cons w ws=>
  rw [hst,List.map_cons]
  show wpAny _ _ (do holding _ (assign t env _); assignInOrder _ _) _ _ _
  refine Qt (Qw (Qv (h _ σ _ hd A env X s _ ha he R w) (fun _ s1 y_=>?_) fun _ _ z=>z))
  apply bc;intro z_
  obtain ⟨σ1,X1,q,L1,n1,R1⟩:=y_
  apply z_;clear z_
  refine Qv (hs _ σ1 Q q A env X1 s1 _ ha he R1 (ws.mono L1 n1)) (fun _ s2 y_=>?_) fun _ _ z=>z
  apply bc;intro z_
  obtain ⟨σ2,X2,q,L2,n2,R2⟩:=y_
  apply z_;clear z_
  exact ⟨σ2,X2,q,L1.trans L2 n1,QC n1 n2,R2⟩
noncomputable def md {α β:Type}:List α→List β→Bool
 | [],[]=>true
 | _::r,_::t=>md r t
 | _,_=>false
theorem iN {α β:Type}:∀ {xs:List α} {ys:List β},md xs ys=true→xs.length=ys.length
 | [],[],_=>rfl
 | _::r,_::t,h=>by simp [iN (xs:=r) (ys:=t) h]
 | [],_::_,h=>by cases h
 | _::_,[],h=>by cases h
theorem je {h h':Heap} (e:Heap.ExtBut h.objs.size h h'):∀ b o,h.get? b=some o→h'.get? b=some o:=fun b o q=>e b o (Q8 (QO q)) q
theorem cA {ts:List PySem.Expr} {ds:List V→St→(St→Prop)→Prop} {k:Nat} {p:Pos} (hs:Lh G lv sc ts ds) (hst:∀ env,(assignEach ts env).findIdx? (·.1)=none) (hlen:∀ env,(assignEach ts env).length=ts.length) :
  ST G lv sc (.Tuple ts k p) (fun v σ Q=>sM v fun vs=>onT (md ts vs) (ds vs σ Q)):=fun v σ Q hd A env X s val ha he R W=>by
 refine W.tup_ hd fun vs vals a o h ho hsv hd=>?_
 obtain ⟨hl,hd⟩:=onT.out hd
 refine wpAny_assign_Tuple ha.handled (ho.isTuple (R.sub _ _ h)) (by rw [hlen,QJ,hsv.length]; exact iN hl) (hst env) fun h' e=>?_
 exact hs vs σ Q hd A env X _ _ ha he (R.heap (t:=s.toks) (je e)) hsv
noncomputable def Lg (G:Glob) (lv:Nat) (sc:Sc) (ts:List PySem.Expr) (d:DT):Prop:=∀ v σ Q,d v σ Q→∀ A env X s val,AOk lv A→EOk sc env→Rel G X env σ s→RepV X σ.nx v val →
 wpAny (model G.prog G.w) A (assignAll val ((assignEach ts env).map (·.2))) (PostT G X env σ.nx Q) bh s
theorem cn {t:PySem.Expr} {d:DT} (h:ST G lv sc t d) (hst:∀ env,assignEach [t] env=[(false,assign t env)]):Lg G lv sc [t] d:=fun v σ Q hd A env X s val ha he R W=>by
 rw [hst]; exact h v σ Q hd A env X s val ha he R W
theorem mJ {t t':PySem.Expr} {ts:List PySem.Expr} {d ds:DT} (h:ST G lv sc t d) (hs:Lg G lv sc (t'::ts) ds) (hst:∀ env,assignEach (t::t'::ts) env=(false,assign t env)::assignEach (t'::ts) env)
  (hne:∀ env,∃ a b,assignEach (t'::ts) env=a::b) :
  Lg G lv sc (t::t'::ts) (fun v σ Q=>d v σ fun σ1=>ds v σ1 Q):=fun v σ Q hd A env X s val ha he R W=>by
 rw [hst,List.map_cons]
 have hs':=hs
 apply bc;intro z_
 obtain ⟨a,b,e⟩:=hne env
 apply z_;clear z_
 have key:assignAll val (assign t env::(assignEach (t'::ts) env).map (·.2))=(do holding [val] (assign t env val); assignAll val ((assignEach (t'::ts) env).map (·.2))):=by rw [e]; rfl
 rw [key]
 refine Qt (Qw (Qv (h _ σ _ hd A env X s _ ha he R W) (fun _ s1 y_=>?_) fun _ _ z=>z))
 apply bc;intro z_
 obtain ⟨σ1,X1,q,L1,n1,R1⟩:=y_
 apply z_;clear z_
 refine Qv (hs v σ1 Q q A env X1 s1 _ ha he R1 (W.mono L1 n1)) (fun _ s2 y_=>?_) fun _ _ z=>z
 apply bc;intro z_
 obtain ⟨σ2,X2,q,L2,n2,R2⟩:=y_
 apply z_;clear z_
 exact ⟨σ2,X2,q,L1.trans L2 n1,QC n1 n2,R2⟩
noncomputable def kf (d:DE) (dt:DT):DS:=fun σ Q=>d σ fun v σ1=>dt v σ1 fun σ2=>Q .next σ2
theorem bF {ts:List PySem.Expr} {e:PySem.Expr} {d:DE} {dt:DT} {p:Pos} (h:SE G lv sc e d) (ht:Lg G lv sc ts dt) (h1:∀ env,swapsWithSole ts e p.line env=pure false) (h2:∀ env,EOk sc env→swappedStores ts e env=pure none):SS G lv sc (.Assign ts e p) (kf d dt):=fun σ Q hd A env X s ha he R=>by
 refine wpAny_Assign_stores (h.run hd ha he R fun va s1 a σ1 X1 k1 L1 n1 R1 W1=>?_) (h1 env) (h2 env he)
 refine Qv (ht a σ1 _ k1 A env X1 s1 va ha he R1 W1) (fun _ s2 y_=>?_) fun _ _ z=>z
 apply bc;intro z_
 obtain ⟨σ2,X2,q,L2,n2,R2⟩:=y_
 apply z_;clear z_
 exact ⟨.next,σ2,X2,q,L1.trans L2 n1,QC n1 n2,R2,.next⟩
noncomputable def sD:List Nat→List V→St→St
 | i::r,v::t,σ=>sD r t (dm i v σ)
 | _,_,σ=>σ
theorem pH {is:List Nat}:∀ {xs:List Str} {vs:List V} {vals:List Value} {σ:St} {s:Shared} {Q:Unit→Shared→Prop},is.length=xs.length→(∀ (j i:Nat) (x:Str),is[j]?=some i→xs[j]?=some x→sc.names[i]?=some (x,NameKind.local))→vs.length=xs.length →
  EOk sc env→Rel G X env σ s→RepVs X σ.nx vs vals→(∀ s',Rel G X env (sD is vs σ) s'→Q () s')→wpAny (model G.prog G.w) A (assignInOrder (xs.map fun n=>bindName env n) vals) Q bh s:=by
 induction is with
 | nil=>
  intro xs vs vals σ s Q h1 h2 h3 he R W q
  cases xs with
  | cons=>cases h1
  | nil=>cases vs with
   | cons=>cases h3
   | nil=>cases W; exact Qu (q s R)
 | cons i is ih=>
  intro xs vs vals σ s Q h1 h2 h3 he R W q
  cases xs with
  | nil=>cases h1
  | cons x xs=>
   cases vs with
   | nil=>cases h3
   | cons v vs=>
    cases W with
    | cons w ws=>
     show wpAny _ _ (do holding _ (bindName env x _); assignInOrder _ _) _ _ _
     refine Qt (Qw (wpAny_bindName (ia (h2 0 i x rfl rfl) (.inl rfl) he R w fun s' R'=>?_)))
     exact ih (by simpa using h1) (fun j i' x' a b=>h2 (j+1) i' x' (by simpa using a) (by simpa using b)) (by simpa using h3) he R' ws q
theorem RepVs.rev {vs:List V} {vals:List Value} (h:RepVs X n vs vals):RepVs X n vs.reverse vals.reverse:=by
 induction vs generalizing vals with
 | nil=>cases h; exact .nil
 | cons v r ih=>cases h with | cons a b=>rw [List.reverse_cons,List.reverse_cons]; exact (ih b).append (.cons a .nil)
theorem y9:∀ {is:List Nat} {vs:List V} {σ:St},(sD is vs σ).nx=σ.nx:=by
 intro is
 induction is with
 | nil=>intro vs σ; rfl
 | cons i is ih=>intro vs σ; cases vs with | nil=>rfl | cons v vs=>exact ih
theorem fU {ts:List PySem.Expr} {e:PySem.Expr} {d:DE} {p:Pos} {is:List Nat} {xs:List Str} {k:Nat} {q:Pos} (h:SE G lv sc e d) (h1:∀ env,swapsWithSole [.Tuple ts k q] e p.line env=pure false)
  (h2:∀ env,EOk sc env→swappedStores [.Tuple ts k q] e env=pure (some xs.reverse)) (h3:is.length=xs.length) (h4:∀ (j i:Nat) (x:Str),is[j]?=some i→xs[j]?=some x→sc.names[i]?=some (x,NameKind.local)) :
  SS G lv sc (.Assign [.Tuple ts k q] e p) (fun σ Q=>d σ fun v σ1=>sM v fun vs=>onT (md is vs) (Q .next (sD is vs.reverse σ1))):=fun σ Q hd A env X s ha he R=>by
 refine PyProof.Rows.Assign_Tuple_swapped (names:=xs.reverse) (h.run hd ha he R fun va s1 a σ1 X1 k1 L1 n1 R1 W1=>?_) (h1 env) (h2 env he)
 refine W1.tup_ k1 fun vs vals t o ht ho hsv k1=>?_
 apply bc;intro z_
 obtain ⟨hl,k1⟩:=onT.out k1
 apply z_;clear z_
 have hl:=iN hl
 have el:xs.reverse.length=vals.toArray.size:=by rw [List.length_reverse,← h3,QJ,hsv.length]; exact hl
 rw [el,List.reverse_reverse]
 refine wpAny_unpackItems_tuple ha.handled (ho.isTuple (R1.sub _ _ ht)) fun h' e'=>?_
 exact pH (vs:=vs.reverse) h3 h4 (by rw [List.length_reverse,← h3]; exact hl.symm) he (R1.heap (t:=s1.toks) (je e')) hsv.rev fun s2 R2=>⟨.next,_,X1,k1,L1,(y9.symm ▸ n1),R2,.next⟩
theorem Rel.setList {l:Nat} {xs ys:List V} {o:Obj} {items vals:List Value} {f:Array Value→Array Value} {t:Nat} (R:Rel G X env σ s) (q:aj l σ.st=some (.list xs)) (h1:s.heap.get? (X.ρ l)=some o) (h2:LObj "list" o items) (ef:f items.toArray=vals.toArray)
  (W:RepVs X σ.nx ys vals):Rel G X env {σ with st:=gE l (.list ys) σ.st} {s with heap:=s.heap.update (X.ρ l) (Obj.mapSeq f),toks:=t}:=by
 apply bc;intro z_
 obtain ⟨hc,hdd,⟨ep,hd⟩,hsl⟩:=h2
 obtain ⟨c,d,dt,sl⟩:=o
 apply z_;clear z_
 dsimp only at hc hd hdd hsl
 subst hc hd hdd hsl
 exact R.upd (s':={s with heap:=s.heap.update (X.ρ l) (Obj.mapSeq f),toks:=t}) (o:=.list ys) q (fun b' hb' o' e=>by rw [QX _ _ (Ne.symm hb')]; exact e)
  ⟨_,vals,Heap.get?_update_self (Obj.mapSeq f) h1 rfl,⟨rfl,rfl,⟨_,by show Data.seq (f items.toArray) _=_; rw [ef]⟩,rfl⟩,W⟩ rfl rfl R.gens
noncomputable def jP (o:Obj):Prop:=Obj.loose o=true∧∃ vs,o.data=.fields vs
noncomputable def Frz (X:Wd) (S:List Addr):Prop:=∀ b∈S,∃ o,X.F b=some o∧jP o
structure Sw (S:List Addr) (n:Nat) (X X':Wd):Prop where
 ρ:∀ l,l<n→X'.ρ l=X.ρ l
 F:∀ a o,a ∉ S→X.F a=some o→X'.F a=some o
 P:∀ a o,a ∉ S→X.F a=some o→X'.P a=X.P a
theorem Frz.loose (hf:Frz X S):∀ b∈S,∀ o,X.F b=some o→fy X b o:=fun b hb o e=>by
 obtain ⟨o',e',h⟩:=hf b hb
 rw [e] at e'; cases e'; exact ⟨h.1,.inr h.2⟩
theorem RepV.sw (hf:Frz X S) (w:Sw S n X X') {v:V} {val:Value} (W:RepV X n v val):RepV X' n v val:=
 (W.drop hf.loose).mono (X:=X.drop S) ⟨w.ρ,fun a o e=>by
  have e:(if a∈S then none else X.F a)=some o:=e
  by_cases q:a∈S
  ·rw [QI q] at e; cases e
  ·rw [QH q] at e; exact w.F a o q e,fun a o e=>by
  have e:(if a∈S then none else X.F a)=some o:=e
  by_cases q:a∈S
  ·rw [QI q] at e; cases e
  ·rw [QH q] at e; exact w.P a o q e⟩ (QF _)
theorem sb (L:X0.le n0 X) (hn:n0≤n) (w:Sw S n X X') (fr:∀ b∈S,X0.F b=none):X0.le n0 X':=
 ⟨fun l hl=>(w.ρ l (QZ hl hn)).trans (L.ρ l hl),fun a o e=>w.F a o (fun q=>by rw [fr a q] at e; cases e) (L.F a o e),fun a o e=>(w.P a o (fun q=>by rw [fr a q] at e; cases e) (L.F a o e)).trans (L.P a o e)⟩
theorem RepO.sw {h h':Heap} {a:Addr} {o:AO} (hf:Frz X S) (w:Sw S n X X') (r:RepO G X n h a o) (e:h'.get? a=h.get? a):RepO G X' n h' a o:=r.imp (fun z=>z.sw hf w) e
theorem Rel.sws (ok:G.Ok) (R:Rel G X env σ s) (hf:Frz X S) (hbS:∀ b∈S,G.hb.get? b=none) (k:∀ b,b ∉ S→∀ o,s.heap.get? b=some o→s'.heap.get? b=some o) (φ:Addr→Option Obj) (hn:∀ b∈S,∀ o,φ b=some o→s'.heap.get? b=some o)
  (hos:s'.os=s.os) (hd:s'.drawn=s.drawn) (hg:G.Gn s'.gens):∃ X',Rel G X' env σ s'∧Sw S σ.nx X X'∧(∀ b∈S,X'.F b=φ b)∧(∀ a,a ∉ S→X'.F a=X.F a):=by
 have w:Sw S σ.nx X {X with F:=fun a=>if a∈S then φ a else X.F a}:=⟨fun _ _=>rfl,fun a o q e=>by
  show (if a∈S then φ a else X.F a)=_
  rw [QH q]; exact e,fun _ _ _ _=>rfl⟩
 have out:∀ {a:Addr},X.F a=none→a ∉ S:=fun e q=>by obtain ⟨o,e',_⟩:=hf _ q; rw [e] at e'; cases e'
 apply bc;intro z_
 obtain ⟨h1,h2,h3,h4,hb,h5,h6,h7,h8,h9,h10,h11⟩:=R
 have nL:env.locals ∉ S:=out h7.freeL.1
 obtain ⟨⟨m,cm,n1,n2,n3⟩,f1,f2,f3,f4⟩:=h7
 apply z_;clear z_
 have nC:∀ x c,env.cells.lookup x=some c→c ∉ S:=fun x c e q=>by
  apply bc;intro z_
  obtain ⟨o,ho,hd⟩:=n2 x c e
  obtain ⟨o',e',_,vs,hv⟩:=hf c q
  apply z_;clear z_
  have:=h1 _ _ e'
  rw [ho] at this; cases this
  rw [hd] at hv; cases hv
 have same:∀ {b:Addr} {o:Obj},b ∉ S→s.heap.get? b=some o→s'.heap.get? b=s.heap.get? b:=fun q e=>(k _ q _ e).trans e.symm
 refine ⟨_,⟨fun a o e=>?_,fun a o e q=>w.F a o (fun z=>by rw [hbS a z] at e; cases e) (h2 a o e q),fun l o e=>⟨?_,(h3 l o e).2⟩,h4,hb,fun l o e=>⟨(h5 l o e).1,?_⟩,⟨k _ (out h6.2.1) _ h6.1,?_,ok.tbmono _ _ _ (fun a o e hl=>w.F a o (fun q=>by rw [(hf.loose a q o e).1] at hl; cases hl) e) h6.2.2⟩,⟨⟨m,cm,?_,fun x c e=>?_,fun i v e=>?_⟩,⟨?_,f1.2⟩,fun z x c e=>⟨?_,(f2 z x c e).2⟩,fun z x c e=>?_,f4⟩,hos.trans h8,hd.trans h9,hg,fun a o e=>let ⟨z1,z2,r⟩:=h11 a o e; ⟨k a (out z2) _ z1,(QH (out z2)).trans z2,r⟩⟩,w,fun b hb=>QI hb,fun a q=>QH q⟩
 ·have e:(if a∈S then φ a else X.F a)=some o:=e
  by_cases q:a∈S
  ·rw [QI q] at e; exact hn a q o e
  ·rw [QH q] at e; exact k a q o (h1 a o e)
 ·show (if X.ρ l∈S then φ (X.ρ l) else X.F (X.ρ l))=none
  rw [QH (out (h3 l o e).1)]; exact (h3 l o e).1
 ·apply bc;intro z_
  obtain ⟨ob,z⟩:=(h5 l o e).2.there
  apply z_;clear z_
  exact (h5 l o e).2.sw hf w (same (out (h3 l o e).1) z)
 ·show (if G.T∈S then φ G.T else X.F G.T)=none
  rw [QH (out h6.2.1)]; exact h6.2.1
 ·apply bc;intro z_
  obtain ⟨o,es,ep,ho,r⟩:=id n1
  apply z_;clear z_
  exact jr n1 (same nL ho)
 ·obtain ⟨o,ho,hd⟩:=n2 x c e; exact ⟨o,k _ (nC x c e) _ ho,hd⟩
 ·obtain ⟨x,k,val,a,b,c⟩:=n3 i v e; exact ⟨x,k,val,a,b.sw hf w,c⟩
 ·show (if env.locals∈S then φ env.locals else X.F env.locals)=none
  rw [QH nL]; exact f1.1
 ·show (if c∈S then φ c else X.F c)=none
  rw [QH (nC x c e)]; exact (f2 z x c e).1
 ·apply bc;intro z_
  obtain ⟨o,q⟩:=f3 z x c e
  apply z_;clear z_
  exact ⟨o,w.F c o (nC x c e) q⟩
theorem Rel.sw (ok:G.Ok) (R:Rel G X env σ s) (hf:Frz X S) (hbS:∀ b∈S,G.hb.get? b=none) (k:∀ b,b ∉ S→∀ o,s.heap.get? b=some o→s'.heap.get? b=some o) (hn:∀ b∈S,∃ o,s'.heap.get? b=some o∧jP o)
  (hos:s'.os=s.os) (hd:s'.drawn=s.drawn) (hg:G.Gn s'.gens):∃ X',Rel G X' env σ s'∧Sw S σ.nx X X'∧Frz X' S∧(∀ a,a ∉ S→X'.F a=X.F a):=by
 apply bc;intro z_
 obtain ⟨X',R',w,e1,e2⟩:=R.sws ok hf hbS k (fun b=>s'.heap.get? b) (fun _ _ _ e=>e) hos hd hg
 apply z_;clear z_
 exact ⟨X',R',w,fun b hb=>let ⟨o,e,q⟩:=hn b hb; ⟨o,(e1 b hb).trans e,q⟩,e2⟩
theorem Rel.letgo (ok:G.Ok) (R:Rel G X env σ s) (hf:Frz X S) (hbS:∀ b∈S,G.hb.get? b=none) (k:∀ b,b ∉ S→∀ o,s.heap.get? b=some o→s'.heap.get? b=some o)
  (hos:s'.os=s.os) (hd:s'.drawn=s.drawn) (hg:G.Gn s'.gens):∃ X',Rel G X' env σ s'∧Sw S σ.nx X X':=by
 apply bc;intro z_
 obtain ⟨X',R',w,_⟩:=R.sws ok hf hbS k (fun b=>none) (fun _ _ _ e=>by cases e) hos hd hg
 apply z_;clear z_
 exact ⟨X',R',w⟩
noncomputable def fK:PySem.Expr→Bool
 | .Tuple ..=>true
 | _=>false
structure Itr (G:Glob) (lv:Nat) (tg:Bool) (it:Value) (S:List Addr) (X0:Wd) (n0:Nat) (cur:Nat→St→Option (Option V)) (I:Nat→Heap→Prop):Prop where
 fresh:∀ b∈S,X0.F b=none
 hbS:∀ b∈S,G.hb.get? b=none
 step:∀ (A:Around) (env:Env) (i:Nat) (X:Wd) (σ:St) (s:Shared) (r:Option V),AOk lv A→X0.le n0 X→n0≤σ.nx→Rel G X env σ s→Frz X S→I i s.heap→cur i σ=some r →
  wpAny (model G.prog G.w) A (pyNext it) (fun o s'=>match r with
   | none=>o=none∧∃ X',Rel G X' env σ s'∧Sw S σ.nx X X'
   | some v=>∃ val,o=some val∧∀ (target:PySem.Expr) (Q:Unit→Shared→Prop),(tg=true→fK target=true)→(∀ s'' X',Rel G X' env σ s''→Sw S σ.nx X X'→Frz X' S→RepV X' σ.nx v val→I (i+1) s''.heap→Q () s'') →
     wpAny (model G.prog G.w) A (letOwnedTupleGo target it val) Q bh s') bh s
 stable:∀ (i:Nat) (X:Wd) (h h':Heap),X0.le n0 X→(∀ a o,X.F a=some o→h.get? a=some o)→Frz X S→I i h→(∀ a o,X.F a=some o→h'.get? a=some o)→I i h'
 self:∀ (A:Around) (i:Nat) (s:Shared) (Q:Value→Shared→Prop),A.handled=none→I i s.heap→Q it s→wpAny (model G.prog G.w) A (pyIter it) Q bh s
noncomputable def N9 (fl:Fl) (P:Prop) (σ:St) (Q:Fl→St→Prop):Prop:=match fl with
 | .next=>P
 | .cont=>P
 | .brk=>Q .next σ
 | .ret v=>Q (.ret v) σ
noncomputable def jI (aft:St→(St→Prop)→Prop) (cur:Nat→St→Option (Option V)) (dt:DT) (db:DS):Nat→Nat→DS
 | 0,_=>fun _ _=>False
 | n+1,i=>fun σ Q=>match cur i σ with
  | some (some v)=>dt v σ fun σ1=>db σ1 fun fl σ2=>N9 fl (aft σ2 fun σ3=>jI aft cur dt db n (i+1) σ3 Q) σ2 Q
  | some none=>Q .next σ
  | none=>False
noncomputable def bW (cur:Nat→St→Option (Option V)) (dt:DT) (db:DS):Nat→Nat→DS:=jI (fun σ K=>K σ) cur dt db
inductive AftAt (G:Glob) (X:Wd) (env:Env) (n0:Nat) (K:St→Prop) (s:Shared):Prop
 | mk (σ':St) (X':Wd) (k:K σ') (L:X.le n0 X') (e:X'.F=X.F) (hn:n0≤σ'.nx) (R:Rel G X' env σ' s)
inductive LoopAt (G:Glob) (X0:Wd) (env:Env) (n0:Nat) (S:List Addr) (I:Nat→Heap→Prop) (P:Nat→St→Prop) (s:Shared):Prop
 | mk (i:Nat) (σ:St) (X:Wd) (hl:P i σ) (L:X0.le n0 X) (hn:n0≤σ.nx) (R:Rel G X env σ s) (hf:Frz X S) (hi:I i s.heap)
inductive ItdAt (G:Glob) (lv:Nat) (tg:Bool) (env:Env) (X:Wd) (n:Nat) (K:(Nat→St→Option (Option V))→St→Prop) (it:Value) (s:Shared):Prop
 | mk (cur:Nat→St→Option (Option V)) (σ1:St) (X0 X1:Wd) (S:List Addr) (I:Nat→Heap→Prop) (k:K cur σ1) (L:X.le n X0) (L1:X0.le σ1.nx X1) (hn:n≤σ1.nx) (R:Rel G X1 env σ1 s) (f:Frz X1 S) (i:I 0 s.heap) (T:Itr G lv tg it S X0 σ1.nx cur I)
noncomputable abbrev DI:=St→((Nat→St→Option (Option V))→St→Prop)→Prop
noncomputable def Itd (G:Glob) (lv:Nat) (tg:Bool) (A:Around) (env:Env) (X:Wd) (n:Nat) (K:(Nat→St→Option (Option V))→St→Prop) (x:Value) (s1:Shared):Prop:=
 wpAny (model G.prog G.w) A (pyIter x) (ItdAt G lv tg env X n K) bh s1
noncomputable def SI (G:Glob) (lv:Nat) (sc:Sc) (tg:Bool) (e:PySem.Expr) (d:DI):Prop:=∀ σ K,d σ K→∀ A env X s,AOk lv A→EOk sc env→Rel G X env σ s →
 wpAny (model G.prog G.w) A (eval e env) (Itd G lv tg A env X σ.nx K) bh s
theorem Frz.up {X':Wd} (hf:Frz X S) (L:X.le n X'):Frz X' S:=fun b hb=>let ⟨o,e,z⟩:=hf b hb; ⟨o,L.F _ _ e,z⟩
theorem Frz.same (hf:Frz X S) (e:X'.F=X.F):Frz X' S:=fun b hb=>by rw [e]; exact hf b hb
theorem se {tg:Bool} {it:Value} {X0:Wd} {n0:Nat} {cur:Nat→St→Option (Option V)} {I:Nat→Heap→Prop} {target:PySem.Expr} {body:List PySem.Stmt} {dt:DT} {db:DS} {R':Result→Shared→Prop} {Q:Fl→St→Prop} {aft:St→(St→Prop)→Prop}
  (haft:∀ {K:St→Prop} {σ:St} {X:Wd} {s:Shared},aft σ K→n0≤σ.nx→Rel G X env σ s→AftAt G X env n0 K s)
  (ha:AOk lv A) (he:EOk sc env) (T:Itr G lv tg it S X0 n0 cur I) (htg:tg=true→fK target=true) (ht:ST G lv sc target dt) (hb:i8 G lv sc body db)
  (hQ:∀ f s',PostS G X0 env n0 Q f s'→R' (.ok f) s') (k i:Nat) (σ:St) (X:Wd) (s:Shared) (hl:jI aft cur dt db k i σ Q) (L:X0.le n0 X) (hn:n0≤σ.nx) (R:Rel G X env σ s) (hf:Frz X S) (hi:I i s.heap) :
  codeAny (model G.prog G.w) A (.forLoop target it body [] env) R' s:=by
 refine codeAny_forLoop_any (fun k s=>LoopAt G X0 env n0 S I (fun i σ=>jI aft cur dt db k i σ Q) s) ?_ k ⟨i,σ,X,hl,L,hn,R,hf,hi⟩
 clear hl L hn R hf hi
 rintro k s ⟨i,σ,X,hl,L,hn,R,hf,hi⟩
 cases k with
 | zero=>exact hl.elim
 | succ k=>
  have hl:(match cur i σ with
   | some (some v)=>dt v σ fun σ1=>db σ1 fun fl σ2=>N9 fl (aft σ2 fun σ3=>jI aft cur dt db k (i+1) σ3 Q) σ2 Q
   | some none=>Q .next σ
   | none=>False):=hl
  cases hc:cur i σ with
  | none=>rw [hc] at hl; exact hl.elim
  | some r=>
   rw [hc] at hl
   refine Qv (T.step A env i X σ s r ha L hn R hf hi hc) (fun o s1 h1=>?_) fun _ _ z=>z.elim
   cases r with
   | none=>
    apply bc;intro z_
    obtain ⟨rfl,X1,R1,w1⟩:=h1
    apply z_;clear z_
    exact wpAny_execs_nil (hQ _ _ ⟨.next,σ,X1,hl,sb L hn w1 T.fresh,hn,R1,.next⟩)
   | some v=>
    apply bc;intro z_
    obtain ⟨val,rfl,h1⟩:=h1
    apply z_;clear z_
    refine Qv (h1 target _ htg fun s1 X1 R1 w1 f1 W hi1=>?_) (fun _ _ z=>z) fun _ _ z=>z.elim
    have L1:=sb L hn w1 T.fresh
    refine Qv (ht v σ _ hl A env X1 s1 val ha he R1 W) (fun _ s2 y_=>?_) fun _ _ z=>z.elim
    apply bc;intro z_
    obtain ⟨σ2,X2,q2,L2,n2,R2⟩:=y_
    apply z_;clear z_
    have n12:=QC hn n2
    refine Qv (hb σ2 _ q2 A env X2 s2 ha he R2) (fun f s3 y_=>?_) fun _ _ z=>z.elim
    apply bc;intro z_
    obtain ⟨fl,σ3,X3,q3,L3,n3,R3,W3⟩:=y_
    apply z_;clear z_
    have L23:=L2.trans L3 n2
    have f3:Frz X3 S:=f1.up L23
    have hi3:=T.stable (i+1) X1 s1.heap s3.heap L1 R1.sub f1 hi1 (fun a o e=>R3.sub _ _ (L23.F _ _ e))
    have L13:=L1.trans L23 hn
    have n13:=QC n12 n3
    have go:(aft σ3 fun σ3=>jI aft cur dt db k (i+1) σ3 Q)→∃ m,m<k+1∧LoopAt G X0 env n0 S I (fun i σ=>jI aft cur dt db m i σ Q) s3:=fun q=>by
     apply bc;intro z_
     obtain ⟨σ4,X4,k4,L4,e4,n4,R4⟩:=haft q n13 R3
     apply z_;clear z_
     exact ⟨k,QK k,i+1,σ4,X4,k4,L13.trans L4 (QF _),n4,R4,f3.same e4,hi3⟩
    cases W3 with
    | next=>exact go q3
    | cont=>exact go q3
    | brk=>exact hQ _ _ ⟨.next,σ3,X3,q3,L13,n13,R3,.next⟩
    | ret v val W=>exact hQ _ _ ⟨.ret v,σ3,X3,q3,L13,n13,R3,.ret v val W⟩
noncomputable def Ah (di:DI) (dt:DT) (db:DS) (N:Nat):DS:=fun σ Q=>di σ fun cur σ1=>bW cur dt db N 0 σ1 Q
theorem em {tg:Bool} {target iter:PySem.Expr} {body:List PySem.Stmt} {di:DI} {dt:DT} {db:DS} {p:Pos} (N:Nat) (hi:SI G lv sc tg iter di) (htg:tg=true→fK target=true) (ht:ST G lv sc target dt) (hb:i8 G lv sc body db)
  (hs:∀ env x,foldedSetIterable iter env x=pure x):SS G lv sc (.For target iter body [] p) (Ah di dt db N):=fun σ Q hd A env X s ha he R=>by
 refine wpAny_For (Qv (hi σ _ hd A env X s ha he R) (fun x s1 h1=>Qv h1 (fun it s2 h2=>?_) fun _ _ z=>z) fun _ _ z=>z) (hs env)
 obtain ⟨cur,σ1,X0,X1,S,I,k1,L0,L1,n1,R1,f1,i1,T⟩:=h2
 refine se (aft:=fun σ K=>K σ) (fun k n R=>⟨_,_,k,.refl,rfl,n,R⟩) ha he T htg ht hb (fun f s' h=>?_) N 0 σ1 X1 s2 k1 L1 (QF _) R1 f1 i1
 exact PostS.lift L0 n1 h
noncomputable def zC (dt:DB) (db:DS):Nat→DS
 | 0=>fun _ _=>False
 | n+1=>fun σ Q=>dt σ fun z σ1=>match z with
  | false=>Q .next σ1
  | true=>db σ1 fun fl σ2=>N9 fl (zC dt db n σ2 Q) σ2 Q
theorem jV {t:PySem.Expr} {body:List PySem.Stmt} {dt:DB} {db:DS} {p:Pos} (N:Nat) (ht:SB G lv sc t dt) (hb:i8 G lv sc body db) :
  SS G lv sc (.While t body [] p) (zC dt db N):=fun σ Q hd A env X s ha he R=>by
 refine wpAny_While (codeAny_whileLoop (fun k s'=>PostT G X env σ.nx (fun σ'=>zC dt db k σ' Q) () s') ?_ N ⟨σ,X,hd,.refl,QF _,R⟩)
 rintro k s ⟨σ',X',hl,L,hn,R⟩
 cases k with
 | zero=>exact hl.elim
 | succ k=>
  refine Qv (ht σ' _ hl A env X' s ha he R) (fun b s1 y_=>?_) fun _ _ z=>z.elim
  apply bc;intro z_
  obtain ⟨σ1,X1,q1,L1,n1,R1⟩:=y_
  apply z_;clear z_
  have L01:=L.trans L1 hn
  have n01:=QC hn n1
  cases b with
  | false=>exact wpAny_execs_nil ⟨.next,σ1,X1,q1,L01,n01,R1,.next⟩
  | true=>
   refine Qv (hb σ1 _ q1 A env X1 s1 ha he R1) (fun f s2 y_=>?_) fun _ _ z=>z.elim
   apply bc;intro z_
   obtain ⟨fl,σ2,X2,q2,L2,n2,R2,W2⟩:=y_
   apply z_;clear z_
   have L02:=L01.trans L2 n01
   have n02:=QC n01 n2
   cases W2 with
   | next=>exact ⟨k,QK k,σ2,X2,q2,L02,n02,R2⟩
   | cont=>exact ⟨k,QK k,σ2,X2,q2,L02,n02,R2⟩
   | brk=>exact ⟨.next,σ2,X2,q2,L02,n02,R2,.next⟩
   | ret v val W=>exact ⟨.ret v,σ2,X2,q2,L02,n02,R2,.ret v val W⟩
noncomputable def gh {α:Type} (l:List α):Nat→Option α:=@List.rec α (fun _=>Nat→Option α) (fun _=>none) (fun a _ ih i=>@Nat.rec (fun _=>Option α) (some a) (fun k _=>ih k) i) l
theorem Bf {α:Type} {i:Nat}:gh ([]:List α) i=none:=rfl
theorem dR {α:Type}:∀ {l:List α} {i:Nat},gh l i=l[i]?
 | [],i=>by rw [Bf]; simp
 | a::r,0=>by simp; rfl
 | a::r,n+1=>by show gh r n=_; simp [dR]
noncomputable def G4:Option Nat→Option V
 | some c=>some (.str [c])
 | none=>none
noncomputable def dD (v:V) (i:Nat) (σ:St):Option (Option V):=match v with
 | .fro vs=>some (gh vs i)
 | .loc l=>(eA l σ).map fun vs=>gh vs i
 | .tup vs=>some (gh vs i)
 | .str s=>some (G4 (gh s i))
 | _=>none
noncomputable def D1:List Nat→Bool
 | []=>true
 | c::r=>and (Nat.ble c 127) (D1 r)
noncomputable def Qa (v:V) (σ:St) (K:(Nat→St→Option (Option V))→St→Prop):Prop:=match v with
 | .fro vs=>K (dD (.fro vs)) σ
 | .loc l=>onS (eA l σ) fun _=>K (dD (.loc l)) σ
 | .tup vs=>K (dD (.tup vs)) σ
 | .str s=>onT (D1 s) (K (dD (.str s)) σ)
 | _=>False
noncomputable def jF (v:V):Bool:=match v with | .fro _=>true | .loc _=>true | _=>false
noncomputable def nr:List String:=["enumerate","zip","dict_itemiterator","dict_reverseitemiterator","odict_iterator","itertools.zip_longest","itertools.pairwise"]
theorem oM {target:PySem.Expr} {a:Addr} {o:Obj} {T:String} {v:Value} {Q:Unit→Shared→Prop} (ho:s.heap.get? a=some o) (hc:o.cls=.type T) (hT:nr.contains T=false) (q:Q () s) :
  wpAny (model G.prog G.w) A (letOwnedTupleGo target (.ref a) v) Q bh s:=by
 have key:∀ (v:Value),wpAny (model G.prog G.w) A (do
   let (.ref r,.ref a):=((Value.ref a),v) | return
   let o ← load r
   match o.cls,o.data with
   | .type n,.fields vs=>
    if nr.contains n && vs[0]?==some (rawInt a) then
     rule "for.unpacks-the-owned-tuple"
     updateField r 0 .none
   | _,_=>pure ():Sem Unit) Q bh s:=by
  intro v
  cases v <;> first | exact Qu q | skip
  refine Qt (QA ho ?_)
  obtain ⟨c,d,dt,sl⟩:=o
  dsimp only at hc
  subst hc
  cases dt <;> first | exact Qu q | skip
  dsimp only
  rw [hT,Bool.false_and,QH QM]
  exact Qu q
 cases target <;> first | exact Qu q | exact key v
theorem fB {v:V} {i:Nat} {r:Option V} (hv:jF v=true) (h:dD v i σ=some r):bu v σ fun vs=>r=vs[i]?:=by
 cases v with
 | fro vs=>exact (Option.some.inj h).symm.trans dR
 | loc l=>
  obtain ⟨vs,q,e⟩:=Option.map_eq_some_iff.mp h
  unfold bu
  dsimp only
  rw [bS q]
  exact e.symm.trans dR
 | _=>first | exact nS hv | exact nB hv | cases hv
theorem bT {h:Heap} {it a:Addr} {i:Nat} (x:h.IsListIter it a i):∃ o,h.get? it=some o∧jP o∧o.cls=.type "list_iterator":=by
 apply bc;intro z_
 obtain ⟨o,ho,hc,hd⟩:=x
 apply z_;clear z_
 refine ⟨o,ho,⟨?_,_,hd⟩,hc⟩
 unfold Obj.loose; rw [hd,hc]; rfl
theorem m9 {h:Heap} {it a:Addr} {i:Nat} (x:h.IsTupleIter it a i):∃ o,h.get? it=some o∧jP o∧o.cls=.type "tuple_iterator":=by
 obtain ⟨o,ho,hc,hd⟩:=x
 refine ⟨o,ho,⟨?_,_,hd⟩,hc⟩
 unfold Obj.loose; rw [hd,hc]; rfl
theorem m8 {h:Heap} {it:Addr} {x:Str} {t:Tok} {i:Nat} (y:h.IsStrIter it "str_ascii_iterator" x t i):∃ o,h.get? it=some o∧jP o∧o.cls=.type "str_ascii_iterator":=by
 apply bc;intro z_
 obtain ⟨o,ho,hc,hd⟩:=y
 apply z_;clear z_
 refine ⟨o,ho,⟨?_,_,hd⟩,hc⟩
 unfold Obj.loose; rw [hd,hc]; rfl
theorem gH {it:Addr} {T:String} {I:Nat→Heap→Prop} {i:Nat} {h':Heap} {tk:Nat} {v:V} {val:Value} (ok:G.Ok) (R:Rel G X env σ s) (hf:Frz X [it]) (hb:G.hb.get? it=none)
  (hk:∀ b,b≠it→∀ o,s.heap.get? b=some o→h'.get? b=some o) (ho:∃ o,h'.get? it=some o∧jP o∧o.cls=.type T) (hT:nr.contains T=false) (W:RepV X σ.nx v val) (hi:I (i+1) h') :
  ∃ val',some val=some val'∧∀ (target:PySem.Expr) (Q:Unit→Shared→Prop),(tg=true→fK target=true)→(∀ s'' X',Rel G X' env σ s''→Sw [it] σ.nx X X'→Frz X' [it]→RepV X' σ.nx v val'→I (i+1) s''.heap→Q () s'') →
     wpAny (model G.prog G.w) A (letOwnedTupleGo target (.ref it) val') Q bh {s with heap:=h',toks:=tk}:=by
 refine ⟨val,rfl,fun target Q _ k=>?_⟩
 apply bc;intro z_
 obtain ⟨o,h1,h2,h3⟩:=ho
 apply z_;clear z_
 obtain ⟨X',R',w,f',_⟩:=R.sw (s':={s with heap:=h',toks:=tk}) ok hf (by simp [hb]) (fun b q o e=>hk b (by simpa using q) o e) (by simp; exact ⟨o,h1,h2⟩) rfl rfl R.gens
 exact oM h1 h3 hT (k _ X' R' w f' (W.sw hf w) hi)
theorem iX {it:Addr} {h':Heap} {tk:Nat} (ok:G.Ok) (R:Rel G X env σ s) (hf:Frz X [it]) (hb:G.hb.get? it=none) (hk:∀ b,b≠it→∀ o,s.heap.get? b=some o→h'.get? b=some o) :
  (none:Option Value)=none∧∃ X',Rel G X' env σ {s with heap:=h',toks:=tk}∧Sw [it] σ.nx X X':=by
 apply bc;intro z_
 obtain ⟨X',R',w⟩:=R.letgo (s':={s with heap:=h',toks:=tk}) ok hf (by simp [hb]) (fun b q o e=>hk b (by simpa using q) o e) rfl rfl R.gens
 apply z_;clear z_
 exact ⟨rfl,X',R',w⟩
theorem nq {P:Addr→Prop} {it:Addr} (h:P it):∀ b∈[it],P b:=List.forall_mem_singleton.mpr h
theorem jh {it:Addr} {P:Obj→Prop} {h h':Heap} (hX:∀ a o,X.F a=some o→h.get? a=some o) (hf:Frz X [it]) (hi:∃ o,h.get? it=some o∧P o) (hk:∀ a o,X.F a=some o→h'.get? a=some o):∃ o,h'.get? it=some o∧P o:=by
 apply bc;intro z_
 obtain ⟨o,ho,r⟩:=hi
 obtain ⟨o',e',_⟩:=hf it (List.mem_singleton_self _)
 apply z_;clear z_
 have:=hX _ _ e'
 rw [ho] at this; cases this
 exact ⟨o,hk _ _ e',r⟩
theorem iO {vs:List V} {items:List Value} {i:Nat} (hs:RepVs X n vs items) (q:vs[i]?=none):items.toArray[i]?=none:=by
 rw [List.getElem?_eq_none_iff] at q; rw [Rf,List.getElem?_eq_none_iff,hs.length]; exact q
theorem Itr.list {v:V} {it a:Addr} (ok:G.Ok) (hv:jF v=true) (W:RepV X0 n0 v (.ref a)) (hit:X0.F it=none) (hb:G.hb.get? it=none) :
  Itr G lv tg (.ref it) [it] X0 n0 (dD v) (fun i h=>h.IsListIter it a i) where
 fresh:=nq hit
 hbS:=nq hb
 step:=fun A env i X σ s r ha L hn R hf hi hc=>by
  apply bc;intro z_
  obtain ⟨a',o,items,vs,e,ho,hl,hs,rfl⟩:=br R (W.mono L hn) (fB hv hc)
  apply z_;clear z_
  cases e
  cases q:vs[i]? with
  | none=>exact wpAny_pyNext_list_end ha.handled hi (hl.isList ho) (iO hs q) fun h' he=>iX (tk:=s.toks) ok R hf hb fun b q o e=>he b o q e
  | some v=>
   apply bc;intro z_
   obtain ⟨val,hx,Wv⟩:=hs.get q
   apply z_;clear z_
   refine wpAny_pyNext_list_item hi (hl.isList ho) (x:=val) (by rw [Rf]; exact hx) fun h' hi' hs'=>?_
   exact gH (I:=fun i h=>h.IsListIter it a i) (tk:=s.toks) ok R hf hb (fun b q o e=>(hs'.2 b q).trans e) (bT hi') rfl Wv hi'
 stable:=fun i X h h' L hX hf hi hk=>jh hX hf hi hk
 self:=fun A i s Q ha hi q=>wpAny_pyIter_listiter hi q
theorem Itr.tuple {vs:List V} {items:List Value} {o:Obj} {it a:Addr} (ok:G.Ok) (ho:X0.F a=some o) (hl:LObj "tuple" o items) (hs:RepVs X0 n0 vs items) (hit:X0.F it=none) (hb:G.hb.get? it=none) :
  Itr G lv tg (.ref it) [it] X0 n0 (dD (.tup vs)) (fun i h=>h.IsTupleIter it a i) where
 fresh:=nq hit
 hbS:=nq hb
 step:=fun A env i X σ s r ha L hn R hf hi hc=>by
  cases hc
  have ho:=R.sub _ _ (L.F _ _ ho)
  have hs:=hs.mono L hn
  rw [dR]
  cases q:vs[i]? with
  | none=>
   exact wpAny_pyNext_tuple_end ha.handled hi (hl.isTuple ho) (iO hs q) fun h' he=>iX (tk:=s.toks) ok R hf hb fun b q o e=>he b o q e
  | some v=>
   apply bc;intro z_
   obtain ⟨val,hx,Wv⟩:=hs.get q
   apply z_;clear z_
   refine wpAny_pyNext_tuple_item hi (hl.isTuple ho) (x:=val) (by rw [Rf]; exact hx) fun h' hi' hs'=>?_
   exact gH (I:=fun i h=>h.IsTupleIter it a i) (tk:=s.toks) ok R hf hb (fun b q o e=>(hs'.2 b q).trans e) (m9 hi') rfl Wv hi'
 stable:=fun i X h h' L hX hf hi hk=>jh hX hf hi hk
 self:=fun A i s Q ha hi q=>wpAny_pyIter_tupleiter hi q
theorem Itr.str {x:List Nat} {t:Tok} {it:Addr} (ok:G.Ok) (hit:X0.F it=none) (hb:G.hb.get? it=none) :
  Itr G lv tg (.ref it) [it] X0 n0 (dD (.str x)) (fun i h=>h.IsStrIter it "str_ascii_iterator" ⟨x.toArray⟩ t i) where
 fresh:=nq hit
 hbS:=nq hb
 step:=fun A env i X σ s r ha L hn R hf hi hc=>by
  cases hc
  rw [dR]
  cases q:x[i]? with
  | none=>
   exact wpAny_pyNext_ascii_end ha.handled hi (by simpa using q) fun h' he=>iX (tk:=s.toks) ok R hf hb fun b q o e=>he b o q e
  | some c=>
   refine wpAny_pyNext_ascii_item hi (c:=c) (by simpa using q) fun h' hi' hs'=>?_
   exact gH (I:=fun i h=>h.IsStrIter it "str_ascii_iterator" ⟨x.toArray⟩ t i) (tk:=s.toks+1) ok R hf hb (fun b q o e=>(hs'.2 b q).trans e) (m8 hi') rfl (.str [c] _) hi'
 stable:=fun i X h h' L hX hf hi hk=>jh hX hf hi hk
 self:=fun A i s Q ha hi q=>wpAny_pyIter_striter_ascii hi q
theorem rJ {s:List Nat} (h:D1 s=true):(⟨s.toArray⟩:Str).cps.all (·<128)=true:=by
 have:∀ c∈s,c<128:=by
  induction s with
  | nil=>intro c hc; cases hc
  | cons a r ih=>exact List.forall_mem_cons.mpr ⟨Nat.lt_succ_of_le (QD (Bool.and_eq_true_iff.mp h).1),ih (Bool.and_eq_true_iff.mp h).2⟩
 rw [← Array.all_toList,List.all_eq_true]
 exact fun c hc=>QS (this c hc)
theorem Rel.newAt (R:Rel G X env σ s) {b:Addr} (z:s.heap.get? b=none):X.F b=none∧G.hb.get? b=none:=by
 have h1:X.F b=none:=by
  cases q:X.F b with
  | none=>rfl
  | some o=>have:=R.sub _ _ q; rw [z] at this; cases this
 refine ⟨h1,?_⟩
 cases q:G.hb.get? b with
 | none=>rfl
 | some o=>
  by_cases hT:b=G.T
  ·have:=R.tab.1; rw [← hT,z] at this; cases this
  ·rw [R.base _ _ q hT] at h1; cases h1
theorem Rel.newIt (ok:G.Ok) (R:Rel G X env σ s) {o:Obj} (ho:jP o) {t:Nat} (hfd:o.isFreed=false) :
  ∃ X',Rel G X' env σ {s with heap:=s.heap.push o,toks:=t}∧X.le σ.nx X'∧X'.F s.heap.objs.size=some o∧X.F s.heap.objs.size=none∧G.hb.get? s.heap.objs.size=none:=by
 apply bc;intro z_
 obtain ⟨R',L⟩:=R.still (s':={s with heap:=s.heap.push o,toks:=t}) aH (fun _ _ e=>QB _ e) (QG _ hfd) rfl rfl R.gens ok
 apply z_;clear z_
 exact ⟨_,R',L,QI rfl,R.newAt aH⟩
theorem Itd.new {K:(Nat→St→Option (Option V))→St→Prop} {cur:Nat→St→Option (Option V)} {o:Obj} {I:Addr→Nat→Heap→Prop} {t:Nat} (ok:G.Ok) (R:Rel G X env σ s) (ho:jP o) (hfd:o.isFreed=false) (k:K cur σ)
  (hI:(s.heap.push o).get? s.heap.objs.size=some o→I s.heap.objs.size 0 (s.heap.push o)) (T:∀ it,X.F it=none→G.hb.get? it=none→Itr G lv tg (.ref it) [it] X σ.nx cur (I it)) :
  ItdAt G lv tg env X σ.nx K (.ref s.heap.objs.size) {s with heap:=s.heap.push o,toks:=t}:=by
 apply bc;intro z_
 obtain ⟨X',R',L,h1,h2,h3⟩:=R.newIt (t:=t) ok ho hfd
 apply z_;clear z_
 exact ⟨_,σ,X,X',_,_,k,.refl,L,QF _,R',nq ⟨_,h1,ho⟩,hI (QG _ hfd),T _ h2 h3⟩
theorem Fs {v:V} {val:Value} {K:(Nat→St→Option (Option V))→St→Prop} (ok:G.Ok) (ha:AOk lv A) (h:Qa v σ K) (R:Rel G X env σ s) (W:RepV X σ.nx v val):Itd G lv tg A env X σ.nx K val s:=by
 have lst:∀ {v:V} {val:Value},jF v=true→RepV X σ.nx v val→bu v σ (fun _=>True)→K (dD v) σ→Itd G lv tg A env X σ.nx K val s:=by
  intro v val hv W hl k
  apply bc;intro z_
  obtain ⟨a,o,items,ws,rfl,ho,hlo,hs,e⟩:=br R W hl
  apply z_;clear z_
  exact wpAny_pyIter_list (hlo.isList ho) (Itd.new (t:=s.toks) (I:=fun it i h=>h.IsListIter it a i) ok R ⟨rfl,_,rfl⟩ rfl k (fun e=>⟨_,e,rfl,rfl⟩) fun it h2 h3=>Itr.list ok hv W h2 h3)
 cases v with
 | str x=>
  apply bc;intro z_
  obtain ⟨t,rfl⟩:=W.inv
  obtain ⟨q,h⟩:=onT.out h
  apply z_;clear z_
  exact wpAny_pyIter_ascii (rJ q) (Itd.new (t:=s.toks) (I:=fun it i h=>h.IsStrIter it "str_ascii_iterator" ⟨x.toArray⟩ t i) ok R ⟨rfl,_,rfl⟩ rfl h (fun e=>⟨_,e,rfl,rfl⟩) fun it h2 h3=>Itr.str ok h2 h3)
 | loc l=>
  apply bc;intro z_
  obtain ⟨vs,q,h⟩:=onS.out h
  apply z_;clear z_
  exact lst rfl W (by unfold bu; dsimp only; rw [bS q]; trivial) h
 | tup vs=>
  cases W.tupI with
  | mk vals a o ho hl hs=>
  exact wpAny_pyIter_tuple (hl.isTuple (R.sub _ _ ho)) (Itd.new (t:=s.toks) (I:=fun it i h=>h.IsTupleIter it a i) ok R ⟨rfl,_,rfl⟩ rfl h (fun e=>⟨_,e,rfl,rfl⟩) fun it h2 h3=>Itr.tuple ok ho hl hs h2 h3)
 | fro vs=>exact lst rfl W trivial h
 | _=>exact h.elim
theorem Itd.lift {K:(Nat→St→Option (Option V))→St→Prop} {val:Value} (L:X.le n X') (hn:n≤n') (h:Itd G lv tg A env X' n' K val s):Itd G lv tg A env X n K val s:=
 Qv h (fun _ _ ⟨cur,σ1,X0,X1,S,I,k,L0,L1,n1,r,f,i,T⟩=>⟨cur,σ1,X0,X1,S,I,k,L.trans L0 hn,L1,QC hn n1,r,f,i,T⟩) fun _ _ z=>z
noncomputable def uX (d:DE):DI:=fun σ K=>d σ fun v σ1=>Qa v σ1 K
theorem cP {e:PySem.Expr} {d:DE} (ok:G.Ok) (h:SE G lv sc e d):SI G lv sc tg e (uX d):=fun σ K hd A env X s ha he R=>
 h.run hd ha he R fun val s1 v σ1 X1 k1 L1 n1 R1 W1=>Itd.lift L1 n1 (Fs ok ha k1 R1 W1)
noncomputable def SK (G:Glob) (lv:Nat) (sc:Sc) (ks:List Keyword) (d:DA):Prop:=∀ σ Q,d σ Q→∀ A env X s pos,AOk lv A→EOk sc env→Rel G X env σ s →
 wpAny (model G.prog G.w) A (evalAll ((backToKw pos (keywordEach ks env)).map (·.2))) (fun vals s'=>∃ vs σ' X',Q vs σ'∧X.le σ.nx X'∧σ.nx≤σ'.nx∧Rel G X' env σ' s'∧RepVs X' σ'.nx vs vals) bh s
theorem eP:SK G lv sc [] (fun σ Q=>Q [] σ):=fun σ Q hd A env X s pos ha he R=>Qu ⟨[],σ,X,hd,.refl,QF _,R,.nil⟩
noncomputable def uN (d:DE) (ds:DA):DA:=fun σ Q=>d σ fun v σ1=>ds σ1 fun vs σ2=>Q (v::vs) σ2
theorem fT {x:Str} {e:PySem.Expr} {p:Pos} {ks:List Keyword} {d:DE} {ds:DA} (h:SE G lv sc e d) (hs:SK G lv sc ks ds):SK G lv sc (⟨some x,e,p⟩::ks) (uN d ds):=fun σ Q hd A env X s pos ha he R=>by
 refine kws_cons (h.run hd ha he R fun val s1 v σ1 X1 k1 L1 n1 R1 W1=>?_)
 refine Qv (hs σ1 _ k1 A env X1 s1 pos ha he R1) (fun vals s2 y_=>?_) fun _ _ z=>z
 apply bc;intro z_
 obtain ⟨vs,σ2,X2,q,L2,n2,R2,W2⟩:=y_
 apply z_;clear z_
 exact ⟨v::vs,σ2,X2,q,L1.trans L2 n1,QC n1 n2,R2,.cons (W1.mono L2 n2) W2⟩
noncomputable def CB (G:Glob) (lv:Nat) (f:Value) (ks:List Str) (D:List V→List V→DE):Prop:=∀ vs kvs σ Q,D vs kvs σ Q→∀ A env X s vals kvals,AOk lv A→Rel G X env σ s→RepVs X σ.nx vs vals→RepVs X σ.nx kvs kvals →
 (∀ Q':Keeper→Shared→Prop,(∀ k,k≠Keeper.caller→Q' k s)→wpAny (model G.prog G.w) A (keeperOf f) Q' bh s)∧wpAny (model G.prog G.w) A (call f vals (ks.zip kvals)) (Post G X env σ.nx Q) bh s
theorem CB.of {f:Value} {D:List V→DE} (hf:∀ a,f≠.ref a) (h:∀ vs σ Q,D vs σ Q→∀ A env X s vals,AOk lv A→Rel G X env σ s→RepVs X σ.nx vs vals→wpAny (model G.prog G.w) A (call f vals) (Post G X env σ.nx Q) bh s) :
  CB G lv f [] (fun vs _=>D vs):=fun vs kvs σ Q hd A env X s vals kvals ha R W _=>⟨fun Q' k=>by
   cases f <;> first | exact absurd rfl (hf _) | exact Qu (k _ (by decide)),h vs σ Q hd A env X s vals ha R W⟩
theorem mW {M:Model} {E:Value→Shared→Prop} {f:Value} {args:List (Bool×Sem Value)} {keywords:List (Option Str×Sem Value)} {Q:Args→Shared→Prop} (hplain:args.any (·.1)=false)
  (hall:keywords.all (·.1.isSome)=true)
  (h:wpAny M A (spliced args) (fun vs s₁=>wpAny M A (evalAll (keywords.map (·.2))) (fun kvs s₂=>Q ⟨vs,(keywords.filterMap (·.1)).zip kvs⟩ s₂) E s₁) E s) :
  wpAny M A (evalArgs f true args keywords) Q E s:=by
 have key:evalArgs f true args keywords=(do
   let pos ← spliced args
   holding pos do
    let kw:=(keywords.filterMap (·.1)).zip (← evalAll (keywords.map (·.2)))
    return ⟨pos,kw⟩):=by
  unfold evalArgs
  have:∀ (x:Sem Value),args≠[(true,x)]:=fun x w=>by rw [w] at hplain; cases hplain
  cases args with
  | nil=>simp [hall]
  | cons a r=>
   obtain ⟨b,x⟩:=a
   cases b with
   | false=>simp [hall]
   | true=>simp at hplain
 rw [key]
 refine Qt (Qv h (fun vs s' h'=>?_) fun _ _ x=>x)
 exact Qw (Qt (Qv h' (fun kvs s₂ h₂=>Qu h₂) fun _ _ x=>x))
theorem b9 {M:Model} {E:Value→Shared→Prop} {f:Value} {first:List Value} {args:List (Bool×Sem Value)} {keywords:List (Option Str×Sem Value)} {Q:Value→Shared→Prop} {pos:Pos} (hplain:args.any (·.1)=false)
  (hall:keywords.all (·.1.isSome)=true)
  (h:wpAny M A (spliced args) (fun vs s₁=>wpAny M A (evalAll (keywords.map (·.2))) (fun kvs s₂=>
   (∀ Q':Keeper→Shared→Prop,(∀ k,k≠Keeper.caller→Q' k s₂)→wpAny M A (keeperOf f) Q' E s₂)∧wpAny M A (call f (first++vs) ((keywords.filterMap (·.1)).zip kvs)) Q E s₂) E s₁) E s) :
  wpAny M A (callWith pos f first args keywords) Q E s:=by
 have hkw:keywords.any (·.1.isNone)=false:=by
  rw [List.any_eq_false]; intro x hx
  have:=List.all_eq_true.mp hall x hx
  cases q:x.1 <;> simp [q] at this ⊢
 unfold callWith
 refine Qt (Qw (mW hplain hall (Qv h (fun vs s₁ h₁=>Qv h₁ (fun kvs s₂ h₂=>Qt (Qx ?_)) fun _ _ z=>z) fun _ _ z=>z)))
 have tail:∀ {t:Sem Value},wpAny M A t Q E s₂→wpAny M A (t >>= fun r=>holding [r] point >>= fun _=>pure r) Q E s₂:=
  fun ht=>Qt (Qv ht (fun r s₂ hr=>Qt (Qw (wpAny_point (Qu hr)))) fun _ _ x=>x)
 apply bc;intro z_
 obtain ⟨hk,hc⟩:=h₂
 apply z_;clear z_
 simp only [hplain,hkw,Bool.or_false]
 refine Qt (hk _ fun k nk=>?_)
 cases k with
 | caller=>exact absurd rfl nk
 | machine=>exact tail hc
 | frame=>
  dsimp only
  refine wpAny_ite ?_
  split
  ·exact tail hc
  ·exact tail (by unfold callMarked; exact wpAny_keep hc)
 | boundFrame=>
  dsimp only
  refine wpAny_ite ?_
  split
  ·exact tail hc
  ·exact tail (by unfold callMarked; exact wpAny_keep hc)
noncomputable def SC (G:Glob) (lv:Nat) (sc:Sc) (e:PySem.Expr) (ks:List Str) (D:List V→List V→DE):Prop:=∀ A env X σ s,AOk lv A→EOk sc env→Rel G X env σ s →
 ∀ Q,(∀ f,CB G lv f ks D→Q f s)→wpAny (model G.prog G.w) A (eval e env) Q bh s
noncomputable def uF (D:List V→List V→DE) (da dk:DA):DE:=fun σ Q=>da σ fun vs σ1=>dk σ1 fun kvs σ2=>D vs kvs σ2 Q
theorem uE {x:Str} {np p:Pos} {args:List PySem.Expr} {ks:List Keyword} {names:List Str} {D:List V→List V→DE} {da dk:DA} (hf:SC G lv sc (.Name x np) names D) (ha:SA G lv sc args da) (hk:SK G lv sc ks dk)
  (h1:∀ env pos,(backTo pos (starEach args env)).any (·.1)=false) (h2:∀ env pos,(backToKw pos (keywordEach ks env)).all (·.1.isSome)=true) (h3:∀ env pos,(backToKw pos (keywordEach ks env)).filterMap (·.1)=names):SE G lv sc (.Call (.Name x np) args ks p) (uF D da dk):=fun σ Q hd A env X s hA he R=>by
 refine wpAny_Call_ofName (hf A env X σ s hA he R _ fun f hc=>?_)
 refine b9 (h1 env _) (h2 env _) ?_
 refine Qv (ha σ _ hd A env X s p hA he R) (fun vals s1 y_=>?_) fun _ _ z=>z
 apply bc;intro z_
 obtain ⟨vs,σ1,X1,q1,L1,n1,R1,W1⟩:=y_
 apply z_;clear z_
 refine Qv (hk σ1 _ q1 A env X1 s1 p hA he R1) (fun kvals s2 y_=>?_) fun _ _ z=>z
 apply bc;intro z_
 obtain ⟨kvs,σ2,X2,q2,L2,n2,R2,W2⟩:=y_
 apply z_;clear z_
 rw [h3,List.nil_append]
 apply bc;intro z_
 obtain ⟨a,b⟩:=hc vs kvs σ2 Q q2 A env X2 s2 vals kvals hA R2 (W1.mono L2 n2) W2
 apply z_;clear z_
 exact ⟨a,Qv b (fun _ _ z=>Post.lift (L1.trans L2 n1) (QC n1 n2) z) fun _ _ z=>z⟩
theorem sS {x:Str} {i:Nat} {np:Pos} {f:Value} {ks:List Str} {D:List V→List V→DE} (ok:G.Ok) (hx:sc.names[i]?=some (x,.globalImplicit)) (hg:nsIn G.K mainGlobals x=some none) (hn:x≠"__name__") (hb:bootBuiltins x=some f)
  (hdb:(x==("__debug__":Str))=false) (hc:CB G lv f ks D):SC G lv sc (.Name x np) ks D:=fun A env X σ s ha he R Q q=>
 wpAny_Name (eo ok he R hx hg hn hb (q f hc)) hdb
theorem uy {x:Str} {i:Nat} {np:Pos} {a:Addr} {ks:List Str} {D:List V→List V→DE} (ok:G.Ok) (hx:sc.names[i]?=some (x,.globalImplicit)) (hg:nsIn G.K mainGlobals x=some (some (.ref a)))
  (hdb:(x==("__debug__":Str))=false) (hc:CB G lv (.ref a) ks D):SC G lv sc (.Name x np) ks D:=fun A env X σ s ha he R Q q=>by
 refine wpAny_Name (gb he hx ?_) hdb
 unfold loadGlobal
 rw [he.globals]
 exact Qt ((looks_nsIn (R.K ok) hg).here (Qu (q _ hc)))
noncomputable def O7 (v:V) (σ:St):Option Nat:=match v with
 | .tup xs=>some xs.length
 | .loc l=>(eA l σ).map List.length
 | .fro xs=>some xs.length
 | _=>none
noncomputable def O6 (vs:List V) (σ:St) (Q:V→St→Prop):Prop:=nV vs fun v=>onS (O7 v σ) fun n=>fits n (Q (.int n) σ)
noncomputable def O2 (vs:List V) (σ:St) (Q:V→St→Prop):Prop:=nV vs fun v=>aZ v fun i=>Q (.int i) σ
noncomputable def Lp:Int→Int
 | .ofNat n=>.ofNat n
 | .negSucc n=>.ofNat (n+1)
noncomputable def Oo (vs:List V) (σ:St) (Q:V→St→Prop):Prop:=nV vs fun v=>aZ v fun i=>Q (.int (Lp i)) σ
noncomputable def Ar (vs:List V) (σ:St) (Q:V→St→Prop):Prop:=uo vs fun v w=>aZ v fun i=>aZ w fun j=>onT (bg j) (posI j fun n=>Q (.tup [.int (Int.fdiv i (.ofNat (n+1))),.int (Int.fmod i (.ofNat (n+1)))]) σ)
noncomputable def zx (v:V) (σ:St):Option String:=match v with
 | .str _=>some "str"
 | .fro _=>some "list"
 | .loc l=>(eA l σ).map fun _=>"list"
 | _=>none
noncomputable def N7 (vs:List V) (σ:St) (Q:V→St→Prop):Prop:=nV vs fun v=>onS (zx v σ) fun T=>Q (.ty T) σ
noncomputable def Kj (vs:List V) (σ:St) (Q:V→St→Prop):Prop:=nV vs fun v=>bu v σ fun xs=>fits xs.length (Q (.tup xs) σ)
noncomputable def lE:Int→List Int→Int
 | m,[]=>m
 | m,a::r=>lE (match decide (m<a) with | true=>a | false=>m) r
noncomputable def Mq (v:V):Option Int:=match v with | .int i=>some i | _=>none
noncomputable def jg:List V→Option (List Int)
 | []=>some []
 | v::r=>(Mq v).bind fun i=>(jg r).map (List.cons i)
noncomputable def Mx (v:V) (σ:St) (Q:V→St→Prop):Prop:=bu v σ fun xs=>match jg xs with
 | some (n::ns)=>Q (.int (lE n ns)) σ
 | _=>False
noncomputable def Pd (v w:V) (σ:St) (Q:V→St→Prop):Prop:=aZ v fun i=>aZ w fun j=>match decide (i<j) with
 | true=>Q (.int j) σ
 | false=>Q (.int i) σ
noncomputable def FD (vs:List V) (σ:St) (Q:V→St→Prop):Prop:=match vs with
 | [v,w]=>Pd v w σ Q
 | vs=>nV vs fun v=>Mx v σ Q
theorem xa {ns:List Int}:∀ {m:Int},lE m ns∈m::ns∧∀ a∈m::ns,a≤lE m ns:=by
 induction ns with
 | nil=>intro m; exact ⟨QL ..,fun a h=>Int.le_of_eq (List.mem_singleton.mp h)⟩
 | cons a r ih=>
  intro m
  show lE (match decide (m<a) with | true=>a | false=>m) r∈_∧∀ b∈_,b≤lE (match decide (m<a) with | true=>a | false=>m) r
  have key:∀ {k:Int},(k=a∧m≤k)∨(k=m∧a≤k)→lE k r∈m::a::r∧∀ b∈m::a::r,b≤lE k r:=fun {k} hk=>by
   apply bc;intro z_
   obtain ⟨h1,h2⟩:=ih (m:=k)
   apply z_;clear z_
   have h3:=h2 k (QL ..)
   have hr:∀ b∈r,b≤lE k r:=fun b hb=>h2 b (QE _ hb)
   rcases hk with ⟨rfl,hk⟩ | ⟨rfl,hk⟩
   ·exact ⟨QE _ h1,List.forall_mem_cons.mpr ⟨Int.le_trans hk h3,h2⟩⟩
   ·exact ⟨(List.mem_cons.mp h1).elim (fun e=>by rw [e]; exact QL ..) fun e=>QE _ (QE _ e),List.forall_mem_cons.mpr ⟨h3,List.forall_mem_cons.mpr ⟨Int.le_trans hk h3,hr⟩⟩⟩
  by_cases h:m<a
  ·rw [QS h]; exact key (.inl ⟨rfl,Int.le_of_lt h⟩)
  ·rw [QR h]; exact key (.inr ⟨rfl,Int.not_lt.mp h⟩)
theorem RepVs.one {v:V} {vals:List Value} (W:RepVs X n [v] vals):∃ val,vals=[val]∧RepV X n v val:=by
 cases W with | cons a b=>cases b; exact ⟨_,rfl,a⟩
theorem RepVs.two {v w:V} {vals:List Value} (W:RepVs X n [v,w] vals):∃ val val',vals=[val,val']∧RepV X n v val∧RepV X n w val':=by
 cases W with | cons a b=>cases b with | cons c d=>cases d; exact ⟨_,_,rfl,a,c⟩
theorem fJ:CB G lv (.builtin "len") [] (fun vs _=>O6 vs):=CB.of (fun a w=>by cases w) fun vs σ Q hd A env X s vals ha R W=>by
 refine W.on1_ hd fun v val Wv hd=>?_
 apply bc;intro z_
 obtain ⟨m,e,hd⟩:=onS.out hd
 obtain ⟨hz,q⟩:=fits.out hd
 apply z_;clear z_
 have big:(m:Int)<2 ^ 63:=by omega
 have lst:∀ {a:Addr} {o:Obj} {xs:List V} {items:List Value},s.heap.get? a=some o→LObj "list" o items→RepVs X σ.nx xs items→xs.length=m →
   wpAny (model G.prog G.w) A (call (.builtin "len") [.ref a]) (Post G X env σ.nx Q) bh s:=fun {a o xs items} ho hl hs e=>by
  have e:items.toArray.size=m:=by rw [QJ,hs.length,e]
  exact Calls.call_len_list (hl.isList ho) (by rw [e]; exact big) (e.symm ▸ Post.ret q ((R.toks _)) (.int _ _))
 cases v with
 | loc l=>
  apply bc;intro z_
  obtain ⟨xs,q,e⟩:=Option.map_eq_some_iff.mp e
  cases (Wv.inv:val=.ref (X.ρ l))
  obtain ⟨_,o,vals,h1,h2,h3⟩:=R.st l _ (bS q)
  apply z_;clear z_
  exact lst h1 h2 h3 e
 | tup xs=>
  cases Wv.tupI with
  | mk items a o ho hl hs=>
  have e:items.toArray.size=m:=by rw [QJ,hs.length]; exact Option.some.inj e
  apply bc;intro z_
  obtain ⟨c,d,dt,sl⟩:=o
  obtain ⟨h1,h2,⟨ep,h3⟩,h4⟩:=hl
  apply z_;clear z_
  dsimp only at h1 h2 h3 h4
  subst h1 h2 h3 h4
  exact PySem.P.len_tuple (R.sub _ _ ho) (by rw [e]; exact Int.not_le.mpr big) (e.symm ▸ Post.ret q (R.toks _) (.int _ _))
 | fro xs=>
  cases Wv.froI with
  | mk items a o ho hl hs=>exact lst (R.sub _ _ ho) hl hs (Option.some.inj e)
 | _=>first | exact nS e | exact nB e | cases e
theorem Cg:CB G lv (.type "int") [] (fun vs _=>O2 vs):=CB.of (fun a w=>by cases w) fun vs σ Q hd A env X s vals ha R W=>
 W.on1_ hd fun v val Wv hd=>Wv.int_ hd fun i t hd=>call_int_int (Post.ret hd R (.int _ _))
theorem KL:CB G lv (.builtin "abs") [] (fun vs _=>Oo vs):=CB.of (fun a w=>by cases w) fun vs σ Q hd A env X s vals ha R W=>by
 refine W.on1_ hd fun v val Wv hd=>Wv.int_ hd fun i t hd=>?_
 refine PyProof.Rows.call_abs_int fun u tk=>?_
 have:(if i<0 then -i else i)=Lp i:=by
  cases i with
  | ofNat n=>exact QH (Int.not_lt.mpr (Int.natCast_nonneg n))
  | negSucc n=>rw [QI (Int.negSucc_lt_zero n)]; rfl
 rw [this]
 exact Post.ret hd (R.toks _) (.int _ _)
theorem ur (ok:G.Ok):CB G lv (.builtin "divmod") [] (fun vs _=>Ar vs):=CB.of (fun a w=>by cases w) fun vs σ Q hd A env X s vals ha R W=>by
 refine W.on2_ hd fun v w val val' Wv Ww hd=>Wv.int_ hd fun i t hd=>Ww.int_ hd fun j u hd=>?_
 apply bc;intro z_
 obtain ⟨q,hd⟩:=onT.out hd
 obtain ⟨m,rfl,hd⟩:=posI.out hd
 apply z_;clear z_
 exact PyProof.Rows.divmod_int (by intro e; cases e) (Post.newTuple ok hd (R.toks (s.toks+1+1)) (vals:=[.int _ _,.int _ _]) (.cons (.int _ _) (.cons (.int _ _) .nil))) (.inl (PyProof.noPylong_small (fF q)))
theorem uu:CB G lv (.type "type") [] (fun vs _=>N7 vs):=CB.of (fun a w=>by cases w) fun vs σ Q hd A env X s vals ha R W=>by
 refine W.on1_ hd fun v val Wv hd=>?_
 apply bc;intro z_
 obtain ⟨T,e,hd⟩:=onS.out hd
 apply z_;clear z_
 cases v with
 | str x=>
  apply bc;intro z_
  obtain ⟨t,rfl⟩:=Wv.inv
  apply z_;clear z_
  cases e
  exact call_type_of (Tx:="str") (typeIs_str _ _ _) rfl (Post.ret hd R (.ty _))
 | loc l=>
  apply bc;intro z_
  obtain ⟨xs,q,rfl⟩:=Option.map_eq_some_iff.mp e
  cases (Wv.inv:val=.ref (X.ρ l))
  obtain ⟨_,o,vals,h1,h2,h3⟩:=R.st l _ (bS q)
  apply z_;clear z_
  exact call_type_of (Tx:="list") ⟨o,h1,h2.1⟩ rfl (Post.ret hd R (.ty _))
 | fro xs=>
  cases e
  cases Wv.froI with
  | mk items a o ho hl hs=>exact call_type_of (Tx:="list") ⟨_,R.sub _ _ ho,hl.1⟩ rfl (Post.ret hd R (.ty _))
 | _=>first | exact nS e | exact nB e | cases e
theorem zU (ok:G.Ok):CB G lv (.type "tuple") [] (fun vs _=>Kj vs):=CB.of (fun a w=>by cases w) fun vs σ Q hd A env X s vals ha R W=>by
 refine W.on1_ hd fun v val Wv hd=>?_
 apply bc;intro z_
 obtain ⟨a,o,items,xs,rfl,ho,hl,hs,q⟩:=br R Wv hd
 obtain ⟨hz,q⟩:=fits.out q
 apply z_;clear z_
 exact call_tuple_list (hl.isList ho) (fun h' hk=>Post.newTuple ok q (R.keeps (s':={s with heap:=h'}) hk rfl rfl R.gens) hs) (by rw [QJ,hs.length,QN]; omega)
theorem l9 {vs:List V}:∀ {vals:List Value} {ns:List Int},jg vs=some ns→RepVs X n vs vals→∃ xs:List (Int×Tok),vals=xs.map (fun p=>Value.int p.1 p.2)∧xs.map (·.1)=ns:=by
 induction vs with
 | nil=>intro vals ns h W; cases W; cases h; exact ⟨[],rfl,rfl⟩
 | cons v r ih=>
  intro vals ns h W
  cases W with
  | cons a b=>
   apply bc;intro z_
   obtain ⟨i,h1,h⟩:=Option.bind_eq_some_iff.mp h
   obtain ⟨ms,h2,rfl⟩:=Option.map_eq_some_iff.mp h
   obtain ⟨xs,rfl,rfl⟩:=ih h2 b
   apply z_;clear z_
   cases v with
   | int j=>
    apply bc;intro z_
    obtain ⟨t,rfl⟩:=a.inv
    apply z_;clear z_
    cases h1
    exact ⟨(i,t)::xs,rfl,rfl⟩
   | _=>first | exact nS h1 | exact nB h1 | cases h1
theorem LObj.ints {a:Addr} {o:Obj} {xs:List (Int×Tok)} (hl:LObj "list" o (xs.map fun p=>Value.int p.1 p.2)) (ho:s.heap.get? a=some o):s.heap.IsList a (intItems xs.toArray):=by
 apply bc;intro z_
 obtain ⟨o,h1,h2,ep,h3⟩:=hl.isList ho
 apply z_;clear z_
 exact ⟨o,h1,h2,ep,by rw [h3]; simp [intItems]⟩
theorem DZ {xs:List (Int×Tok)} {m:Int} {ns:List Int} (e2:xs.map (·.1)=m::ns):numAt xs.toArray (argBest (fun i j=>decide (numAt xs.toArray i > numAt xs.toArray j)) (xs.toArray.size - 1))=lE m ns:=by
 have hx:xs.length=ns.length+1:=by rw [← List.length_map (f:=(·.1)),e2]; rfl
 apply bc;intro z_
 obtain ⟨h1,h2⟩:=argBest_gt (numAt xs.toArray) (xs.toArray.size - 1)
 apply z_;clear z_
 have h3:xs.toArray.size - 1=ns.length:=by rw [QJ,hx]; rfl
 rw [h3] at h1 h2 ⊢
 have at_:∀ j,j≤ns.length→(m::ns)[j]?=some (numAt xs.toArray j):=fun j hj=>by
  rw [← e2,List.getElem?_map]
  unfold numAt
  have:j<xs.length:=hx ▸ Nat.lt_succ_of_le hj
  simp [List.getElem?_eq_getElem this]
 apply bc;intro z_
 obtain ⟨g1,g2⟩:=xa (ns:=ns) (m:=m)
 apply z_;clear z_
 refine Int.le_antisymm (g2 _ (QY (at_ _ h1))) ?_
 apply bc;intro z_
 obtain ⟨j,hj,e⟩:=List.mem_iff_getElem.mp g1
 apply z_;clear z_
 have hj':j≤ns.length:=Nat.le_of_lt_succ hj
 have:=at_ j hj'
 rw [List.getElem?_eq_getElem hj,Option.some.injEq] at this
 rw [← e,this]
 exact h2 j hj'
theorem n5:CB G lv (.builtin "max") [] (fun vs _=>FD vs):=CB.of (fun a w=>by cases w) fun vs σ Q hd A env X s vals ha R W=>by
 have bO:nV vs (fun v=>Mx v σ Q)→wpAny (model G.prog G.w) A (call (.builtin "max") vals) (Post G X env σ.nx Q) bh s:=fun hd=>by
  refine W.on1_ hd fun v val Wv hd=>?_
  apply bc;intro z_
  obtain ⟨a,o,items,vs,rfl,ho,hl,hs,q⟩:=br R Wv hd
  apply z_;clear z_
  cases e:jg vs with
  | none=>rw [e] at q; exact q.elim
  | some l=>
   rw [e] at q
   cases l with
   | nil=>exact q.elim
   | cons m ns=>
    apply bc;intro z_
    obtain ⟨xs,rfl,e2⟩:=l9 e hs
    apply z_;clear z_
    refine max_intList ha.handled (hl.ints ho) (by cases xs with | nil=>cases e2 | cons=>exact Nat.succ_pos _) fun v h' tk hv hk=>?_
    apply bc;intro z_
    obtain ⟨t,rfl⟩:=intItems_at hv
    apply z_;clear z_
    rw [DZ e2]
    exact Post.ret q (R.keeps (s':={s with heap:=h',toks:=tk}) hk rfl rfl R.gens) (.int _ _)
 cases vs with
 | nil=>exact hd.elim
 | cons v r=>cases r with
  | nil=>exact bO hd
  | cons w r=>cases r with
   | cons=>exact hd.elim
   | nil=>
    apply bc;intro z_
    obtain ⟨val,val',rfl,Wv,Ww⟩:=W.two
    apply z_;clear z_
    refine Wv.int_ hd fun i t hd=>Ww.int_ hd fun j u hd=>?_
    refine max_two_ints ha.handled fun h' tk hk=>?_
    have R':=R.keeps (s':={s with heap:=h',toks:=tk}) hk rfl rfl R.gens
    by_cases q:i<j
    ·rw [QI q]; rw [QS q] at hd; exact Post.ret hd R' (.int _ _)
    ·rw [QH q]; rw [QR q] at hd; exact Post.ret hd R' (.int _ _)
theorem Dp (ok:G.Ok):CB G lv (.type "set") [] (fun vs _ σ Q=>match vs with | []=>g7 (.set []) σ Q | _::_=>False):=CB.of (fun a w=>by cases w) fun vs σ Q hd A env X s vals ha R W=>by
 cases vs with
 | cons=>exact hd.elim
 | nil=>
  cases W
  refine call_set_0 fun led=>?_
  apply bc;intro z_
  obtain ⟨R',L⟩:=R.anew (o:=.set []) (s':={s with heap:=s.heap.push {cls:=.type "set",dict:=none,data:=.set #[] 0 (.fresh 0 0 led)}}) aH (R.size ok) (fun _ _ e=>QB _ e)
   (fun X' L=>⟨fun _=>false,(setObjOf_fresh led).setOf (QG _ rfl) (by decide),fun x=>by simp⟩) rfl rfl R.gens
  apply z_;clear z_
  refine ⟨_,_,_,hd,L,Q0 _,R',?_⟩
  have:=RepV.loc (X:={X with ρ:=fun l=>if l=σ.nx then s.heap.objs.size else X.ρ l}) (n:=σ.nx+1) σ.nx (QK _)
  dsimp only at this
  rw [QI rfl] at this
  exact this
noncomputable def iJ (a c:Int) (n:Nat) (i:Nat) (σ:St):Option (Option V):=match Nat.ble n i with
 | true=>some none
 | false=>some (some (.int (a+i*c)))
noncomputable def tV (a b c:Int) (σ:St) (K:(Nat→St→Option (Option V))→St→Prop):Prop:=onT (Builtin.Range.small a b c) (K (iJ a c (Builtin.Range.rangeSize a b c).toNat) σ)
noncomputable def J3 (vs:List V) (σ:St) (K:(Nat→St→Option (Option V))→St→Prop):Prop:=match vs with
 | [b]=>aZ b fun b=>tV 0 b 1 σ K
 | [a,b]=>aZ a fun a=>aZ b fun b=>tV a b 1 σ K
 | vs=>G0 vs fun a b c=>aZ a fun a=>aZ b fun b=>aZ c fun c=>onT (bg c) (posI c fun m=>tV a b (.ofNat (m+1)) σ K)
noncomputable def Ap (v:V) (i:Nat) (σ:St):Option (Option V):=(dD v i σ).map (Option.map fun x=>.tup [.int i,x])
noncomputable def LK (vs:List V) (σ:St) (K:(Nat→St→Option (Option V))→St→Prop):Prop:=nV vs fun v=>bu v σ fun _=>K (Ap v) σ
noncomputable def CI (G:Glob) (lv:Nat) (tg:Bool) (f:Value) (D:List V→DI):Prop:=∀ vs σ K,D vs σ K→∀ A env X s vals,AOk lv A→Rel G X env σ s→RepVs X σ.nx vs vals →
 wpAny (model G.prog G.w) A (call f vals) (Itd G lv tg A env X σ.nx K) bh s
theorem Af {x:Str} {i:Nat} {np p:Pos} {args:List PySem.Expr} {f:Value} {D:List V→DI} {da:DA} (ok:G.Ok) (hx:sc.names[i]?=some (x,.globalImplicit)) (hg:nsIn G.K mainGlobals x=some none) (hn:x≠"__name__") (hb:bootBuiltins x=some f)
  (hdb:(x==("__debug__":Str))=false) (hf:∀ a,f≠.ref a) (hc:CI G lv tg f D) (ha:SA G lv sc args da)
  (h1:∀ env pos,(backTo pos (starEach args env)).any (·.1)=false) :
  SI G lv sc tg (.Call (.Name x np) args [] p) (fun σ K=>da σ fun vs σ1=>D vs σ1 K):=fun σ K hd A env X s hA he R=>by
 refine wpAny_Call_ofName (wpAny_Name (eo ok he R hx hg hn hb ?_) hdb)
 refine b9 (h1 env _) (by rfl) ?_
 refine Qv (ha σ _ hd A env X s p hA he R) (fun vals s1 ⟨vs,σ1,X1,q1,L1,n1,R1,W1⟩=>Qu ⟨fun Q' k=>?_,?_⟩) fun _ _ z=>z
 ·cases f <;> first | exact absurd rfl (hf _) | exact Qu (k _ (by decide))
 ·rw [List.nil_append]
  exact Qv (hc vs σ1 K q1 A env X1 s1 vals hA R1 W1) (fun _ _ z=>Itd.lift L1 n1 z) fun _ _ z=>z
theorem wN {h:Heap} {it:Addr} {x l c:Int} (y:IsRangeIter h it x l c):∃ o,h.get? it=some o∧jP o∧o.cls=.type "range_iterator":=⟨_,y,⟨rfl,_,rfl⟩,rfl⟩
theorem Itr.range {a c:Int} {k:Nat} {it:Addr} (ok:G.Ok) (hit:X0.F it=none) (hb:G.hb.get? it=none) :
  Itr G lv tg (.ref it) [it] X0 n0 (iJ a c k) (fun i h=>IsRangeIter h it (a+(i:Nat)*c) ((k:Int) - (i:Nat)) c) where
 fresh:=nq hit
 hbS:=nq hb
 step:=fun A env i X σ s r ha L hn R hf hi hc=>by
  unfold iJ at hc
  cases q:Nat.ble k i with
  | true=>
   rw [q] at hc
   cases hc
   have:=QD q
   exact wpAny_pyNext_range_end ha.handled hi (by omega) fun h' he=>iX (tk:=s.toks) ok R hf hb fun b q o e=>he b o q e
  | false=>
   rw [q] at hc
   cases hc
   have:¬ k≤i:=fun h=>by rw [QQ h] at q; cases q
   refine wpAny_pyNext_range_item hi (by omega) fun h' hi' hs'=>?_
   have e1:a+((i+1:Nat):Int)*c=a+(i:Int)*c+c:=by rw [Int.natCast_succ,Int.add_mul,Int.one_mul,Int.add_assoc]
   have e2:(k:Int) - ((i+1:Nat):Int)=(k:Int) - (i:Int) - 1:=by rw [Int.natCast_succ,Int.sub_sub]
   exact gH (I:=fun i h=>IsRangeIter h it (a+(i:Nat)*c) ((k:Int) - (i:Nat)) c) (tk:=s.toks+1) ok R hf hb (fun b q o e=>(hs'.2 b q).trans e) (wN hi') rfl (.int _ _) (by
    show IsRangeIter h' it (a+((i+1:Nat):Int)*c) ((k:Int) - ((i+1:Nat):Int)) c
    rw [e1,e2]; exact hi')
 stable:=fun i X h h' L hX hf hi hk=>by
  apply bc;intro z_
  obtain ⟨o',e',_⟩:=hf it (List.mem_singleton_self _)
  apply z_;clear z_
  have:=hX _ _ e'
  rw [hi] at this; cases this
  exact hk _ _ e'
 self:=fun A i s Q ha hi q=>wpAny_pyIter_rangeiter hi q
theorem BV {a b:Int} {m:Nat}:((Builtin.Range.rangeSize a b (.ofNat (m+1))).toNat:Int)=Builtin.Range.rangeSize a b (.ofNat (m+1)):=by
 refine Int.toNat_of_nonneg ?_
 unfold Builtin.Range.rangeSize
 rw [QI (by exact Int.ofNat_lt.mpr (Nat.succ_pos m))]
 split
 ·exact Int.add_nonneg (Int.ediv_nonneg (by omega) (Int.natCast_nonneg _)) (by decide)
 ·exact Int.le_refl _
theorem re {a b:Int} {m:Nat} {t u v:Tok} {r:Addr} {K:(Nat→St→Option (Option V))→St→Prop} (ok:G.Ok) (h:tV a b (.ofNat (m+1)) σ K) (R:Rel G X env σ s) (hr:IsRange s.heap r a b (.ofNat (m+1)) t u v) (ha:AOk lv A):Itd G lv tg A env X σ.nx K (.ref r) s:=by
 obtain ⟨q,h⟩:=onT.out h
 refine wpAny_pyIter_range hr q (Itd.new (t:=s.toks) (I:=fun it i h=>IsRangeIter h it (a+(i:Nat)*.ofNat (m+1)) (((Builtin.Range.rangeSize a b (.ofNat (m+1))).toNat:Int) - (i:Nat)) (.ofNat (m+1)))
  (o:={cls:=.type "range_iterator",data:=.fields #[rawInt a,rawInt (Builtin.Range.rangeSize a b (.ofNat (m+1))),rawInt (.ofNat (m+1))]}) ok R ⟨rfl,_,rfl⟩ rfl h (fun e=>?_) fun it h2 h3=>Itr.range ok h2 h3)
 show IsRangeIter _ _ (a+((0:Nat):Int)*.ofNat (m+1)) (((Builtin.Range.rangeSize a b (.ofNat (m+1))).toNat:Int) - ((0:Nat):Int)) _
 rw [Int.natCast_zero,Int.zero_mul,Int.add_zero,Int.sub_zero,BV]
 exact e
theorem eO (ok:G.Ok):CI G lv tg (.type "range") J3:=fun vs σ K hd A env X s vals ha R W=>by
 have three:G0 vs (fun a b c=>aZ a fun a=>aZ b fun b=>aZ c fun c=>onT (bg c) (posI c fun m=>tV a b (.ofNat (m+1)) σ K))→wpAny (model G.prog G.w) A (call (.type "range") vals) (Itd G lv tg A env X σ.nx K) bh s:=fun hd=>by
  refine W.on3_ hd fun u v w _ _ _ Wa Wb Wc hd=>Wa.int_ hd fun a t hd=>Wb.int_ hd fun b t hd=>Wc.int_ hd fun c t hd=>?_
  apply bc;intro z_
  obtain ⟨q,hd⟩:=onT.out hd
  obtain ⟨m,rfl,hd⟩:=posI.out hd
  apply z_;clear z_
  exact call_range_3 (by intro e; cases e) (re ok hd (R.push _ _) (IsRange.new ..) ha) (.inl (PyProof.noPylong_small (fF q)))
 cases vs with
 | nil=>exact hd.elim
 | cons v r=>cases r with
  | nil=>
   apply bc;intro z_
   obtain ⟨val,rfl,Wv⟩:=W.one
   apply z_;clear z_
   exact Wv.int_ hd fun b t hd=>call_range_1 (re (m:=0) ok hd (R.push _ _) (IsRange.new ..) ha)
  | cons w r=>cases r with
   | nil=>
    apply bc;intro z_
    obtain ⟨val,val',rfl,Wv,Ww⟩:=W.two
    apply z_;clear z_
    exact Wv.int_ hd fun a t hd=>Ww.int_ hd fun b u hd=>call_range_2 (re (m:=0) ok hd (R.push _ _) (IsRange.new ..) ha)
   | cons=>exact three hd
theorem vM {v:V} {i:Nat} {r:Option V} (h:Ap v i σ=some r):∃ r',dD v i σ=some r'∧r'.map (fun x=>V.tup [.int i,x])=r:=Option.map_eq_some_iff.mp h
theorem rr {e it:Addr} {P:Addr→Prop} (h1:P e) (h2:P it):∀ b∈[e,it],P b:=List.forall_mem_cons.mpr ⟨h1,List.forall_mem_singleton.mpr h2⟩
theorem nK {b e it:Addr} (q:b ∉ [e,it]):b≠e∧b≠it:=⟨fun w=>q (w ▸ QL ..),fun w=>q (w ▸ QE _ (List.mem_singleton_self _))⟩
theorem tu {t:PySem.Expr} (h:fK t=true):∃ a b c,t=.Tuple a b c:=by cases t <;> first | exact nB h | exact ⟨_,_,_,rfl⟩
theorem Itr.enum {v:V} {e it a:Addr} (ok:G.Ok) (hv:jF v=true) (W:RepV X0 n0 v (.ref a)) (hei:e≠it) (h1:X0.F e=none) (h2:X0.F it=none) (h3:G.hb.get? e=none) (h4:G.hb.get? it=none) :
  Itr G lv true (.ref e) [e,it] X0 n0 (Ap v) (fun i h=>(∃ old,IsEnum h e it i old)∧h.IsListIter it a i) where
 fresh:=rr h1 h2
 hbS:=rr h3 h4
 step:=fun A env i X σ s r ha L hn R hf hi hc=>by
  apply bc;intro z_
  obtain ⟨r',hc',hr⟩:=vM hc
  obtain ⟨⟨old,he⟩,hi⟩:=hi
  obtain ⟨a',o,items,vs,e',ho,hl,hs,rfl⟩:=br R (W.mono L hn) (fB hv hc')
  apply z_;clear z_
  cases e'
  cases q:vs[i]? with
  | none=>
   rw [q] at hr
   subst hr
   refine wpAny_pyNext_enum_end ha.handled he hi (hl.isList ho) (iO hs q) fun h' hk=>?_
   apply bc;intro z_
   obtain ⟨X',R',w⟩:=R.letgo (s':={s with heap:=h'}) ok hf (rr h3 h4) (fun b q o e=>hk b o (nK q).2 e) rfl rfl R.gens
   apply z_;clear z_
   exact ⟨rfl,X',R',w⟩
  | some x=>
   rw [q] at hr
   subst hr
   apply bc;intro z_
   obtain ⟨val,hx,Wv⟩:=hs.get q
   apply z_;clear z_
   refine wpAny_pyNext_enum_item he hi (hl.isList ho) (x:=val) (by rw [Rf]; exact hx) hei fun h' hE hi' hT hsz hk=>?_
   refine ⟨_,rfl,fun target Q htg k=>?_⟩
   have htg:=htg rfl
   apply bc;intro z_
   obtain ⟨elts,c,pos,rfl⟩:=tu htg
   apply z_;clear z_
   refine wpAny_letOwnedTupleGo_enum hE fun h2 g1 hs2=>?_
   have g2:h2.IsListIter it a (i+1):=by obtain ⟨o,x,y⟩:=hi'; exact ⟨o,(hs2.2 _ (Ne.symm hei)).trans x,y⟩
   have hel:e<s.heap.objs.size:=QO he
   have g4:h2.get? s.heap.objs.size=some {cls:=.type "tuple",data:=.seq #[.int i s.toks,val]}:=(hs2.2 _ (Q7 hel)).trans hT
   have g3:∀ b,b≠e→b≠it→∀ o,s.heap.get? b=some o→h2.get? b=some o:=fun b q1 q2 o e=>(hs2.2 b q1).trans (hk b o q1 q2 e)
   apply bc;intro z_
   obtain ⟨ot,i1,i2,i3⟩:=bT g2
   have hex:jP (⟨.type "enumerate",none,.fields #[.none,.bool false,.ref it,rawInt ((i:Int)+1),.none,val],#[]⟩:Obj):=⟨rfl,_,rfl⟩
   obtain ⟨R0,L0⟩:=R.still (s':={s with heap:=s.heap.push {cls:=.type "tuple",data:=.seq #[.int i s.toks,val]},toks:=s.toks+1}) aH (fun _ _ e=>QB _ e) (QG _ rfl) rfl rfl R.gens ok
   obtain ⟨X1,R1,w1,f1,eq1⟩:=R0.sw (s':={s with heap:=h2,toks:=s.toks+1}) ok (hf.up L0) (rr h3 h4)
    (fun b q o e=>by
     by_cases z:b=s.heap.objs.size
     ·subst z
      rw [QG _ rfl] at e
      cases e; exact g4
     ·have e':s.heap.get? b=some o:=by rwa [Q1 _ _ _ z] at e
      exact g3 b (nK q).1 (nK q).2 o e') (rr ⟨_,g1,hex⟩ ⟨ot,i1,i2⟩) rfl rfl R0.gens
   apply z_;clear z_
   refine k _ X1 R1 ⟨fun l hl=>(w1.ρ l hl).trans (L0.ρ l hl),fun b o q e=>w1.F b o q (L0.F _ _ e),fun b o q e=>(w1.P b o q (L0.F _ _ e)).trans (L0.P _ _ e)⟩ f1 ?_ ⟨⟨_,g1⟩,g2⟩
   refine RepV.sw (hf.up L0) w1 ?_
   exact .tup [.int i,x] [.int i s.toks,val] s.heap.objs.size _ (QI rfl) ⟨rfl,rfl,⟨0,rfl⟩,rfl⟩ (.cons (.int _ _) (.cons (Wv.mono L0 (QF _)) .nil))
 stable:=fun i X h h' L hX hf hi hk=>by
  apply bc;intro z_
  obtain ⟨⟨old,he⟩,o,ho,r⟩:=hi
  obtain ⟨o',e',_⟩:=hf it (QE _ (List.mem_singleton_self _))
  obtain ⟨o2,e2,_⟩:=hf e (QL ..)
  apply z_;clear z_
  have:=hX _ _ e'
  rw [ho] at this; cases this
  have:=hX _ _ e2
  rw [he] at this; cases this
  exact ⟨⟨old,hk _ _ e2⟩,o,hk _ _ e',r⟩
 self:=fun A i s Q ha hi q=>by obtain ⟨⟨old,he⟩,_⟩:=hi; exact wpAny_pyIter_enum he q
theorem pP (ok:G.Ok):CI G lv true (.type "enumerate") LK:=fun vs σ K hd A env X s vals ha R W=>by
 refine W.on1_ hd fun v val Wv hd=>?_
 apply bc;intro z_
 obtain ⟨a,o,items,ws,rfl,ho,hl,hs,q⟩:=br R Wv hd
 apply z_;clear z_
 have hv:jF v=true:=by cases v <;> first | exact hd.elim | rfl
 refine call_enumerate_list (hl.isList ho) fun h' hE hI hsz hk=>?_
 refine wpAny_pyIter_enum hE ?_
 apply bc;intro z_
 obtain ⟨ot,i1,i2,i3⟩:=bT hI
 have hex:jP (⟨.type "enumerate",none,.fields #[.none,.bool false,.ref s.heap.objs.size,rawInt 0,.none,.none],#[]⟩:Obj):=⟨rfl,_,rfl⟩
 have n0:s.heap.get? (s.heap.objs.size+1)=none:=by
  cases z:s.heap.get? (s.heap.objs.size+1) with
  | none=>rfl
  | some o=>exact absurd (QO z) (QT (Q0 _))
 have hfo:ot.isFreed=false:=(Heap.get?_some_iff.mp i1).2
 obtain ⟨R1,L1⟩:=R.still (s':={s with heap:=s.heap.push ot}) aH (fun _ _ e=>QB _ e) (QG _ hfo) rfl rfl R.gens ok
 have hz1:(s.heap.push ot).objs.size=s.heap.objs.size+1:=Heap.size_push ..
 have g1:(s.heap.push ot).get? (s.heap.objs.size+1)=none:=by rw [← hz1]; exact aH
 obtain ⟨R2,L2⟩:=R1.still (s':={s with heap:=h'}) (a:=s.heap.objs.size+1) g1 (fun b o e=>by
  by_cases z:b=s.heap.objs.size
  ·subst z
   rw [QG _ hfo] at e; cases e; exact i1
  ·rw [Q1 _ _ _ z] at e; exact hk _ _ e) hE rfl rfl R1.gens ok
 apply z_;clear z_
 refine ⟨Ap v,σ,X,_,[s.heap.objs.size+1,s.heap.objs.size],fun i h=>(∃ old,IsEnum h (s.heap.objs.size+1) s.heap.objs.size i old)∧h.IsListIter s.heap.objs.size a i,q,.refl,L1.trans L2 (QF _),QF _,R2,?_,⟨⟨_,hE⟩,hI⟩,?_⟩
 ·refine rr ⟨_,QI rfl,hex⟩ ⟨ot,?_,i2⟩
  show (if s.heap.objs.size=s.heap.objs.size+1 then _ else (if s.heap.objs.size=s.heap.objs.size then some ot else _))=some ot
  rw [QH (Q8 (QK _)),QI rfl]
 ·exact Itr.enum ok hv Wv (Q7 (QK _)) (R.newAt n0).1 (R.newAt aH).1 (R.newAt n0).2 (R.newAt aH).2
noncomputable def Os {α:Type} (xs:List α) (i:Int):Option α:=match i with
 | .ofNat k=>gh xs k
 | .negSucc k=>match Nat.ble (k+1) xs.length with
  | true=>gh xs (Nat.sub xs.length (k+1))
  | false=>none
inductive AtSeq {α:Type} (xs:List α) (i:Int) (x:α):Prop
 | mk (k:Nat) (h1:seqIndex? i xs.length=some k) (h2:xs[k]?=some x) (h3:0≤i→i.toNat=k) (h4:i<0 → -(xs.length:Int)≤i∧(i+xs.length).toNat=k)
theorem mN {α:Type} {xs:List α} {i:Int} {x:α} (h:Os xs i=some x):AtSeq xs i x:=by
 cases i with
 | ofNat k=>
  have h:gh xs k=some x:=h
  rw [dR] at h
  have hk:k<xs.length:=(List.getElem?_eq_some_iff.mp h).1
  have h1:¬ (Int.ofNat k<0):=Int.not_lt.mpr (Int.natCast_nonneg k)
  refine ⟨k,?_,h,fun _=>rfl,fun z=>absurd z h1⟩
  unfold seqIndex?
  have h2:(decide (0≤Int.ofNat k) && decide (Int.ofNat k<(xs.length:Int)))=true:=by rw [Bool.and_eq_true]; exact ⟨QS (Int.natCast_nonneg k),QS (Int.ofNat_lt.mpr hk)⟩
  simp only [h1,if_false,h2,if_true]
  rfl
 | negSucc k=>
  have h:(match Nat.ble (k+1) xs.length with | true=>gh xs (Nat.sub xs.length (k+1)) | false=>none)=some x:=h
  cases q:Nat.ble (k+1) xs.length with
  | false=>rw [q] at h; first | exact nS h | exact nB h | cases h
  | true=>
   rw [q] at h
   have hk:=QD q
   have h:gh xs (xs.length - (k+1))=some x:=h
   rw [dR] at h
   have e:Int.negSucc k+(xs.length:Int)=((xs.length - (k+1):Nat):Int):=by rw [Int.negSucc_eq]; omega
   refine ⟨xs.length - (k+1),?_,h,fun z=>absurd (Int.negSucc_lt_zero k) (Int.not_lt.mpr z),fun _=>⟨Int.neg_le_neg (Int.ofNat_le.mpr hk),by rw [e]; rfl⟩⟩
   unfold seqIndex?
   have h2:(decide (0≤((xs.length - (k+1):Nat):Int)) && decide (((xs.length - (k+1):Nat):Int)<(xs.length:Int)))=true:=by
    rw [QS (Int.natCast_nonneg _),QS (Int.ofNat_lt.mpr (Nat.sub_lt (QZ (Nat.succ_pos k) hk) (Nat.succ_pos k)))]; rfl
   simp only [Int.negSucc_lt_zero k,if_true,e,h2]
   rfl
noncomputable def jH (k:List Nat):List (List Nat×V)→Option V
 | []=>none
 | (x,v)::r=>match ly x k with
  | true=>some v
  | false=>jH k r
noncomputable def sF (o:Option V) (σ:St) (Q:V→St→Prop):Prop:=onS o fun v=>Q v σ
noncomputable def AM (xs:List V) (i:V) (σ:St) (Q:V→St→Prop):Prop:=aZ i fun k=>onT (bg k) (sF (Os xs k) σ Q)
noncomputable def NE (o:Option AO) (i:V) (σ:St) (Q:V→St→Prop):Prop:=match o with
 | some (.list xs)=>AM xs i σ Q
 | some (.dict kvs)=>bv i fun x=>sF (jH x kvs) σ Q
 | _=>False
noncomputable def Kb (v i:V) (σ:St) (Q:V→St→Prop):Prop:=match v with
 | .str s=>aZ i fun k=>onT (bg k) (onS (Os s k) fun c=>Q (.str [c]) σ)
 | .tup xs=>AM xs i σ Q
 | .fro xs=>AM xs i σ Q
 | .loc l=>NE (aj l σ.st) i σ Q
 | _=>False
noncomputable def vE (i:Int) (n:Nat):Nat:=match i with
 | .ofNat k=>match Nat.ble k n with | true=>k | false=>n
 | .negSucc k=>Nat.sub n (k+1)
noncomputable def tB (o:Option Int) (n:Nat):Nat:=match o with | some i=>vE i n | none=>0
noncomputable def wz (o:Option Int) (n:Nat):Nat:=match o with | some i=>vE i n | none=>n
noncomputable def nR {α:Type} (lo hi:Option Int) (xs:List α):List α:=(xs.drop (tB lo xs.length)).take (Nat.sub (wz hi xs.length) (tB lo xs.length))
theorem rL (i:Int) (n:Nat):max 0 (min (if i<0 then i+n else i) (n:Int))=(vE i n:Int):=by
 cases i with
 | ofNat k=>
  have h0:¬ Int.ofNat k<0:=Int.not_lt.mpr (Int.natCast_nonneg k)
  rw [QH h0]
  refine (Int.max_eq_right (Int.le_min.mpr ⟨Int.natCast_nonneg k,Int.natCast_nonneg n⟩)).trans ?_
  show min (k:Int) (n:Int)=((match Nat.ble k n with | true=>k | false=>n:Nat):Int)
  cases q:Nat.ble k n with
  | true=>exact Int.min_eq_left (Int.ofNat_le.mpr (QD q))
  | false=>exact Int.min_eq_right (Int.ofNat_le.mpr (Nat.le_of_not_le fun h=>by rw [QQ h] at q; cases q))
 | negSucc k=>
  have e:Int.negSucc k+(n:Int)=(n:Int) - ((k+1:Nat):Int):=Int.subNatNat_eq_coe
  rw [QI (Int.negSucc_lt_zero k),e,Int.min_eq_left (Int.sub_le_self _ (Int.natCast_nonneg _)),Int.max_comm,← Int.ofNat_toNat,Int.toNat_sub]
  rfl
theorem jc (lo hi:Option Int) (n:Nat):sliceBounds lo hi none n=((tB lo n:Int),(wz hi n:Int),1):=by
 unfold sliceBounds
 simp only [Option.getD_none,show (1:Int) > 0 by decide,if_true]
 cases lo <;> cases hi <;> simp only [tB,wz,rL] <;> rfl
theorem uc (lo hi:Option Int) (n:Nat):Builtin.Str.strSliceIndices lo hi 1 n=(List.range (wz hi n - tB lo n)).map (tB lo n+·):=by
 have e:Builtin.Str.strSliceIndices lo hi 1 n=sliceRange (tB lo n:Int) (wz hi n:Int) 1:=by
  unfold Builtin.Str.strSliceIndices
  simp only [show (1:Int) > 0 by decide,if_true]
  cases lo <;> cases hi <;> simp only [tB,wz,rL] <;> rfl
 rw [e,sliceRange_one]
theorem Fj (o:Option Int) (n:Nat):wz o n≤n:=by
 cases o with
 | none=>exact QF _
 | some i=>
  cases i with
  | ofNat k=>
   show (match Nat.ble k n with | true=>k | false=>n)≤n
   cases q:Nat.ble k n with
   | true=>exact QD q
   | false=>exact QF _
  | negSucc k=>exact Nat.sub_le ..
theorem lK (items:List Value) (lo hi:Option Int):slicePick items.toArray lo hi none=(nR lo hi items).toArray:=by
 unfold slicePick nR
 rw [jc]
 simp only [sliceRange_one,pick_run,QJ]
 rfl
noncomputable def kW (v:V):Option (Option Int):=match v with
 | .non=>some none
 | .int i=>some (some i)
 | _=>none
noncomputable def LE (v:V) (lo hi:Option Int) (σ:St) (Q:V→St→Prop):Prop:=match v with
 | .str s=>fits s.length (Q (.str (nR lo hi s)) σ)
 | .byt s=>onT (Nat.blt (nR lo hi s).length s.length) (fits s.length (Q (.byt (nR lo hi s)) σ))
 | v=>bu v σ fun xs=>fits xs.length (Q (.fro (nR lo hi xs)) σ)
noncomputable def J6 (v a b:V) (σ:St) (Q:V→St→Prop):Prop:=onS (kW a) fun lo=>onS (kW b) fun hi=>LE v lo hi σ Q
set_option tactic.hygienic true in
theorem pI {T id:String} {value slice:PySem.Expr} {o i:Value} {Q:Value→Shared→Prop} (hT:s.TypeIs o T) (hl:typeLookup (.type T) "__getitem__"=pure (some (.builtin id))) (h:wpAny (model G.prog G.w) A (getItem o i) Q bh s) :
  wpAny (model G.prog G.w) A (do let r ← subscripted slice (← getitemInPython o) o i; letTemporaryGo value o r; pure r) Q bh s:=by
 have key:wpAny (model G.prog G.w) A (subscripted slice false o i) Q bh s:=by
  unfold subscripted
  split <;> first | exact wpAny_operating h | skip
  rename_i e; cases e
 refine Qt ?_
 rw [getitemInPython_of_ne hT.not_modules]
 refine Qt (wpAny_specialOf hT hl (Qu (Qt ?_)))
 exact Qv key (fun r s1 q=>Qt (wpAny_letTemporaryGo (Qu q))) fun _ _ z=>z
theorem gG {o:Option V} {Q:V→St→Prop} (h:sF o σ Q):Got o (fun v=>Q v σ):=onS.out h
theorem mf {k:List Nat} {kvs:List (List Nat×V)}:∀ {kvals:List (Str×Value)} {v:V},PairsAre X n kvs kvals→jH k kvs=some v→∃ val,valueAt kvals ⟨k.toArray⟩=some val∧RepV X n v val:=by
 induction kvs with
 | nil=>intro kvals v h e; cases e
 | cons p r ih=>
  apply bc;intro z_
  obtain ⟨x,v⟩:=p
  apply z_;clear z_
  intro kvals w h e
  cases kvals with
  | nil=>exact h.elim
  | cons p' r'=>
   apply bc;intro z_
   obtain ⟨y,val⟩:=p'
   obtain ⟨rfl,hv,hr⟩:=h
   apply z_;clear z_
   have e:(match ly x k with | true=>some v | false=>jH k r)=some w:=e
   rw [dZ] at e
   by_cases q:x=k
   ·subst q
    rw [QS rfl] at e
    cases e
    exact ⟨val,by simp [valueAt,List.find?_cons],hv⟩
   ·rw [QR q] at e
    apply bc;intro z_
    obtain ⟨val',h1,h2⟩:=ih hr e
    apply z_;clear z_
    have:¬ ((⟨x.toArray⟩:Str)=⟨k.toArray⟩):=fun w=>q (by simpa using w)
    refine ⟨val',?_,h2⟩
    unfold valueAt at h1 ⊢
    rw [List.find?_cons_of_neg (by simpa using this)]; exact h1
inductive SubAt (G:Glob) (A:Around) (s:Shared) (vv vi:Value) (Q:Value→Shared→Prop):Prop
 | mk (T id:String) (t:s.TypeIs vv T) (l:typeLookup (.type T) "__getitem__"=pure (some (.builtin id))) (h:wpAny (model G.prog G.w) A (getItem vv vi) Q bh s)
theorem oX {l:Addr} {o:Obj} {xs:List V} {items:List Value} {i:V} {vi:Value} {Q:V→St→Prop} (ho:s.heap.get? l=some o) (hl:LObj "list" o items) (hs:RepVs X σ.nx xs items) (R:Rel G X env σ s) (Wi:RepV X σ.nx i vi)
  (h:AM xs i σ Q):SubAt G A s (.ref l) vi (Post G X env σ.nx Q):=by
 refine ⟨"list",_,⟨o,ho,hl.1⟩,slot_list_getitem.lookup,Wi.int_ h fun k t h=>?_⟩
 apply bc;intro z_
 obtain ⟨q,h⟩:=onT.out h
 obtain ⟨v,e,hq⟩:=gG h
 obtain ⟨j,e1,e2,e3,e4⟩:=mN e
 obtain ⟨val,hx,W⟩:=hs.get e2
 apply z_;clear z_
 have ⟨b1,b2⟩:=ew q
 have hfin:=Post.ret hq R W
 by_cases h0:0≤k
 ·exact wpAny_getItem_list (hl.isList ho) h0 (by omega) (x:=val) (by rw [e3 h0,Rf]; exact hx) hfin
 ·apply bc;intro z_
  obtain ⟨g1,g2⟩:=e4 (Int.not_le.mp h0)
  apply z_;clear z_
  refine wpAny_getItem_list_neg (hl.isList ho) (by omega) (by rw [QJ,hs.length]; exact g1) (by omega) (x:=val) ?_ hfin
  rw [QJ,hs.length,g2,Rf]; exact hx
theorem Kc {v i:V} {vv vi:Value} {Q:V→St→Prop} (ok:G.Ok) (h:Kb v i σ Q) (R:Rel G X env σ s) (W:RepV X σ.nx v vv) (Wi:RepV X σ.nx i vi):SubAt G A s vv vi (Post G X env σ.nx Q):=by
 cases v with
 | str x=>
  apply bc;intro z_
  obtain ⟨t,rfl⟩:=W.inv
  apply z_;clear z_
  refine ⟨"str",_,typeIs_str _ _ _,F.slot_str_getitem.lookup,Wi.int_ h fun k u h=>?_⟩
  apply bc;intro z_
  obtain ⟨q,h⟩:=onT.out h
  obtain ⟨c,q2,h⟩:=onS.out h
  obtain ⟨j,e1,e2,e3,e4⟩:=mN q2
  apply z_;clear z_
  have ⟨b1,b2⟩:=ew q
  refine PyProof.Rows.getItem_str ?_ (c:=c) ?_ (Post.ret h (R.toks _) (.str [c] _))
  ·rw [Bool.or_eq_false_iff,decide_eq_false_iff_not,decide_eq_false_iff_not]; omega
  ·rw [bl,e1]; simpa using e2
 | loc l=>
  cases (W.inv:vv=.ref (X.ρ l))
  have h:NE (aj l σ.st) i σ Q:=h
  cases q:aj l σ.st with
  | none=>rw [q] at h; exact h.elim
  | some ao=>
   rw [q] at h
   cases ao with
   | list xs=>
    apply bc;intro z_
    obtain ⟨_,o,vals,h1,h2,h3⟩:=R.st l _ q
    apply z_;clear z_
    exact oX h1 h2 h3 R Wi h
   | dict kvs=>
    apply bc;intro z_
    obtain ⟨_,kvals,h1,h2⟩:=R.st l _ q
    apply z_;clear z_
    refine ⟨"dict",_,h1.typeIs,slot_dict_getitem.lookup,Wi.str_ h fun x t h=>?_⟩
    apply bc;intro z_
    obtain ⟨v,e,hq⟩:=gG h
    obtain ⟨val,e1,Wv⟩:=mf h2 e
    apply z_;clear z_
    exact wpAny_getItem_of (strKind_is _ _ _ _) h1.mapOf e1 (Post.ret hq (R.toks _) Wv)
   | _=>exact h.elim
 | tup xs=>
  cases W.tupI with
  | mk items a o ho hl hs=>
  apply bc;intro z_
  obtain ⟨c,d,dt,sl⟩:=o
  obtain ⟨h1,h2,⟨ep,h3⟩,h4⟩:=hl
  apply z_;clear z_
  dsimp only at h1 h2 h3 h4
  subst h1 h2 h3 h4
  have ho':=R.sub _ _ ho
  refine ⟨"tuple",_,⟨_,ho',rfl⟩,F.slot_tuple_getitem.lookup,Wi.int_ h fun k u h=>?_⟩
  apply bc;intro z_
  obtain ⟨q,h⟩:=onT.out h
  obtain ⟨v,e,hq⟩:=gG h
  obtain ⟨j,e1,e2,e3,e4⟩:=mN e
  obtain ⟨val,hx,W⟩:=hs.get e2
  apply z_;clear z_
  have ⟨b1,b2⟩:=ew q
  exact PySem.P.getItem_tuple ho' (by omega) (by omega) (by rw [QJ,hs.length]; exact e1) (by rw [Rf]; exact hx) (Post.ret hq R W)
 | fro xs=>
  cases W.froI with
  | mk items a o ho hl hs=>exact oX (R.sub _ _ ho) hl hs R Wi h
 | _=>exact h.elim
noncomputable def z7 (d di:DE):DE:=fun σ Q=>d σ fun v σ1=>di σ1 fun x σ2=>Kb v x σ2 Q
theorem a9 {e i:PySem.Expr} {d di:DE} {p:Pos} (ok:G.Ok) (he':SE G lv sc e d) (hi:SE G lv sc i di):SE G lv sc (.Subscript e i p) (z7 d di):=fun σ Q hd A env X s ha he R=>by
 rw [eval_Subscript]
 refine Qt (he'.run hd ha he R fun vv s1 v σ1 X1 k1 L1 n1 R1 W1=>?_)
 refine Qt (Qw (hi.run k1 ha he R1 fun vi s2 x σ2 X2 k2 L2 n2 R2 W2=>?_))
 refine Qt (Qx ?_)
 obtain ⟨T,id,hT,hl,h⟩:=Kc (A:=A) ok k2 R2 (W1.mono L2 n2) W2
 exact pI hT hl (Qv h (fun _ _ z=>Post.lift (L1.trans L2 n1) (QC n1 n2) z) fun _ _ z=>z)
noncomputable def SO (G:Glob) (lv:Nat) (sc:Sc) (e:Option PySem.Expr) (d:DE):Prop:=∀ σ Q,d σ Q→∀ A env X s,AOk lv A→EOk sc env→Rel G X env σ s →
 wpAny (model G.prog G.w) A (evalPart e env) (Post G X env σ.nx Q) bh s
theorem ez:SO G lv sc none (fun σ Q=>Q .non σ):=fun σ Q hd A env X s ha he R=>Qu (Post.ret hd R .non)
theorem dL {e:PySem.Expr} {d:DE} (h:SE G lv sc e d):SO G lv sc (some e) d:=h
inductive PartIs (val:Value) (o:Option Int):Prop
 | mk (h:IsPart val o) (p:Option (Int×Tok)) (e:val=partValue p) (e':p.map (·.1)=o)
theorem kX {v:V} {val:Value} {o:Option Int} (h:kW v=some o) (W:RepV X n v val):PartIs val o:=by
 cases v with
 | non=>cases h; cases (W.inv:val=.none); exact ⟨.none,none,rfl,rfl⟩
 | int i=>cases h; obtain ⟨t,rfl⟩:=W.inv; exact ⟨.int i t,some (i,t),rfl,rfl⟩
 | _=>first | exact nS h | exact nB h | cases h
theorem RepVs.dropN {vs:List V} {vals:List Value} (h:RepVs X n vs vals):∀ k:Nat,RepVs X n (vs.drop k) (vals.drop k):=by
 induction vs generalizing vals with
 | nil=>cases h; intro k; simp; exact .nil
 | cons v r ih=>cases h with | cons a b=>intro k; cases k with
  | zero=>exact .cons a b
  | succ k=>exact ih b k
theorem RepVs.take {vs:List V} {vals:List Value} (h:RepVs X n vs vals):∀ k:Nat,RepVs X n (vs.take k) (vals.take k):=by
 induction vs generalizing vals with
 | nil=>cases h; intro k; simp; exact .nil
 | cons v r ih=>cases h with | cons a b=>intro k; cases k with
  | zero=>exact .nil
  | succ k=>exact .cons a (ih b k)
theorem RepVs.cut {vs:List V} {vals:List Value} (h:RepVs X n vs vals) (lo hi:Option Int):RepVs X n (Mine.nR lo hi vs) (Mine.nR lo hi vals):=by
 unfold Mine.nR
 rw [h.length]
 exact (h.dropN _).take _
theorem rP {α:Type} {lo hi:Option Int} {m:Nat} {xs:List α} (h:xs.length≤m):(nR lo hi xs).length≤m:=by
 unfold nR; rw [List.length_take,List.length_drop]; exact QC (Nat.min_le_right ..) (QC (Nat.sub_le ..) h)
theorem rO {α:Type} {lo hi:Option Int} {x:List α} (h:wz hi x.length - tB lo x.length=x.length):nR lo hi x=x:=by
 have:=Fj hi x.length
 have e1:wz hi x.length=x.length:=Nat.le_antisymm this (QC (Rc h.symm) (Nat.sub_le ..))
 unfold nR
 rw [e1] at h ⊢
 cases x with
 | nil=>simp
 | cons a r=>
  have e2:tB lo (a::r).length=0:=by rw [List.length_cons] at h ⊢; omega
  rw [e2]; simp
set_option tactic.hygienic true in
theorem t8 {x:List Nat} {t:Tok} {lo hi:Option Int} {pa pb:Option (Int×Tok)} {Q:V→St→Prop} {p:Addr} (h:fits x.length (Q (.str (nR lo hi x)) σ)) (R:Rel G X env σ s) (ea:pa.map (·.1)=lo) (eb:pb.map (·.1)=hi)
  (hp:s.heap.get? p=some {cls:=.type "slice",data:=.fields #[partValue pa,partValue pb,.none]}):wpAny (model G.prog G.w) A (getItem (.str ⟨x.toArray⟩ t) (.ref p)) (Post G X env σ.nx Q) bh s:=by
 obtain ⟨hz,q⟩:=fits.out h
 refine wpAny_getItem_str_slice (l:=pa) (u:=pb) (st:=none) ⟨_,hp,rfl,rfl⟩ rfl ?_
 have hidx:slicePicked ⟨x.toArray⟩ pa pb none=(List.range (wz hi x.length - tB lo x.length)).map (tB lo x.length+·):=by
  unfold slicePicked
  rw [ea,eb,bl]
  exact uc lo hi x.length
 have hpick:((slicePicked ⟨x.toArray⟩ pa pb none).filterMap ((⟨x.toArray⟩:Str).cps[·]?))=nR lo hi x:=by
  rw [hidx,pick_run]; rfl
 unfold sliceMade
 split
 ·rename_i c
  rw [Bool.and_eq_true,beq_iff_eq,beq_iff_eq,hidx,List.length_map,List.length_range,bl] at c
  rw [rO c.2] at q
  exact Post.ret q R (.str x t)
 ·rw [hpick]
  exact ⟨by show (nR lo hi x).toArray.size≤sizeLine; rw [QJ,QN]; exact QC (rP hz) (by decide),Post.ret q (R.toks _) (.str _ _)⟩
theorem t7 {x:List UInt8} {t:Tok} {lo hi:Option Int} {pa pb:Option (Int×Tok)} {Q:V→St→Prop} {p:Addr} (h:onT (Nat.blt (nR lo hi x).length x.length) (fits x.length (Q (.byt (nR lo hi x)) σ))) (R:Rel G X env σ s)
  (ha:IsPart (partValue pa) lo) (hb:IsPart (partValue pb) hi) (hS:s.heap.IsSliceOf p (partValue pa) (partValue pb) .none):wpAny (model G.prog G.w) A (getItem (.bytes x.toArray t) (.ref p)) (Post G X env σ.nx Q) bh s:=by
 apply bc;intro z_
 obtain ⟨q,h⟩:=onT.out h
 obtain ⟨hz,h⟩:=fits.out h
 apply z_;clear z_
 have hlt:(nR lo hi x).length<x.length:=QD q
 have hne:KBy.whole x.toArray lo hi=false:=by
  unfold KBy.whole
  rw [jc]
  cases c:((((tB lo x.toArray.size:Int))==0 && (1:Int)==1 && ((wz hi x.toArray.size:Int))==(x.toArray.size:Int) && !x.toArray.isEmpty)) with
  | false=>rfl
  | true=>
   simp only [Bool.and_eq_true,beq_iff_eq,QJ] at c
   apply bc;intro z_
   obtain ⟨⟨⟨c1,_⟩,c2⟩,_⟩:=c
   apply z_;clear z_
   rw [rO (by omega)] at hlt
   exact absurd hlt (Nat.lt_irrefl _)
 have hp':KBy.picked x.toArray lo hi=(nR lo hi x).toArray:=by
  unfold KBy.picked Builtin.Bytes.sliced
  rw [jc]
  simp only [sliceRange_one,pick_run,QJ]
  rfl
 refine getItem_meets (typeIs_bytes _ _ _) (by decide) FB.slot_bytes_getitem FB.entry_bytes_getitem (FB.args_bytes_getitem_2 _ _) (KBy.meets_slice x.toArray t p ha hb hne) ⟨hS,?_,?_⟩
 ·rw [hp',QJ,QN]; exact QC (rP hz) (by decide)
 ·rw [hp']
  exact Post.ret h (R.toks _) (.byt _ _)
theorem ze {v a b:V} {vv va vb:Value} {lo hi:Option Int} {Q:V→St→Prop} {p:Addr} (ok:G.Ok) (h:LE v lo hi σ Q) (R:Rel G X env σ s) (W:RepV X σ.nx v vv) (ea:kW a=some lo) (eb:kW b=some hi) (Wa:RepV X σ.nx a va) (Wb:RepV X σ.nx b vb)
  (hp:s.heap.get? p=some {cls:=.type "slice",data:=.fields #[va,vb,.none]}):SubAt G A s vv (.ref p) (Post G X env σ.nx Q):=by
 apply bc;intro z_
 obtain ⟨pa,pa',rfl,ea'⟩:=kX ea Wa
 obtain ⟨pb,pb',rfl,eb'⟩:=kX eb Wb
 apply z_;clear z_
 have hS:s.heap.IsSliceOf p (partValue pa') (partValue pb') .none:=⟨_,hp,rfl,rfl⟩
 have lst:bu v σ (fun xs=>fits xs.length (Q (.fro (nR lo hi xs)) σ))→SubAt G A s vv (.ref p) (Post G X env σ.nx Q):=fun h=>by
  apply bc;intro z_
  obtain ⟨l,o,items,xs,rfl,ho,hl,hs,q⟩:=br R W h
  obtain ⟨hz,q⟩:=fits.out q
  apply z_;clear z_
  refine ⟨"list",_,⟨o,ho,hl.1⟩,slot_list_getitem.lookup,wpAny_getItem_list_slice (hl.isList ho) hS pa pb .none (by simp) ?_ (by rw [QJ,hs.length,QN]; omega)⟩
  rw [lK]
  exact Post.newList (t:=s.toks) ok q R (hs.cut lo hi)
 cases v with
 | str x=>obtain ⟨t,rfl⟩:=W.inv; exact ⟨"str",_,typeIs_str _ _ _,F.slot_str_getitem.lookup,t8 h R ea' eb' hp⟩
 | byt x=>obtain ⟨t,rfl⟩:=W.inv; exact ⟨"bytes",_,typeIs_bytes _ _ _,FB.slot_bytes_getitem.lookup,t7 h R pa pb hS⟩
 | _=>exact lst h
noncomputable def sX (d da db:DE):DE:=fun σ Q=>d σ fun v σ1=>da σ1 fun a σ2=>db σ2 fun b σ3=>J6 v a b σ3 Q
theorem cW {e:PySem.Expr} {lo hi:Option PySem.Expr} {d da db:DE} {p q:Pos} (ok:G.Ok) (he':SE G lv sc e d) (h1:SO G lv sc lo da) (h2:SO G lv sc hi db):SE G lv sc (.Subscript e (.Slice lo hi none q) p) (sX d da db):=fun σ Q hd A env X s ha he R=>by
 rw [eval_Subscript]
 refine Qt (he'.run hd ha he R fun vv s1 v σ1 X1 k1 L1 n1 R1 W1=>?_)
 refine Qt (Qw (wpAny_Slice (Qv (h1 σ1 _ k1 A env X1 s1 ha he R1) (fun va s2 y_=>?_) fun _ _ z=>z)))
 apply bc;intro z_
 obtain ⟨a,σ2,X2,k2,L2,n2,R2,W2⟩:=y_
 apply z_;clear z_
 refine Qv (h2 σ2 _ k2 A env X2 s2 ha he R2) (fun vb s3 y_=>?_) fun _ _ z=>z
 apply bc;intro z_
 obtain ⟨b,σ3,X3,k3,L3,n3,R3,W3⟩:=y_
 apply z_;clear z_
 refine Qu (Qt (Qx ?_))
 apply bc;intro z_
 obtain ⟨l,ea,k3⟩:=onS.out k3
 obtain ⟨u,eb,k3⟩:=onS.out k3
 have L13:=L2.trans L3 n2
 have n13:=QC n2 n3
 obtain ⟨T,id,hT,hl,h⟩:=ze (A:=A) ok k3 (R3.push {cls:=.type "slice",data:=.fields #[va,vb,.none]} s3.toks) (W1.mono L13 n13) ea eb (W2.mono L3 n3) W3 (QG _ rfl)
 apply z_;clear z_
 exact pI hT hl (Qv h (fun _ _ z=>Post.lift (L1.trans L13 n1) (QC n1 n13) z) fun _ _ z=>z)
noncomputable def CFok (G:Glob) (lv:Nat) (env:Env) (X1:Wd) (n1:Nat) (f:Value) (first:List Value) (ks:List Str) (C:List V→List V→DE):Prop:=
 ∀ A X2 σ2 s2 vs kvs Q vals kvals,AOk lv A→X1.le n1 X2→n1≤σ2.nx→C vs kvs σ2 Q→Rel G X2 env σ2 s2→RepVs X2 σ2.nx vs vals→RepVs X2 σ2.nx kvs kvals →
  (∀ Q':Keeper→Shared→Prop,(∀ k,k≠Keeper.caller→Q' k s2)→wpAny (model G.prog G.w) A (keeperOf f) Q' bh s2)∧wpAny (model G.prog G.w) A (call f (first++vals) (ks.zip kvals)) (Post G X2 env σ2.nx Q) bh s2
noncomputable abbrev DC:=St→((List V→List V→DE)→St→Prop)→Prop
noncomputable def Lf (G:Glob) (lv:Nat) (sc:Sc) (e:PySem.Expr) (ks:List Str) (d:DC):Prop:=∀ σ K,d σ K→∀ A env X s,AOk lv A→EOk sc env→Rel G X env σ s →
 wpAny (model G.prog G.w) A (eval e env) (fun f s1=>∃ C σ1 X1,K C σ1∧X.le σ.nx X1∧σ.nx≤σ1.nx∧Rel G X1 env σ1 s1∧CFok G lv env X1 σ1.nx f [] ks C) bh s
noncomputable def SM (G:Glob) (lv:Nat) (sc:Sc) (o:PySem.Expr) (name:Str) (ks:List Str) (d:DC):Prop:=∀ σ K,d σ K→∀ A env X s,AOk lv A→EOk sc env→Rel G X env σ s →
 wpAny (model G.prog G.w) A (eval o env) (fun ov s1=>∀ pl Q',(∀ f first s2 C σ1 X1,K C σ1→X.le σ.nx X1→σ.nx≤σ1.nx→Rel G X1 env σ1 s2→CFok G lv env X1 σ1.nx f first ks C→Q' (f,first) s2) →
  wpAny (model G.prog G.w) A (getMethod ov name pl) Q' bh s1) bh s
inductive Ty where
 | list | dict | set | str | bytes
noncomputable def Ty.name:Ty→String
 | .list=>"list"
 | .dict=>"dict"
 | .set=>"set"
 | .str=>"str"
 | .bytes=>"bytes"
noncomputable def PN (o:Option AO):Option Ty:=match o with
 | some (.list _)=>some .list
 | some (.dict _)=>some .dict
 | some (.set _)=>some .set
 | _=>none
noncomputable def N5 (v:V) (σ:St):Option Ty:=match v with
 | .str _=>some .str
 | .byt _=>some .bytes
 | .fro _=>some .list
 | .loc l=>PN (aj l σ.st)
 | _=>none
noncomputable def y7:Ty→Ty→Bool
 | .list,.list=>true
 | .dict,.dict=>true
 | .set,.set=>true
 | .str,.str=>true
 | .bytes,.bytes=>true
 | _,_=>false
theorem tW {a b:Ty} (h:y7 a b=true):a=b:=by cases a <;> cases b <;> first | rfl | cases h
noncomputable def sU (d:DC) (da dk:DA):DE:=fun σ Q=>d σ fun C σ1=>da σ1 fun vs σ2=>dk σ2 fun kvs σ3=>C vs kvs σ3 Q
theorem jU {x:Str} {np p:Pos} {args:List PySem.Expr} {ks:List Keyword} {names:List Str} {d:DC} {da dk:DA} (hf:Lf G lv sc (.Name x np) names d) (ha:SA G lv sc args da) (hk:SK G lv sc ks dk)
  (h1:∀ env pos,(backTo pos (starEach args env)).any (·.1)=false) (h2:∀ env pos,(backToKw pos (keywordEach ks env)).all (·.1.isSome)=true) (h3:∀ env pos,(backToKw pos (keywordEach ks env)).filterMap (·.1)=names):SE G lv sc (.Call (.Name x np) args ks p) (sU d da dk):=fun σ Q hd A env X s hA he R=>by
 refine wpAny_Call_ofName (Qv (hf σ _ hd A env X s hA he R) (fun f s0 y_=>?_) fun _ _ z=>z)
 apply bc;intro z_
 obtain ⟨C,σ0,X0,q0,L0,n0,R0,hc⟩:=y_
 apply z_;clear z_
 refine b9 (h1 env _) (h2 env _) ?_
 refine Qv (ha σ0 _ q0 A env X0 s0 p hA he R0) (fun vals s1 y_=>?_) fun _ _ z=>z
 apply bc;intro z_
 obtain ⟨vs,σ1,X1,q1,L1,n1,R1,W1⟩:=y_
 apply z_;clear z_
 refine Qv (hk σ1 _ q1 A env X1 s1 p hA he R1) (fun kvals s2 y_=>?_) fun _ _ z=>z
 apply bc;intro z_
 obtain ⟨kvs,σ2,X2,q2,L2,n2,R2,W2⟩:=y_
 apply z_;clear z_
 rw [h3]
 apply bc;intro z_
 obtain ⟨a,b⟩:=hc A X2 σ2 s2 vs kvs Q vals kvals hA (L1.trans L2 n1) (QC n1 n2) q2 R2 (W1.mono L2 n2) W2
 apply z_;clear z_
 exact ⟨a,Qv b (fun _ _ z=>Post.lift ((L0.trans L1 n0).trans L2 (QC n0 n1)) (QC (QC n0 n1) n2) z) fun _ _ z=>z⟩
noncomputable def uJ (d:DC) (da dk:DA):DE:=fun σ Q=>d σ fun C σ1=>da σ1 fun vs σ2=>dk σ2 fun kvs σ3=>C vs kvs σ3 Q
theorem fS {o:PySem.Expr} {name:Str} {ap p:Pos} {args:List PySem.Expr} {ks:List Keyword} {names:List Str} {d:DC} {da dk:DA} (hf:SM G lv sc o name names d) (ha:SA G lv sc args da) (hk:SK G lv sc ks dk)
  (hb:∀ env,attributeBase o name env (eval o env)=eval o env) (hl:(ap.endLine==p.line)=true)
  (hfew:∀ env pos,methodCallForm (args.length+ks.length) (backTo pos (starEach args env)) (backToKw pos (keywordEach ks env))=true)
  (h1:∀ env pos,(backTo pos (starEach args env)).any (·.1)=false) (h2:∀ env pos,(backToKw pos (keywordEach ks env)).all (·.1.isSome)=true) (h3:∀ env pos,(backToKw pos (keywordEach ks env)).filterMap (·.1)=names):SE G lv sc (.Call (.Attribute o name ap) args ks p) (uJ d da dk):=fun σ Q hd A env X s hA he R=>by
 rw [arm_eval_Call,hb]
 refine Qt (Qv (hf σ _ hd A env X s hA he R) (fun ov s0 h0=>Qt (Qx ?_)) fun _ _ z=>z)
 have hpos:methodCallPos true o env ap p=pure p:=by unfold methodCallPos; simp [hl]
 unfold methodCall
 rw [hfew]
 refine Qt (Qw (h0 _ _ fun f first s0 C σ0 X0 q0 L0 n0 R0 hc=>?_))
 refine Qt (Qy hpos ?_)
 refine b9 (h1 env _) (h2 env _) ?_
 refine Qv (ha σ0 _ q0 A env X0 s0 p hA he R0) (fun vals s1 y_=>?_) fun _ _ z=>z
 apply bc;intro z_
 obtain ⟨vs,σ1,X1,q1,L1,n1,R1,W1⟩:=y_
 apply z_;clear z_
 refine Qv (hk σ1 _ q1 A env X1 s1 p hA he R1) (fun kvals s2 y_=>?_) fun _ _ z=>z
 apply bc;intro z_
 obtain ⟨kvs,σ2,X2,q2,L2,n2,R2,W2⟩:=y_
 apply z_;clear z_
 rw [h3]
 apply bc;intro z_
 obtain ⟨a,b⟩:=hc A X2 σ2 s2 vs kvs Q vals kvals hA (L1.trans L2 n1) (QC n1 n2) q2 R2 (W1.mono L2 n2) W2
 apply z_;clear z_
 exact ⟨a,Qv b (fun _ _ z=>Post.lift ((L0.trans L1 n0).trans L2 (QC n0 n1)) (QC (QC n0 n1) n2) z) fun _ _ z=>z⟩
theorem CFok.of {f:Value} {first:List Value} {fv:List V} {ks:List Str} {D:List V→List V→DE} {X1:Wd} {n1:Nat} (h:CB G lv f ks D) (W:RepVs X1 n1 fv first):CFok G lv env X1 n1 f first ks (fun vs kvs=>D (fv++vs) kvs):=
 fun A X2 σ2 s2 vs kvs Q vals kvals ha L hn hd R2 Wv Wk=>h (fv++vs) kvs σ2 Q hd A env X2 s2 _ kvals ha R2 ((W.mono L hn).append Wv) Wk
inductive TyIs (s:Shared) (val:Value) (T:String):Prop
 | mk (t:s.TypeIs val T) (d:∀ a,val=.ref a→∃ ob,s.heap.get? a=some ob∧ob.dict=none)
theorem TyIs.ref {a:Addr} {o:Obj} {T:String} (h:s.heap.get? a=some o) (hc:o.cls=.type T) (hd:o.dict=none):TyIs s (.ref a) T:=⟨⟨o,h,hc⟩,fun b e=>by cases e; exact ⟨o,h,hd⟩⟩
theorem Kl {ao:AO} {a:Addr} {T:Ty} (h:PN (some ao)=some T) (r:RepO G X n s.heap a ao):TyIs s (.ref a) T.name:=by
 cases ao with
 | list vs=>cases h; obtain ⟨o,vals,h1,h2,h3⟩:=r; exact .ref h1 h2.1 h2.2.1
 | dict kvs=>cases h; obtain ⟨kvals,⟨o,es,ep,ho,hc,r⟩,h2⟩:=r; exact .ref ho hc.1 hc.2.1
 | set ks=>cases h; obtain ⟨S,⟨o,es,ep,t,ho,hc,r⟩,h2⟩:=r; exact .ref ho hc.1 hc.2.1
 | _=>first | exact nS h | exact nB h | cases h
theorem Cc {v:V} {val:Value} {T:Ty} (h:N5 v σ=some T) (R:Rel G X env σ s) (W:RepV X σ.nx v val):TyIs s val T.name:=by
 cases v with
 | str x=>cases h; obtain ⟨t,rfl⟩:=W.inv; exact ⟨typeIs_str _ _ _,fun a e=>by cases e⟩
 | byt x=>cases h; obtain ⟨t,rfl⟩:=W.inv; exact ⟨typeIs_bytes _ _ _,fun a e=>by cases e⟩
 | loc l=>
  cases (W.inv:val=.ref (X.ρ l))
  have h:PN (aj l σ.st)=some T:=h
  cases q:aj l σ.st with
  | none=>rw [q] at h; first | exact nS h | exact nB h | cases h
  | some ao=>rw [q] at h; exact Kl h (R.st l _ q).2
 | fro vs=>cases h; cases W.froI with | mk vals a o ho hl hs=>exact .ref (R.sub _ _ ho) hl.1 hl.2.1
 | _=>first | exact nS h | exact nB h | cases h
noncomputable abbrev iU (T:Ty) (D:List V→List V→DE) (do_:DE):DC:=fun σ K=>do_ σ fun v σ1=>onS (N5 v σ1) fun T'=>onT (y7 T' T) (K (fun vs kvs=>D (v::vs) kvs) σ1)
theorem bK {o:PySem.Expr} {name:Str} {T:Ty} {id:String} {do_:DE} {D:List V→List V→DE} {ks:List Str} (ho:SE G lv sc o do_) (pa:PlainAttrs T.name) (slot:Slot T.name name id) (hty:typeOf (.builtin id)=pure (.type "method_descriptor")) (hc:CB G lv (.builtin id) ks D) :
  SM G lv sc o name ks (iU T D do_):=fun σ K hd A env X s hA he R=>by
 refine ho.run hd hA he R fun ov s1 v σ1 X1 k1 L1 n1 R1 W1=>fun pl Q' k=>?_
 obtain ⟨T',q,k1⟩:=onS.out k1
 obtain ⟨q2,k2⟩:=onT.out k1
 cases tW q2
 obtain ⟨h1,h2⟩:=Cc q R1 W1
 exact getMethod_builtin h1 pa slot hty h2 (k _ _ _ _ _ _ k2 L1 n1 R1 (CFok.of (fv:=[v]) hc (.cons W1 .nil)))
noncomputable def hM (v:V) (σ:St) (k:Nat→List V→Prop):Prop:=iT v fun l=>onS (eA l σ) fun xs=>k l xs
noncomputable def gr (l:Nat) (o:AO) (σ:St):St:={σ with st:=gE l o σ.st}
noncomputable def ii (vs:List V) (σ:St) (Q:V→St→Prop):Prop:=uo vs fun u v=>hM u σ fun l xs=>fits xs.length (Q .non (gr l (.list (xs++[v])) σ))
noncomputable def wI {α:Type}:List α→List α
 | []=>[]
 | [_]=>[]
 | a::r=>a::wI r
noncomputable def wV {α:Type}:List α→Option α
 | []=>none
 | [a]=>some a
 | _::r=>wV r
theorem qO {α:Type} {xs:List α} {a:α} (h:wV xs=some a):xs=wI xs++[a]:=by
 induction xs with
 | nil=>cases h
 | cons b r ih=>cases r with
  | nil=>cases h; rfl
  | cons c r=>exact congrArg (b::·) (ih h)
noncomputable def MS (vs:List V) (σ:St) (Q:V→St→Prop):Prop:=nV vs fun u=>hM u σ fun l xs=>fits xs.length (onS (wV xs) fun v=>Q v (gr l (.list (wI xs)) σ))
noncomputable def DQ (k:List Nat) (ks:List (List Nat)):List (List Nat):=match gM k ks with
 | true=>ks
 | false=>k::ks
noncomputable def y8 (l:Nat) (σ:St):Option (List (List Nat)):=match aj l σ.st with | some (.set ks)=>some ks | _=>none
theorem rh {l:Nat} {σ:St} {ks:List (List Nat)} (h:y8 l σ=some ks):aj l σ.st=some (.set ks):=by
 unfold y8 at h
 split at h
 ·cases h; assumption
 ·first | exact nS h | exact nB h | cases h
noncomputable def Lq (vs:List V) (σ:St) (Q:V→St→Prop):Prop:=uo vs fun u v=>iT u fun l=>bv v fun k=>onS (y8 l σ) fun ks=>onT (Nat.ble ks.length 1000) (Q .non (gr l (.set (DQ k ks)) σ))
theorem RepVs.rev_append {vs:List V} {vals:List Value} {v:V} (h:RepVs X n (vs++[v]) vals):∃ ws w,vals=ws++[w]∧RepVs X n vs ws∧RepV X n v w:=by
 induction vs generalizing vals with
 | nil=>obtain ⟨w,rfl,a⟩:=h.one; exact ⟨[],w,rfl,.nil,a⟩
 | cons u r ih=>
  cases h with
  | cons a b=>
   apply bc;intro z_
   obtain ⟨ws,w,rfl,c,d⟩:=ih b
   apply z_;clear z_
   exact ⟨_::ws,w,rfl,.cons a c,d⟩
@[elab_as_elim] theorem gB {v:V} {val:Value} {k:Nat→List V→Prop} {M:Value→Prop} (R:Rel G X env σ s) (W:RepV X σ.nx v val) (h:hM v σ k) (H:∀ l xs o items,l<σ.nx→aj l σ.st=some (.list xs)→s.heap.get? (X.ρ l)=some o→LObj "list" o items→RepVs X σ.nx xs items→k l xs→M (.ref (X.ρ l))):M val:=
 W.loc_ h fun l h=>by
  apply bc;intro z_
  obtain ⟨xs,q,h⟩:=onS.out h
  have q:=bS q
  obtain ⟨hl,o,items,h1,h2,h3⟩:=R.st l _ q
  apply z_;clear z_
  exact H l xs o items hl q h1 h2 h3 h
theorem kj {l:Nat} {xs:List V} {o:Obj} {items:List Value} {v:V} {val:Value} {Q:Value→Shared→Prop} (q:aj l σ.st=some (.list xs)) (h1:s.heap.get? (X.ρ l)=some o) (h2:LObj "list" o items) (h3:RepVs X σ.nx xs items) (hz:xs.length≤1000000) (R:Rel G X env σ s)
  (Wv:RepV X σ.nx v val) (k:∀ s',Rel G X env (gr l (.list (xs++[v])) σ) s'→Q .none s'):wpAny (model G.prog G.w) A (Builtin.«list.append» ⟨[.ref (X.ρ l),val],[]⟩) (fun fin s'=>∃ r,fin=.done (.ret r)∧Q r s') bh s:=by
 apply bc;intro z_
 obtain ⟨g1,g2,⟨ep,g3⟩,g4⟩:=id h2
 apply z_;clear z_
 have hsz:items.toArray.size≤sizeLine:=by rw [QJ,h3.length,QN]; omega
 show wpAny _ _ (updateSeq (X.ρ l) (·.push val) >>= fun _=>ret .none) _ _ s
 exact Qt (wpAny_updateSeq h1 g3 (Qu ⟨.none,rfl,k _ (R.setList (t:=s.toks) q h1 h2 (by rw [List.push_toArray]) (h3.append (.cons Wv .nil)))⟩))
theorem nZ:CB G lv (.builtin "list.append") [] (fun vs _=>ii vs):=CB.of (fun a w=>by cases w) fun vs σ Q hd A env X s vals ha R W=>by
 refine W.on2_ hd fun u v val val' Wl Wv hd=>gB R Wl hd fun l xs o items hl q h1 h2 h3 hd=>?_
 obtain ⟨hz,hd⟩:=fits.out hd
 exact Qz slot_list_append ⟨_,h1,h2.1⟩ entry_list_append (kj q h1 h2 h3 hz R Wv fun s' R'=>⟨_,_,X,hd,.refl,QF _,R',.non⟩) (args_list_append _ _)
theorem KO:CB G lv (.builtin "list.pop") [] (fun vs _=>MS vs):=CB.of (fun a w=>by cases w) fun vs σ Q hd A env X s vals ha R W=>by
 refine W.on1_ hd fun u val Wl hd=>gB R Wl hd fun l xs o items hl q h1 h2 h3 hd=>?_
 apply bc;intro z_
 obtain ⟨hz,hd⟩:=fits.out hd
 obtain ⟨v,q2,hd⟩:=onS.out hd
 have hxs:=qO q2
 rw [hxs] at h3
 have hlen:=h3.length
 obtain ⟨ws,w,rfl,Ws,Wv⟩:=h3.rev_append
 have h2':=h2
 obtain ⟨c,dct,dt,sl⟩:=o
 obtain ⟨g1,g2,⟨ep,g3⟩,g4⟩:=h2
 apply z_;clear z_
 dsimp only at g1 g2 g3 g4
 subst g1 g2 g3 g4
 have hsz:(ws++[w]).toArray.size≤sizeLine:=by rw [QJ,hlen,← hxs,QN]; omega
 have ef:(ws++[w]).toArray.eraseIdxIfInBounds ((ws++[w]).toArray.size - 1)=ws.toArray:=by
  have:(ws++[w]).toArray.size - 1=ws.length:=by simp
  rw [this,kl_erase,List.append_nil]
 exact call_meets PySem.F.slot_list_pop ⟨_,h1,rfl⟩ PySem.F.entry_list_pop (PySem.F.args_list_pop_1 _) (PySem.MeetsSeq.list_pop_last (X.ρ l) _ ep w (by simp) hsz)
  ⟨h1,_,_,X,hd,.refl,QF _,R.setList (t:=s.toks) q h1 h2' ef Ws,Wv⟩
theorem KM:CB G lv (.builtin "set.add") [] (fun vs _=>Lq vs):=CB.of (fun a w=>by cases w) fun vs σ Q hd A env X s vals ha R W=>by
 refine W.on2_ hd fun u v val val' Wl Wv hd=>Wl.loc_ hd fun l hd=>Wv.str_ hd fun k t hd=>?_
 apply bc;intro z_
 obtain ⟨ks,q,hd⟩:=onS.out hd
 have q:=rh q
 obtain ⟨q2,hd⟩:=onT.out hd
 have hz:=QD q2
 obtain ⟨_,S,h1,h2⟩:=R.st l _ q
 apply z_;clear z_
 have e:S ⟨k.toArray⟩=gM k ks:=by rw [h2,cF]
 have hk:(PySem.strKind G.prog G.w).is ⟨k.toArray⟩ (.str ⟨k.toArray⟩ t)=true:=strKind_is _ _ _ _
 refine call_set_add hk rfl h1 (by have:scanBound=4096:=rfl; omega) fun h' hs hS=>?_
 refine ⟨_,_,X,hd,.refl,QF _,R.upd (s':={s with heap:=h',toks:=s.toks+1}) (o:=.set (DQ k ks)) q (fun b' hb' o' e=>(hs.2 b' hb').trans e) ?_ rfl rfl R.gens,.non⟩
 rw [e] at hS
 have ex:∀ x:Str,(x=⟨k.toArray⟩)=(x.cps.toList=k):=fun x=>propext ⟨fun e=>e ▸ rfl,fun e=>by obtain ⟨a⟩:=x; exact e ▸ rfl⟩
 unfold DQ
 cases q3:gM k ks with
 | true=>
  rw [q3,QI rfl] at hS
  refine ⟨_,hS,fun x=>?_⟩
  rw [h2]
  by_cases z:x=⟨k.toArray⟩
  ·subst z; rw [cF] at q3; simp [List.contains_iff_mem.mp q3]
  ·simp [z]
 | false=>
  rw [q3,QH QM] at hS
  refine ⟨_,hS,fun x=>?_⟩
  rw [h2,List.contains_cons,Bool.or_comm]
  by_cases z:x=⟨k.toArray⟩
  ·subst z; simp
  ·have:¬ x.cps.toList=k:=fun e=>z ((ex x).mpr e)
   simp [z,this]
noncomputable def wY (c:Nat):Nat:=match Nat.ble 65 c with
 | true=>(match Nat.ble c 90 with
  | true=>c+32
  | false=>c)
 | false=>c
theorem AY (c:Nat):wY c=lo1 c:=by
 unfold wY lo1
 cases h1:Nat.ble 65 c with
 | false=>
  have:¬ 65≤c:=fun h=>by rw [QQ h] at h1; cases h1
  rw [QH (fun h=>this h.1)]
 | true=>
  have:=QD h1
  cases h2:Nat.ble c 90 with
  | false=>
   have h3:¬ c≤90:=fun h=>by rw [QQ h] at h2; cases h2
   rw [QH (fun h=>h3 h.2)]
  | true=>
   have:=QD h2
   rw [QI ⟨by assumption,by assumption⟩]
noncomputable def Mv (vs:List V) (σ:St) (Q:V→St→Prop):Prop:=nV vs fun v=>bv v fun s=>onT (D1 s) (fits s.length (Q (.str (s.map wY)) σ))
noncomputable def gP (sep:List Nat):List (List Nat)→List Nat
 | []=>[]
 | [p]=>p
 | p::r=>p++(sep++gP sep r)
noncomputable def bJ (c:Nat):List Nat→List (List Nat)
 | []=>[[]]
 | a::r=>match Nat.beq a c with
  | true=>[]::bJ c r
  | false=>match bJ c r with
   | p::ps=>(a::p)::ps
   | []=>[[a]]
theorem KF (c:Nat):∀ s,bJ c s≠[]
 | []=>by simp [bJ]
 | a::r=>by
  unfold bJ
  cases Nat.beq a c with
  | true=>simp
  | false=>cases bJ c r <;> simp
theorem jM {c:Nat}:∀ {p:List Nat},c ∉ p→bJ c p=[p]
 | [],_=>rfl
 | a::r,h=>by
  rw [List.mem_cons,not_or] at h
  unfold bJ
  have:Nat.beq a c=false:=by rw [dY]; exact QR (Ne.symm h.1)
  rw [this,jM h.2]
theorem lp {c:Nat} {s:List Nat}:∀ {p:List Nat},c ∉ p→bJ c (p++c::s)=p::bJ c s
 | [],_=>by
  show bJ c (c::s)=_
  rw [bJ]
  have:Nat.beq c c=true:=by rw [dY]; simp
  rw [this]
 | a::r,h=>by
  rw [List.mem_cons,not_or] at h
  show bJ c (a::(r++c::s))=_
  rw [bJ]
  have:Nat.beq a c=false:=by rw [dY]; exact QR (Ne.symm h.1)
  rw [this,lp h.2]
theorem jN {c:Nat}:∀ {L:List (List Nat)},L≠[]→(∀ p∈L,c ∉ p)→bJ c (gP [c] L)=L
 | [],h,_=>absurd rfl h
 | [p],_,h=>jM (h p (by simp))
 | p::q::r,_,h=>by
  show bJ c (p++c::gP [c] (q::r))=_
  rw [lp (h p (by simp)),jN (by simp) fun x hx=>h x (QE _ hx)]
theorem fA (sep:List Nat):∀ (L:List Str),Str.join ⟨sep.toArray⟩ L=⟨(gP sep (L.map fun p=>p.cps.toList)).toArray⟩
 | []=>rfl
 | [p]=>by simp [Str.join,gP]
 | p::q::r=>by
  show p++⟨sep.toArray⟩++Str.join ⟨sep.toArray⟩ (q::r)=_
  rw [fA sep (q::r)]
  show _=(⟨(p.cps.toList++(sep++gP sep ((q::r).map fun p=>p.cps.toList))).toArray⟩:Str)
  cases p with
  | mk a=>
   show (⟨a++sep.toArray++(gP sep ((q::r).map fun p=>p.cps.toList)).toArray⟩:Str)=_
   congr 1
   apply Array.toList_inj.mp
   simp
theorem zo (c:Nat) (s:List Nat):Txt.split ⟨s.toArray⟩ ⟨#[c]⟩=(bJ c s).map fun p=>⟨p.toArray⟩:=by
 have h1:=StrLaws.join_split ⟨s.toArray⟩ ⟨#[c]⟩
 have h2:=StrLaws.split_free ⟨s.toArray⟩ c
 have h3:1≤(Txt.split ⟨s.toArray⟩ ⟨#[c]⟩).length:=split_pos _ _
 generalize Txt.split ⟨s.toArray⟩ ⟨#[c]⟩=L at h1 h2 h3
 rw [show (⟨#[c]⟩:Str)=⟨[c].toArray⟩ from rfl,fA] at h1
 injection h1 with h1
 have h1:gP [c] (L.map fun p=>p.cps.toList)=s:=by simpa using congrArg Array.toList h1
 have e:bJ c s=L.map fun p=>p.cps.toList:=by
  rw [← h1]
  refine jN (by cases L <;> simp at h3 ⊢) fun p hp=>?_
  obtain ⟨q,hq,rfl⟩:=List.mem_map.mp hp
  exact h2 q hq
 rw [e,List.map_map]
 conv=>lhs; rw [← List.map_id L]
 apply List.map_congr_left
 intro p _
 cases p; simp
noncomputable def zq:List (List Nat)→List V
 | []=>[]
 | p::r=>.str p::zq r
noncomputable def iL:Nat→List Nat→Bool
 | _,[]=>false
 | c,a::r=>or (Nat.beq c a) (iL c r)
theorem l3 {c:Nat} {y:List Nat} (h:iL c y=false):c ∉ y:=by
 induction y with
 | nil=>exact List.not_mem_nil
 | cons a r ih=>
  obtain ⟨h1,h2⟩:=Bool.or_eq_false_iff.mp h
  intro q
  rcases List.mem_cons.mp q with rfl | q
  ·exact Nat.ne_of_beq_eq_false h1 rfl
  ·exact ih h2 q
theorem lZ {c:Nat} {y:List Nat} (h:iL c y=true):c∈y:=by
 induction y with
 | nil=>cases h
 | cons a r ih=>exact (Bool.or_eq_true_iff.mp h).elim (fun e=>QP e ▸ QL ..) fun e=>QE _ (ih e)
noncomputable def oneC (x:List Nat) (k:Nat→Prop):Prop:=match x with | [c]=>k c | _=>False
theorem oneC.out {x:List Nat} {k:Nat→Prop} (h:oneC x k):∃ c,x=[c]∧k c:=by
 cases x with
 | nil=>exact h.elim
 | cons c r=>cases r with
  | nil=>exact ⟨c,rfl,h⟩
  | cons=>exact h.elim
noncomputable def oneI (i:Int) (P:Prop):Prop:=match i with | .ofNat 1=>P | _=>False
theorem oneI.out {i:Int} {P:Prop} (h:oneI i P):i=.ofNat 1∧P:=by
 cases i with
 | negSucc=>exact h.elim
 | ofNat n=>cases n with
  | zero=>exact h.elim
  | succ n=>cases n with
   | zero=>exact ⟨rfl,h⟩
   | succ=>exact h.elim
noncomputable def zl (v w:V) (σ:St) (Q:V→St→Prop):Prop:=bv v fun s=>bv w fun x=>oneC x fun c=>fits s.length (Q (.fro (zq (bJ c s))) σ)
noncomputable def zm (v w u:V) (σ:St) (Q:V→St→Prop):Prop:=bv v fun s=>bv w fun x=>oneC x fun c=>aZ u fun i=>oneI i (onT (not (iL c s)) (fits s.length (Q (.fro [.str s]) σ)))
noncomputable def zn (vs:List V) (σ:St) (Q:V→St→Prop):Prop:=match vs with
 | [v,w]=>zl v w σ Q
 | vs=>G0 vs fun v w u=>zm v w u σ Q
noncomputable def ND (v:V):Option (List Nat):=match v with | .str s=>some s | _=>none
noncomputable def rn:List V→Option (List (List Nat))
 | []=>some []
 | v::r=>(ND v).bind fun s=>(rn r).map (List.cons s)
noncomputable def B5:List (List Nat)→Nat
 | []=>0
 | p::r=>p.length+B5 r
noncomputable def CV (vs:List V) (σ:St) (Q:V→St→Prop):Prop:=uo vs fun u v=>bv u fun sep=>bu v σ fun xs=>onS (rn xs) fun ps=>fits (B5 ps+ps.length*sep.length) (Q (.str (gP sep ps)) σ)
theorem zQ:CB G lv (.builtin "str.lower") [] (fun vs _=>Mv vs):=CB.of (fun a w=>by cases w) fun vs σ Q hd A env X s vals ha R W=>by
 refine W.on1_ hd fun v val Wv hd=>Wv.str_ hd fun x t hd=>?_
 apply bc;intro z_
 obtain ⟨q,hd⟩:=onT.out hd
 obtain ⟨hz,hd⟩:=fits.out hd
 apply z_;clear z_
 have hA:∀ c∈(⟨x.toArray⟩:Str).cps.toList,c<128:=fun c hc=>by
  have:=rJ q
  rw [Array.all_eq_true'] at this
  exact Re (this c (by simpa using hc))
 refine SCL.lower (by rw [bl]; omega) fun _=>?_
 rw [lower_ascii hA]
 have:(x.toArray.map lo1)=(x.map wY).toArray:=by
  rw [show wY=lo1 from funext AY]; simp
 show Post G X env σ.nx Q (.str ⟨x.toArray.map lo1⟩ _) _
 rw [this]
 exact Post.ret hd (R.toks _) (.str _ _)
theorem ft:∀ (L:List (List Nat)) (l:List (Str×Tok)),l.map (·.1)=L.map (fun p=>(⟨p.toArray⟩:Str))→RepVs X n (zq L) (strValues l)
 | [],l,h=>by
  cases l with
  | nil=>exact .nil
  | cons=>simp at h
 | p::r,l,h=>by
  cases l with
  | nil=>simp at h
  | cons a l=>
   simp only [List.map_cons,List.cons.injEq] at h
   obtain ⟨x,t⟩:=a
   dsimp only at h
   obtain ⟨rfl,h⟩:=h
   exact .cons (.str p t) (ft r l h)
theorem lq (c:Nat):∀ s:List Nat,(bJ c s).length≤s.length+1
 | []=>QF _
 | a::r=>by
  have ih:=lq c r
  unfold bJ
  cases Nat.beq a c with
  | true=>simp; omega
  | false=>
   cases q:bJ c r with
   | nil=>simp
   | cons p ps=>rw [q] at ih; simp at ih ⊢; omega
theorem t9 {v w:V} {val val':Value} {Q:V→St→Prop} (ok:G.Ok) (R:Rel G X env σ s) (Wv:RepV X σ.nx v val) (Ww:RepV X σ.nx w val') (hd:zl v w σ Q):wpAny (model G.prog G.w) A (call (.builtin "str.split") [val,val']) (Post G X env σ.nx Q) bh s:=by
 refine Wv.str_ hd fun x t hd=>Ww.str_ hd fun y u hd=>?_
 apply bc;intro z_
 obtain ⟨c,rfl,hd⟩:=oneC.out hd
 obtain ⟨hz,hd⟩:=fits.out hd
 apply z_;clear z_
 have hsplit:=zo c x
 have own:Txt.split ⟨x.toArray⟩ ⟨#[c]⟩=[⟨x.toArray⟩]→Post G X env σ.nx Q (.ref s.heap.objs.size) {s with heap:=s.heap.push {cls:=.type "list",data:=.seq [Value.str ⟨x.toArray⟩ t].toArray}}:=fun e=>by
  refine Post.newList (t:=s.toks) ok hd R (ft (bJ c x) [(⟨x.toArray⟩,t)] ?_)
  rw [← hsplit,e]; rfl
 cases h1:(decide ((⟨x.toArray⟩:Str).length<(⟨[c].toArray⟩:Str).length) || decide (Builtin.Str.strKind ⟨x.toArray⟩<Builtin.Str.strKind ⟨[c].toArray⟩)) with
 | true=>
  exact call_meets F.slot_str_split (typeIs_str _ _ _) F.entry_str_split (F.args_str_split_2 _ _) (meets_str_split_cannot_occur _ _ _ _ h1) (own (by unfold Txt.split; exact QI h1))
 | false=>
  cases hf:(Builtin.Str.occurrences ⟨x.toArray⟩ ⟨[c].toArray⟩ 0 (⟨x.toArray⟩:Str).length ((⟨x.toArray⟩:Str).length+1)).isEmpty with
  | true=>
   exact call_meets F.slot_str_split (typeIs_str _ _ _) F.entry_str_split (F.args_str_split_2 _ _) (meets_str_split_not_found _ _ _ _ h1 rfl hf)
    (own (by unfold Txt.split; exact (QH (ne_true_of_eq_false h1)).trans (QI hf)))
  | false=>
   have hp:Txt.split ⟨x.toArray⟩ ⟨#[c]⟩=Builtin.Str.partsBetween ⟨x.toArray⟩ (Builtin.Str.occurrences ⟨x.toArray⟩ ⟨[c].toArray⟩ 0 (⟨x.toArray⟩:Str).length ((⟨x.toArray⟩:Str).length+1)) (⟨[c].toArray⟩:Str).length:=by
    unfold Txt.split; exact (QH (ne_true_of_eq_false h1)).trans (QH (ne_true_of_eq_false hf))
   have hl:=lq c x
   refine call_meets F.slot_str_split (typeIs_str _ _ _) F.entry_str_split (F.args_str_split_2 _ _) (meets_str_split_sep _ _ _ _ h1 rfl hf (by rw [bl,QN]; omega) (by
    rw [← hp,hsplit,List.length_map,QN]; omega)) ?_
   rw [← hp,strsFrom_eq]
   refine Post.newList ok hd R (ft (bJ c x) _ ?_)
   rw [numbered_texts,hsplit]
theorem ua {v w z:V} {val val' val'':Value} {Q:V→St→Prop} (ok:G.Ok) (R:Rel G X env σ s) (Wv:RepV X σ.nx v val) (Ww:RepV X σ.nx w val') (Wz:RepV X σ.nx z val'') (hd:zm v w z σ Q):wpAny (model G.prog G.w) A (call (.builtin "str.split") [val,val',val'']) (Post G X env σ.nx Q) bh s:=by
 refine Wv.str_ hd fun x t hd=>Ww.str_ hd fun y u hd=>?_
 apply bc;intro z_
 obtain ⟨c,rfl,hd⟩:=oneC.out hd
 apply z_;clear z_
 refine Wz.int_ hd fun i j hd=>?_
 apply bc;intro z_
 obtain ⟨rfl,hd⟩:=oneI.out hd
 obtain ⟨q,hd⟩:=onT.out hd
 have q:iL c x=false:=(Bool.not_eq_true' _).mp q
 obtain ⟨hz,hd⟩:=fits.out hd
 apply z_;clear z_
 have own:Post G X env σ.nx Q (.ref s.heap.objs.size) {s with heap:=s.heap.push {cls:=.type "list",data:=.seq [Value.str ⟨x.toArray⟩ t].toArray}}:=
  Post.newList (t:=s.toks) ok hd R (.cons (.str x t) .nil)
 have hk:(decide (Int.ofNat 1 < -(2 ^ 63:Int)) || decide (Int.ofNat 1 ≥ 2 ^ 63))=false:=by decide
 cases h1:(decide ((⟨x.toArray⟩:Str).length<(⟨[c].toArray⟩:Str).length) || decide (Builtin.Str.strKind ⟨x.toArray⟩<Builtin.Str.strKind ⟨[c].toArray⟩)) with
 | true=>
  exact call_meets F.slot_str_split (typeIs_str _ _ _) F.entry_str_split (F.args_str_split_3 _ _ _) (meets_str_split_max_cannot_occur _ _ _ _ _ _ hk h1) own
 | false=>
  have hf:(Builtin.Str.occurrences ⟨x.toArray⟩ ⟨[c].toArray⟩ 0 (⟨x.toArray⟩:Str).length (limitOf ⟨x.toArray⟩ (Int.ofNat 1))).isEmpty=true:=by
   have:=empty_one ⟨x.toArray⟩ c
   have e:limitOf ⟨x.toArray⟩ (Int.ofNat 1)=1:=rfl
   rw [e]
   rw [show (⟨[c].toArray⟩:Str)=⟨#[c]⟩ from rfl,this]
   simp [l3 q]
  exact call_meets F.slot_str_split (typeIs_str _ _ _) F.entry_str_split (F.args_str_split_3 _ _ _) (meets_str_split_max_not_found _ _ _ _ _ _ hk h1 rfl hf) own
theorem zS (ok:G.Ok):CB G lv (.builtin "str.split") [] (fun vs _=>zn vs):=CB.of (fun a w=>by cases w) fun vs σ Q hd A env X s vals ha R W=>by
 cases W with
 | nil=>exact hd.elim
 | cons a W=>cases W with
  | nil=>exact hd.elim
  | cons b W=>cases W with
   | nil=>exact t9 ok R a b hd
   | cons c W=>cases W with
    | nil=>exact ua ok R a b c hd
    | cons=>exact hd.elim
theorem ud {vs:List V}:∀ {vals:List Value} {ps:List (List Nat)},rn vs=some ps→RepVs X n vs vals→StrsAre vals (ps.map fun p=>(⟨p.toArray⟩:Str)):=by
 induction vs with
 | nil=>intro vals ps h W; cases W; cases h; exact .nil
 | cons v r ih=>
  intro vals ps h W
  cases W with
  | cons a b=>
   apply bc;intro z_
   obtain ⟨x,h1,h⟩:=Option.bind_eq_some_iff.mp h
   obtain ⟨ss,h2,rfl⟩:=Option.map_eq_some_iff.mp h
   apply z_;clear z_
   cases v with
   | str y=>
    apply bc;intro z_
    obtain ⟨t,rfl⟩:=a.inv
    apply z_;clear z_
    cases h1
    exact .cons _ t (ih h2 b)
   | _=>first | exact nS h1 | exact nB h1 | cases h1
theorem sK:∀ ps:List (List Nat),((ps.map fun p=>(⟨p.toArray⟩:Str)).map (·.length)).sum=B5 ps
 | []=>rfl
 | p::r=>by
  have:=sK r
  simp only [List.map_cons,List.sum_cons,B5] at this ⊢
  rw [this,bl]
theorem Dn:CB G lv (.builtin "str.join") [] (fun vs _=>CV vs):=CB.of (fun a w=>by cases w) fun vs σ Q hd A env X s vals ha R W=>by
 refine W.on2_ hd fun u v val val' Wv Ww hd=>Wv.str_ hd fun sep t hd=>?_
 apply bc;intro z_
 obtain ⟨l,o,items,xs,rfl,ho,hl,hs,q⟩:=br R Ww hd
 obtain ⟨ps,q2,q⟩:=onS.out q
 obtain ⟨hz,q⟩:=fits.out q
 apply z_;clear z_
 refine join_list (hl.isList ho) (ud q2 hs) ?_ fun t' k=>?_
 ·rw [sK,List.length_map,bl]; omega
 ·have:Txt.join ⟨sep.toArray⟩ (ps.map fun p=>(⟨p.toArray⟩:Str))=⟨(gP sep ps).toArray⟩:=by
   unfold Txt.join
   rw [StrLaws.glued_eq_join,fA,List.map_map]
   congr 3
   conv=>rhs; rw [← List.map_id ps]
   apply List.map_congr_left
   intro p _; simp
  rw [this]
  exact Post.ret q (R.toks _) (.str _ _)
structure ClsOk (K:Frag) (C:Addr):Prop where
 hga:findIn K (.ref C) "__getattribute__"=some (some (.builtin "object.__getattribute__"))
 hk:findIn K (.ref C) "__getattr__"=some none
 hs:findIn K (.ref C) "__setattr__"=some (some (.builtin "object.__setattr__"))
 hp:plainOver K C=true
 hd:hasDictIn K C=true
theorem me {h:Heap} {a:Addr} {m:Str→Option Value} (x:h.Ns a m):∃ o,h.get? a=some o∧∀ name,lookIn name o=some (m name):=by
 apply bc;intro z_
 obtain ⟨o,es,ep,ho,hd,hk,hm⟩:=x
 apply z_;clear z_
 refine ⟨o,ho,fun name=>?_⟩
 unfold lookIn
 rw [hd]
 dsimp only
 rw [← hm name]
 unfold nsFind findBy
 apply bc;intro z_
 obtain ⟨l⟩:=es
 apply z_;clear z_
 simp only [List.find?_toArray]
 cases q:l.find? (fun e=>e.key.isStr name) with
 | some e=>rfl
 | none=>
  have:l.any (·.refKey)=false:=by
   rw [List.any_eq_false]
   intro e he
   apply bc;intro z_
   obtain ⟨n,t,hk⟩:=hk e (by simpa using he)
   apply z_;clear z_
   simp [DictEntry.refKey,hk]
  simp only [this,Bool.false_eq_true,if_false,Option.map_none]
theorem RepV.handed {v:V} {val:Value} (W:RepV X n v val): handedIn val=true:=
 @RepV.casesOn X n (fun _ w _=>handedIn w=true) v val W rfl (fun _=>rfl) (fun _ _=>rfl) (fun _ _=>rfl) (fun _ _=>rfl) (fun _=>rfl) (fun _=>rfl) (fun _ _=>rfl)
  (fun _ _ _ _ _=>rfl) (fun _ _ _ _ _ _ _=>rfl) (fun _ _ _ _ _ _ _=>rfl) (fun _ _ _ _=>rfl) (fun _ _ _ _ _ _ _ _=>rfl) (fun _=>rfl) (fun _ _ _ _ _ _ _ _ _ _ _=>rfl)
theorem AR {C l:Nat} {a:Addr} {at_:List (Nat×V)} (R:Rel G X env σ s) (ha:X.F a=some (instObj C (X.ρ l))) (hl:aj l σ.st=some (.ns at_)) :
  ∃ od m,InstAt s.heap a (instObj C (X.ρ l)) C (some od)∧s.heap.Ns1 (X.ρ l) m∧Within m G.an∧AttrsAre G X σ.nx at_ m∧s.heap.get? (X.ρ l)=some od∧∀ name,lookIn name od=some (m name):=by
 apply bc;intro z_
 obtain ⟨_,m,h1,h2,h3⟩:=R.st l _ hl
 obtain ⟨od,ho,hk⟩:=me h1.ns
 apply z_;clear z_
 exact ⟨od,m,⟨R.sub _ _ ha,rfl,rfl,ho⟩,h1,h2,h3,ho,hk⟩
noncomputable def Be (l:Nat) (σ:St):Option (List (Nat×V)):=match aj l σ.st with | some (.ns at_)=>some at_ | _=>none
theorem jq {l:Nat} {σ:St} {at_:List (Nat×V)} (h:Be l σ=some at_):aj l σ.st=some (.ns at_):=by
 unfold Be at h
 split at h
 ·cases h; assumption
 ·first | exact nS h | exact nB h | cases h
noncomputable def lG (C0:Nat) (v:V) (σ:St) (k:Nat→List (Nat×V)→Prop):Prop:=C2 v fun C l=>onT (Nat.beq C C0) (onS (Be l σ) fun at_=>k l at_)
inductive ObjIs (G:Glob) (X:Wd) (σ:St) (s:Shared) (C0:Nat) (k:Nat→List (Nat×V)→Prop) (v:V) (val:Value):Prop
 | mk (l:Nat) (a:Addr) (at_:List (Nat×V)) (od:Obj) (m:Str→Option Value) (ev:v=.obj C0 l) (hl:l<σ.nx) (e:val=.ref a) (hF:X.F a=some (instObj C0 (X.ρ l))) (hk:aj l σ.st=some (.ns at_))
  (I:InstAt s.heap a (instObj C0 (X.ρ l)) C0 (some od)) (h1:s.heap.Ns1 (X.ρ l) m) (h2:Within m G.an) (h3:AttrsAre G X σ.nx at_ m) (ho:s.heap.get? (X.ρ l)=some od) (hlk:∀ name,lookIn name od=some (m name)) (h:k l at_)
theorem eT {C0:Nat} {v:V} {val:Value} {k:Nat→List (Nat×V)→Prop} (h:lG C0 v σ k) (R:Rel G X env σ s) (W:RepV X σ.nx v val):ObjIs G X σ s C0 k v val:=by
 cases v with
 | obj C l=>
  cases (W.inv:AtOb X σ.nx C l val) with
  | mk a hl o=>
  apply bc;intro z_
  obtain ⟨q,h'⟩:=onT.out h
  obtain ⟨at_,q2,h5⟩:=onS.out h'
  apply z_;clear z_
  cases QP q
  apply bc;intro z_
  obtain ⟨od,m,I,r⟩:=AR R o (jq q2)
  apply z_;clear z_
  exact ⟨l,a,at_,od,m,rfl,hl,rfl,o,jq q2,I,r.1,r.2.1,r.2.2.1,r.2.2.2.1,r.2.2.2.2,h5⟩
 | _=>exact h.elim
noncomputable def rK (C0 i:Nat) (v:V) (σ:St) (Q:V→St→Prop):Prop:=lG C0 v σ fun l at_=>sF (aj i at_) σ Q
theorem fe {e:PySem.Expr} {name:Str} {p:Pos} {d:DE} {Q:Value→Shared→Prop} {K:V→St→Prop} (he':SE G lv sc e d) (hb:∀ env,attributeBase e name env (eval e env)=eval e env) (hd:d σ K) (ha:AOk lv A) (he:EOk sc env) (R:Rel G X env σ s)
  (k:∀ val s1 v σ1 X1,K v σ1→X.le σ.nx X1→σ.nx≤σ1.nx→Rel G X1 env σ1 s1→RepV X1 σ1.nx v val→wpAny (model G.prog G.w) A (getAttr val name true) Q bh s1) :
  wpAny (model G.prog G.w) A (eval (.Attribute e name p) env) Q bh s:=by
 show wpAny _ _ (do
  let o ← attributeBase e name env (eval e env)
  standAt p.atName
  let r ← holding [o] (getAttr o name true)
  letTemporaryGo e o r
  pure r) _ _ _
 rw [hb]
 refine Qt (he'.run hd ha he R fun val s1 v σ1 X1 k1 L1 n1 R1 W1=>?_)
 refine Qt (Qx (Qt (Qw ?_)))
 exact Qv (k val s1 v σ1 X1 k1 L1 n1 R1 W1) (fun r s2 q=>Qt (wpAny_letTemporaryGo (Qu q))) fun _ _ z=>z
theorem kB {C0 i:Nat} {name:Str} {v:V} {val:Value} {Q:V→St→Prop} {expr:Bool} (ok:G.Ok) (hC:ClsOk G.K C0) (hi:G.an[i]?=some name) (hn:findIn G.K (.ref C0) name=some none) (h:rK C0 i v σ Q) (R:Rel G X env σ s) (W:RepV X σ.nx v val) :
  wpAny (model G.prog G.w) A (getAttr val name expr) (Post G X env σ.nx Q) bh s:=by
 apply bc;intro z_
 obtain ⟨l,a,at_,od,m,rfl,hl,rfl,hF,hk,I,h1,h2,h3,ho,hlk,h5⟩:=eT h R W
 obtain ⟨w,e,hq⟩:=gG h5
 have:=h3 i name hi
 rw [e] at this
 obtain ⟨wv,hm,Ww⟩:=this
 apply z_;clear z_
 refine get_value (R.K ok) I hC.hga (findObj_own hC.hd hn rfl (by rw [hlk,hm])) Ww.handed (Post.ret hq (R.toks _) Ww)
noncomputable def uD (d:DE) (C0 i:Nat):DE:=fun σ Q=>d σ fun v σ1=>rK C0 i v σ1 Q
theorem aU {e:PySem.Expr} {name:Str} {p:Pos} {d:DE} {C0 i:Nat} (ok:G.Ok) (hC:ClsOk G.K C0) (hi:G.an[i]?=some name) (hn:findIn G.K (.ref C0) name=some none) (he':SE G lv sc e d) (hb:∀ env,attributeBase e name env (eval e env)=eval e env):SE G lv sc (.Attribute e name p) (uD d C0 i):=fun σ Q hd A env X s ha he R=>
 fe he' hb hd ha he R fun val s1 v σ1 X1 k1 L1 n1 R1 W1=>Qv (kB ok hC hi hn k1 R1 W1) (fun _ _ z=>Post.lift L1 n1 z) fun _ _ z=>z
theorem zY {x name:Str} {np p:Pos} {C:Addr} {i:Nat} {mc:Value} {cs:List Nat} {t:Tok} (ok:G.Ok) (hx:sc.names[i]?=some (x,.globalImplicit)) (hg:nsIn G.K mainGlobals x=some (some (.ref C))) (hdb:(x==("__debug__":Str))=false)
  (hr:readsIn G.K C mc=true) (e:findCls G.K (.ref C) mc name=some (.val (.str ⟨cs.toArray⟩ t))):SE G lv sc (.Attribute (.Name x np) name p) (fun σ Q=>Q (.str cs) σ):=fun σ Q hd A env X s ha he R=>
 fe (K:=fun v σ'=>v=.gl C∧Q (.str cs) σ') (uG ok hx hg hdb) (fun _=>rfl) ⟨rfl,hd⟩ ha he R fun val s1 v σ1 X1 k1 L1 n1 R1 W1=>by
  obtain ⟨rfl,k1⟩:=k1
  cases (W1.inv:val=.ref C)
  exact cls_value (R1.K ok) hr e rfl (Post.lift L1 n1 (Post.ret k1 (R1.toks _) (.str cs t)))
noncomputable def ll (C0 i:Nat) (o v:V) (σ:St) (Q:St→Prop):Prop:=lG C0 o σ fun l at_=>Q {σ with st:=gE l (.ns (gE i v at_)) σ.st}
theorem za {C0 i:Nat} {name:Str} {o v:V} {ov val:Value} {Q:St→Prop} {Q':Unit→Shared→Prop} (ok:G.Ok) (hC:ClsOk G.K C0) (hi:G.an[i]?=some name) (hn:takerIn G.K C0 name=some none) (h:ll C0 i o v σ Q) (R:Rel G X env σ s) (Wo:RepV X σ.nx o ov) (W:RepV X σ.nx v val)
  (k:∀ σ' s',Q σ'→σ'.nx=σ.nx→Rel G X env σ' s'→Q' () s'):wpAny (model G.prog G.w) A (setAttr ov name val) Q' bh s:=by
 apply bc;intro z_
 obtain ⟨l,a,at_,od,m,rfl,hl,rfl,hF,hk,I,h1,h2,h3,ho,hlk,h5⟩:=eT h R Wo
 apply z_;clear z_
 refine set_plain (R.K ok) I hC.hs ?_
 have R1:=R.toks (s.toks+1)
 refine osa_open (R1.K ok) I hC.hp hn fun b=>?_
 apply bc;intro z_
 obtain ⟨cd,hc,hd'⟩:=any_some hC.hd
 apply z_;clear z_
 have hx:=I.at_
 refine Qt (Qu (Qt (Qt (wpAny_loadPart hx (Qt ((looks_clsIn (R1.K ok) hc).here ?_))))))
 rw [hd']
 refine Qu (a:=some (X.ρ l)) (Qt (Qu (Qt ?_)))
 refine wpAny_nsSet1 h1 fun h' hn' hs'=>?_
 have hw:Within (fun x=>if x=name then some val else m x) G.an:=fun y hy=>by
  by_cases z:y=name
  ·subst z; exact QY hi
  ·exact h2 y (by simpa [z] using hy)
 apply bc;intro z_
 obtain ⟨o',es,ep,g1,g2,g3⟩:=hn'.count hw
 apply z_;clear z_
 refine Qt (wpAny_lookBehind g1 (by rw [g2]; exact pastItsLine_dict (by rw [QN]; have:=ok.anlen; omega)) ?_)
 refine Qu ?_
 refine k _ _ h5 rfl ?_
 exact R.upd (s':={s with heap:=h',toks:=s.toks+2}) hk (fun b hb o e=>(hs'.2 b hb).trans e) ⟨_,hn',hw,fun j y hy=>by
  rw [eB]
  by_cases z:j=i
  ·subst z
   rw [QI rfl]
   have:y=name:=by rw [hi] at hy; exact (Option.some.inj hy).symm
   subst this
   exact ⟨val,by simp,W⟩
  ·rw [QH z]
   have ny:¬ y=name:=fun w=>by
    subst w
    apply bc;intro z_
    obtain ⟨hj,ej⟩:=List.getElem?_eq_some_iff.mp hy
    obtain ⟨hi',ei⟩:=List.getElem?_eq_some_iff.mp hi
    apply z_;clear z_
    exact z ((List.getElem_inj ok.annd).mp (ej.trans ei.symm))
   have:=h3 j y hy
   simp only [ny,if_false]
   exact this⟩ rfl rfl R.gens
theorem Dy {o:PySem.Expr} {name:Str} {p:Pos} {do_:DE} {C0 i:Nat} (ok:G.Ok) (hC:ClsOk G.K C0) (hi:G.an[i]?=some name) (hn:takerIn G.K C0 name=some none) (ho:SE G lv sc o do_) :
  ST G lv sc (.Attribute o name p) (fun v σ Q=>do_ σ fun ov σ1=>ll C0 i ov v σ1 Q):=fun v σ Q hd A env X s val ha he R W=>by
 rw [assign_Attribute]
 refine Qt (Qw (ho.run hd ha he R fun ov s1 o1 σ1 X1 k1 L1 n1 R1 W1=>?_))
 refine Qt (Qx (Qt (Qw ?_)))
 refine za ok hC hi hn k1 R1 W1 (W.mono L1 n1) fun σ2 s2 q e R2=>wpAny_release ⟨σ2,X1,q,L1,by rw [e]; exact n1,R2⟩
theorem sj {name:Str} {C0 j:Nat} {f:Addr} {v:V} {val:Value} {P:Prop} {pl:_} {Q':_→Shared→Prop} (ok:G.Ok) (hC:ClsOk G.K C0) (hj:G.an[j]?=some name) (hf:findIn G.K (.ref C0) name=some (some (.ref f))) (ht:typeIn G.K (.ref f)=some (.type "function"))
  (h:lG C0 v σ fun _ at_=>noS (aj j at_) P) (R:Rel G X env σ s) (W:RepV X σ.nx v val) (k:P→Q' (.ref f,[val]) s):wpAny (model G.prog G.w) A (getMethod val name pl) Q' bh s:=by
 obtain ⟨l,a,at_,od,m,rfl,hl,rfl,hF,hk,I,h1,h2,h3,ho',hlk,k2⟩:=eT h R W
 obtain ⟨q,k2⟩:=noS.out k2
 have:=h3 j name hj
 rw [q] at this
 exact method_fn (R.K ok) I hC.hga hC.hk hf ht (by unfold shadowIn; have:=this; dsimp only at this ⊢; rw [hlk,this]; rfl) (k k2)
noncomputable def Ac (do_:DE) (C0 j:Nat) (D:List V→List V→DE):DC:=fun σ K=>do_ σ fun v σ1=>lG C0 v σ1 fun _ at_=>noS (aj j at_) (K (fun vs kvs=>D (v::vs) kvs) σ1)
theorem dB {o:PySem.Expr} {name:Str} {do_:DE} {C0 j:Nat} {f:Addr} {ks:List Str} {D:List V→List V→DE} (ok:G.Ok) (hC:ClsOk G.K C0) (hj:G.an[j]?=some name) (hf:findIn G.K (.ref C0) name=some (some (.ref f))) (ht:typeIn G.K (.ref f)=some (.type "function"))
  (ho:SE G lv sc o do_) (hc:CB G lv (.ref f) ks D):SM G lv sc o name ks (Ac do_ C0 j D):=fun σ K hd A env X s hA he R=>
 ho.run hd hA he R fun ov s1 v σ1 X1 k1 L1 n1 R1 W1=>fun pl Q' k=>sj ok hC hj hf ht k1 R1 W1 fun k1=>k _ _ _ _ _ _ k1 L1 n1 R1 (CFok.of (fv:=[v]) hc (.cons W1 .nil))
theorem FH:typeLookup (.type "method_descriptor") "__get__"=pure (some (.builtin "method_descriptor.__get__")):=by rw [typeLookup_type,builtinLookup_eq_fast]; kernel_rfl
theorem FI:typeLookup (.type "method_descriptor") "__set__"=pure none:=by rw [typeLookup_type,builtinLookup_eq_fast]; kernel_rfl
theorem FG:typeLookup (.type "method_descriptor") "__delete__"=pure none:=by rw [typeLookup_type,builtinLookup_eq_fast]; kernel_rfl
theorem lm:Slot "method_descriptor" "__get__" "method_descriptor.__get__":=
 .of (owner:="method_descriptor") (n:="__get__") (by rw [typeLookup_type,builtinLookup_eq_fast]; kernel_rfl) (by decide +kernel) (by decide +kernel) (by decide +kernel)
  (by first | exact .inl (by decide +kernel) | exact .inr (by decide +kernel)) (by rw [isSubtype_type]; kernel_rfl)
theorem oG:entryFor table "method_descriptor.__get__"=some Builtin.«method_descriptor.__get__»:=entryFor_of_tree (by kernel_rfl)
theorem pU (a b c:Value):argsOk "method_descriptor.__get__" ⟨[a,b,c],[]⟩:=by unfold argsOk; kernel_rfl
noncomputable abbrev fX (id:String) (a:Addr):Obj:={cls:=.type "builtin_function_or_method",data:=.fields #[.builtin id,.ref a]}
theorem nf (a:Addr) (xs:Array Value) (k:Nat) (sl:Array (Option Value)) (u:Tok) :
  Meets (Builtin.«object.__getattribute__» ⟨[.ref a,.str (Str.ofString "append") u],[]⟩) (fun A R s=>s.heap.get? a=some {cls:=.type "list",dict:=none,data:=.seq xs k,slots:=sl} ∧
   R (.ok (.ret (.ref s.heap.objs.size))) {s with heap:=s.heap.push (fX "list.append" a)}):=
 Meets.of_wp fun prog w A R s hs=>by
  apply bc;intro z_
  obtain ⟨hp,g,d,tk,os⟩:=s
  obtain ⟨hx,hs⟩:=hs
  apply z_;clear z_
  have hT:(⟨hp,g,d,tk,os⟩:Shared).TypeIs (.ref a) "list":=⟨_,hx,rfl⟩
  have g1:=slot_list_append.lookup
  have g2:=F.type_list_append
  have g3:=FH
  have g4:=FI
  have g5:=FG
  unfold Builtin.«object.__getattribute__»
  show wpAny _ _ (typeOf (.ref a) >>= _) _ _ _
  refine Qt (wpAny_typeOf hT ?_)
  refine Qt ?_
  unfold Builtin.ObjectAttr.find
  refine Qt (Qy g1 ?_)
  show wpAny _ _ (specialOf (.builtin "list.append") "__get__" >>= _) _ _ _
  unfold specialOf
  refine Qt (Qt (Qy g2 (Qy g3 ?_)))
  unfold Builtin.ObjectAttr.dataDescriptor?
  refine Qt (Qt ?_)
  show wpAny _ _ (Builtin.ObjectAttr.takesStores (.builtin "list.append") >>= _) _ _ _
  refine Qt ?_
  unfold Builtin.ObjectAttr.takesStores specialOf
  refine Qt (Qt (Qy g2 (Qy g4 ?_)))
  rw [QH (show ¬ (none:Option Value).isSome=true by decide)]
  refine Qt (Qt (Qy g2 (Qy g5 (Qu (Qu ?_)))))
  rw [QH (show ¬ (none:Option Value).isSome=true by decide)]
  refine Qu ?_
  unfold Builtin.ObjectAttr.ownThenClass
  dsimp only
  refine Qt ?_
  unfold Builtin.ObjectAttr.inOwnDict Builtin.ObjectAttr.ownDict
  repeat (any_goals (first | assumption | wp_step))
  refine codeAny_call_builtin lm.plain oG (lm.check _ _ _ _ _ _ _ _ g2 (pU _ _ _) ?_)
  unfold Builtin.«method_descriptor.__get__»
  repeat k_node
  exact ⟨_,rfl,hs⟩
theorem qK {l:Addr} {o:Obj} {items:List Value} {expr:Bool} {Q:Value→Shared→Prop} (ho:s.heap.get? l=some o) (hl:LObj "list" o items) (h:Q (.ref s.heap.objs.size) {s with heap:=s.heap.push (fX "list.append" l),toks:=s.toks+1}) :
  wpAny (model G.prog G.w) A (getAttr (.ref l) (Str.ofString "append") expr) Q bh s:=by
 apply bc;intro z_
 obtain ⟨c,dd,dt,sl⟩:=o
 obtain ⟨h1,h2,⟨ep,h3⟩,h4⟩:=hl
 dsimp only at h1 h2 h3 h4
 subst h1 h2 h3 h4
 obtain ⟨hp,g,d,tk,os⟩:=s
 apply z_;clear z_
 have hT:∀ tk',(⟨hp,g,d,tk',os⟩:Shared).TypeIs (.ref l) "list":=fun _=>⟨_,ho,rfl⟩
 have f3:=F.slot_list_getattribute.lookup
 unfold getAttr getAttrBy
 refine Qt (wpAny_mkText (Qw (Qt (wpAny_typeOf (hT _) (Qt (Qy f3 ?_))))))
 dsimp only
 rw [show (onTheHeap (.type "list") && Value.builtin "list.__getattribute__"==Value.builtin "object.__getattribute__")=false from by rw [show (onTheHeap (.type "list"))=false from by decide +kernel,Bool.false_and],QH (by decide)]
 unfold getAttrByItsOwn
 refine Qt (Qy (show hookBefore (.type "list")=pure none from rfl) ?_)
 refine Qt (wpAny_attempt (Qw ?_))
 unfold callGetattribute
 rw [show (expr && onTheHeap (Value.builtin "list.__getattribute__"))=false from Bool.and_false _,QH (by decide)]
 unfold boundAndCalled
 rw [F.slot_list_getattribute.bind]
 refine Qt (Qu ?_)
 show wpAny _ _ (call (.builtin "list.__getattribute__") [.ref l,.str (Str.ofString "append") tk]) _ _ _
 refine call_meets F.slot_list_getattribute (hT _) am_entry_list_getattribute (F.args_list_getattribute_2 _ _) (nf l items.toArray ep #[] tk) ⟨ho,?_⟩
 show wpAny _ _ (handedOut _) _ _ _
 exact Qu h
noncomputable def qJ (v:V) (σ:St) (Q:V→St→Prop):Prop:=hM v σ fun l _=>Q (.bm l) σ
theorem uC {e:PySem.Expr} {p:Pos} {d:DE} (ok:G.Ok) (he':SE G lv sc e d) (hb:∀ env,attributeBase e (Str.ofString "append") env (eval e env)=eval e env) :
  SE G lv sc (.Attribute e (Str.ofString "append") p) (fun σ Q=>d σ fun v σ1=>qJ v σ1 Q):=fun σ Q hd A env X s ha he R=>
 fe he' hb hd ha he R fun val s1 v σ1 X1 k1 L1 n1 R1 W1=>by
  refine gB R1 W1 k1 fun l xs o items hl q h1 h2 h3 k1=>?_
  refine qK h1 h2 ?_
  apply bc;intro z_
  obtain ⟨R2,L2⟩:=R1.still (s':={s1 with heap:=s1.heap.push (fX "list.append" (X1.ρ l)),toks:=s1.toks+1}) aH (fun _ _ e=>QB _ e) (QG _ rfl) rfl rfl R1.gens ok
  apply z_;clear z_
  exact ⟨_,σ1,_,k1,L1.trans L2 n1,n1,R2,.bm l _ hl (QI rfl)⟩
theorem rj:∃ sig,Manifest.signature? "list.append"=some sig∧∀ a b,Bind.checkArgs "list.append" {sig with full:=s!"{Bind.lastOf "list"}.{Bind.lastOf "list.append"}"} ⟨[a,b],[]⟩=pure ():=by
 rw [signature?_of (id:="list.append") (n:=['d','n','e','p','p','a']) (o:=['t','s','i','l']) (by kernel_rfl) F.owner_list]
 refine ⟨⟨.oneArg,"list.append","append",.self,[⟨"object",.posOnly,true⟩]⟩,by kernel_rfl,fun a b=>by kernel_rfl⟩
theorem mQ {l:Addr} {o:Obj} {items:List Value} {v:Value} {Q:Unit→Shared→Prop} (ho:s.heap.get? l=some o) (hl:LObj "list" o items) (q:Q () s):wpAny (model G.prog G.w) A (checkBoundCall "list.append" ⟨[.ref l,v],[]⟩) Q bh s:=by
 apply bc;intro z_
 obtain ⟨sig,h1,h2⟩:=rj
 apply z_;clear z_
 have hT:s.TypeIs (.ref l) "list":=⟨o,ho,hl.1⟩
 have hk:builtinKind "list.append"=some .method:=by decide +kernel
 unfold checkBoundCall
 rw [h1,hk]
 dsimp only
 rw [QH (by decide)]
 refine Qt (wpAny_isInstance hT (b:=false) (by rw [isSubtype_type]; kernel_rfl) ?_)
 rw [show (Manifest.varargsMethods.contains "list.append" || false)=false by decide +kernel,QH (by decide)]
 unfold isType
 refine Qt (Qt (wpAny_loadPart ho ?_))
 apply bc;intro z_
 obtain ⟨_,_,⟨ep,hd⟩,_⟩:=hl
 apply z_;clear z_
 rw [hd]
 refine Qu ?_
 dsimp only
 rw [QH QM]
 refine Qt (wpAny_typeOf hT ?_)
 show wpAny _ _ (Bind.checkArgs "list.append" _ _) _ _ _
 rw [h2]
 exact Qu q
theorem nI {as:Args}:(Code.builtin "list.append" as).quiet=true:=Code.quiet_builtin _ (by decide +kernel)
theorem vB {l:Nat} {a:Addr} {xs:List V} {v:V} {val:Value} {Q:Value→Shared→Prop} (ho:s.heap.get? a=some (fX "list.append" (X.ρ l))) (q:aj l σ.st=some (.list xs)) (hz:xs.length≤1000000) (R:Rel G X env σ s) (Wv:RepV X σ.nx v val)
  (k:∀ s',Rel G X env (gr l (.list (xs++[v])) σ) s'→Q .none s'):wpAny (model G.prog G.w) A (call (.ref a) [val]) Q bh s:=by
 refine wpAny_call (codeAny_of_tree ?_)
 show wpAny _ A.in1 (callAny (.ref a) ⟨[val],[]⟩) _ _ s
 simp only [callAny]
 refine Qt (QA ho ?_)
 simp only [show (Value.type "builtin_function_or_method"==Value.type "method" || Value.type "builtin_function_or_method"==Value.type "builtin_function_or_method" || Value.type "builtin_function_or_method"==Value.type "method-wrapper")=true by decide]
 refine wpAny_ite ?_
 rw [QI (by decide)]
 apply bc;intro z_
 obtain ⟨_,o,items,h1,h2,h3⟩:=R.st l _ q
 apply z_;clear z_
 refine Qt (mQ h1 h2 ?_)
 refine Qt (Qu (Qu ?_))
 refine ⟨nI,Q2 entry_list_append (Qv (kj q h1 h2 h3 hz R Wv k) (fun fin s' y_=>?_) fun _ _ z=>z.elim)⟩
 apply bc;intro z_
 obtain ⟨r,e,z⟩:=y_
 apply z_;clear z_
 subst e
 exact z
theorem sr {α:Type} {l:Nat} {a b:α} {st:List (Nat×α)}:gE l a (gE l b st)=gE l a st:=by
 induction st with
 | nil=>rw [nD,nD,eE,QI rfl]
 | cons p r ih=>
  obtain ⟨m,c⟩:=p
  rw [eE,eE]
  by_cases q:l=m
  ·rw [QI q,QI q,eE,QI rfl]
  ·rw [QH q,QH q,eE,QH q,ih]
theorem Rel.retype {l:Nat} {o o':AO} (R:Rel G X env σ s) (hl:aj l σ.st=some o) (h:RepO G X σ.nx s.heap (X.ρ l) o→RepO G X σ.nx s.heap (X.ρ l) o'):Rel G X env {σ with st:=gE l o' σ.st} s:=
 R.upd hl (fun _ _ _ e=>e) (h (R.st l o hl).2) rfl rfl R.gens
theorem oV {l:Nat} {o:AO} {st:List (Nat×AO)}:aj l (gE l o st)=some o:=by rw [eB,QI rfl]
noncomputable def Oq (o:Option AO) (l:Nat) (v:V) (σ:St) (Q:V→St→Prop):Prop:=match o with
 | some (.list xs)=>fits xs.length (Q .non (gr l (.list (xs++[v])) σ))
 | some (.wds ss)=>bv v fun s=>fits ss.length (Q .non (gr l (.wds (ss++[s])) σ))
 | _=>False
noncomputable def Am (l:Nat) (vs:List V) (σ:St) (Q:V→St→Prop):Prop:=nV vs fun v=>Oq (aj l σ.st) l v σ Q
theorem CE {l:Nat} {a:Addr} (W:X.F a=some (fX "list.append" (X.ρ l))) (hl:l<n):CFok G lv env X n (.ref a) [] [] (fun vs _=>Am l vs):=by
 intro A X2 σ2 s2 vs kvs Q vals kvals ha L hn hd R2 Wv Wk
 have ho:=R2.sub _ _ (L.F _ _ W)
 rw [← L.ρ l hl] at ho
 refine ⟨fun Q' k=>?_,Wv.on1_ hd fun v val Wv' hd=>?_⟩
 ·unfold keeperOf
  exact Qt (QA ho (Qu (k .machine (by decide))))
 ·cases q:aj l σ2.st with
  | none=>rw [q] at hd; exact hd.elim
  | some ao=>
   rw [q] at hd
   cases ao with
   | list xs=>
    apply bc;intro z_
    obtain ⟨hz,hd⟩:=fits.out hd
    apply z_;clear z_
    exact vB ho q hz R2 Wv' fun s' R'=>⟨_,_,X2,hd,.refl,QF _,R',.non⟩
   | wds ss=>
    refine Wv'.str_ hd fun x t hd=>?_
    apply bc;intro z_
    obtain ⟨hz,hd⟩:=fits.out hd
    apply z_;clear z_
    refine vB ho (oV (o:=.list (ss.map V.str))) (by rw [List.length_map]; exact hz) (R2.retype (o':=.list (ss.map V.str)) q fun r=>r) (.str x t) fun s' R4=>?_
    have R5:Rel G X2 env {σ2 with st:=gE l (.wds (ss++[x])) (gE l (.list (ss.map V.str++[.str x])) (gE l (.list (ss.map V.str)) σ2.st))} s':=R4.retype (l:=l) oV fun r=>by
     show RepO G X2 _ _ _ (.list ((ss++[x]).map V.str))
     rw [List.map_append]; exact r
    rw [sr,sr] at R5
    exact ⟨.non,_,X2,hd,.refl,QF _,R5,.non⟩
   | _=>exact hd.elim
noncomputable def ah (env:Env):List Addr:=env.locals::(if env.frame=some env.locals then env.cells.filterMap (fun p=>env.cells.lookup p.1) else [])
set_option tactic.hygienic true in
theorem jf {b:Addr} (h:b∈ah env):b=env.locals∨(env.frame=some env.locals∧∃ x,env.cells.lookup x=some b):=by
 unfold ah at h
 rcases List.mem_cons.mp h with h | h
 ·exact .inl h
 ·split at h
  ·rename_i q
   apply bc;intro z_
   obtain ⟨p,hp,e⟩:=List.mem_filterMap.mp h
   apply z_;clear z_
   exact .inr ⟨q,p.1,e⟩
  ·first | exact nS h | exact nB h | cases h
theorem cM:env.locals∈ah env:=by unfold ah; exact QL ..
theorem dM {x:Str} {c:Addr} (hf:env.frame=some env.locals) (h:env.cells.lookup x=some c):c∈ah env:=by
 unfold ah
 rw [QI hf]
 refine QE _ (List.mem_filterMap.mpr ⟨(x,c),mem_of_lookup h,h⟩)
theorem bp (R:Rel G X env σ s) {b:Addr} (h:b∈ah env):X.F b=none∧(∀ l o,aj l σ.st=some o→X.ρ l≠b)∧b≠G.T∧∃ o,s.heap.get? b=some o∧Obj.loose o=true:=by
 rcases jf h with rfl | ⟨hf,x,hx⟩
 ·refine ⟨R.loc.freeL.1,R.loc.freeL.2.1,R.loc.freeL.2.2,?_⟩
  apply bc;intro z_
  obtain ⟨m,cm,⟨o,es,ep,ho,hd,_⟩,_⟩:=R.loc.ns
  apply z_;clear z_
  exact ⟨o,ho,by unfold Obj.loose; rw [hd]⟩
 ·apply bc;intro z_
  obtain ⟨a,b',c,d⟩:=R.loc.freeC hf x b hx
  apply z_;clear z_
  refine ⟨a,b',d,?_⟩
  apply bc;intro z_
  obtain ⟨m,cm,_,h2,_⟩:=R.loc.ns
  obtain ⟨o,ho,hd⟩:=h2 x b hx
  apply z_;clear z_
  exact ⟨o,ho,by unfold Obj.loose; rw [hd]⟩
theorem gX (R:Rel G X env σ s):X.le n (X.frz (ah env) s.heap):=⟨fun _ _=>rfl,fun a o e=>by
 show (if a∈ah env then s.heap.get? a else X.F a)=some o
 by_cases q:a∈ah env
 ·rw [QI q]; exact R.sub _ _ e
 ·rw [QH q]; exact e,fun a o e=>by
 show (if a∈ah env then false else X.P a)=X.P a
 rw [QH (fun q=>by rw [(bp R q).1] at e; cases e)]⟩
theorem Rel.enter {lo:List (Nat×V)} {m cm:Str→Option Value} (ok:G.Ok) (R:Rel G X env σ s) (hs:∃ h tk,s1={s with heap:=h,toks:=tk}) (keep:∀ b o,s.heap.get? b=some o→s1.heap.get? b=some o)
  (hns:s1.heap.Ns env'.locals m) (fresh:s.heap.objs.size≤env'.locals) (hcell:∀ x c,env'.cells.lookup x=some c→s1.heap.IsCell c (cm x)) (apart:env'.cells.Pairwise fun x y=>x.2≠y.2) (above:∀ x c,(x,c)∈env'.cells→env'.locals<c)
  (hfr:env'.frame=some env'.locals)
  (hlo:∀ i v,aj i lo=some v→∃ x k val,env'.scope.names[i]?=some (x,k)∧RepV X σ.nx v val∧((k=.local∧m x=some val)∨((k=.cell∨k=.free)∧(env'.cells.lookup x).isSome=true∧cm x=some val))) :
  Rel G (X.frz (ah env) s.heap) env' ⟨lo,σ.st,σ.nx⟩ s1:=by
 have L:X.le σ.nx (X.frz (ah env) s.heap):=gX R
 have FF:∀ {a:Addr} {o:Obj},(X.frz (ah env) s.heap).F a=some o→s.heap.get? a=some o:=fun {a o} e=>by
  have e:(if a∈ah env then s.heap.get? a else X.F a)=some o:=e
  by_cases q:a∈ah env
  ·rw [QI q] at e; exact e
  ·rw [QH q] at e; exact R.sub _ _ e
 have FN:∀ {a:Addr},X.F a=none→a ∉ ah env→(X.frz (ah env) s.heap).F a=none:=fun {a} e q=>by
  show (if a∈ah env then s.heap.get? a else X.F a)=none
  rw [QH q]; exact e
 have big:∀ {a:Addr},s.heap.objs.size≤a→(X.frz (ah env) s.heap).F a=none:=fun {a} h=>by
  cases q:(X.frz (ah env) s.heap).F a with
  | none=>rfl
  | some o=>exact absurd (QO (FF q)) (QT h)
 have live:∀ {a:Addr} {l:Nat} {o:AO},s.heap.objs.size≤a→aj l σ.st=some o→X.ρ l≠a:=fun {a l o} h hl w=>by
  apply bc;intro z_
  obtain ⟨ob,z⟩:=R.there hl
  apply z_;clear z_
  rw [w] at z
  exact absurd (QO z) (QT h)
 have notT:∀ {a:Addr},s.heap.objs.size≤a→a≠G.T:=fun {a} h w=>by
  have:=R.tab.1
  rw [← w] at this
  exact absurd (QO this) (QT h)
 have cbig:∀ {x:Str} {c:Addr},env'.cells.lookup x=some c→s.heap.objs.size≤c:=fun e=>QC fresh (Nat.le_of_lt (above _ _ (mem_of_lookup e)))
 apply bc;intro z_
 obtain ⟨h',tk',rfl⟩:=hs
 apply z_;clear z_
 refine ⟨fun a o e=>keep _ _ (FF e),fun a o e q=>L.F _ _ (R.base a o e q),fun l o e=>⟨FN (R.own l o e).1 fun q=>(bp R q).2.1 l o e rfl,(R.own l o e).2⟩,R.inj,R.big,fun l o e=>⟨(R.st l o e).1,?_⟩,⟨keep _ _ R.tab.1,FN R.tab.2.1 fun q=>(bp R q).2.2.1 rfl,ok.tbmono _ _ _ (fun a o e _=>L.F _ _ e) R.tab.2.2⟩,?_,R.os,R.drawn,R.gens,fun a o e=>let ⟨z1,z2,z3,z4,z5,z6⟩:=R.hp a o e; ⟨keep _ _ z1,FN z2 (fun q=>(jf q).elim z4 fun ⟨_,x,hx⟩=>z5 x _ hx rfl),z3,fun w=>absurd (QO z1) (QT (by rw [w]; exact fresh)),fun x c e w=>absurd (QO z1) (QT (by rw [← w]; exact cbig e)),z6⟩⟩
 ·apply bc;intro z_
  obtain ⟨ob,z⟩:=(R.st l o e).2.there
  apply z_;clear z_
  exact (R.st l o e).2.go L (QF _) (f8 keep z)
 ·refine ⟨⟨m,cm,hns,hcell,fun i v e=>?_⟩,⟨big fresh,fun l o e=>live fresh e,notT fresh⟩,fun _ x c e=>⟨big (cbig e),fun l o hl=>live (cbig e) hl,Q7 (above _ _ (mem_of_lookup e)),notT (cbig e)⟩,fun w=>absurd hfr w,apart⟩
  apply bc;intro z_
  obtain ⟨x,k,val,a,b,c⟩:=hlo i v e
  apply z_;clear z_
  exact ⟨x,k,val,a,b.mono L (QF _),c⟩
theorem RepO.drop {h:Heap} {a:Addr} {o:AO} (hS:∀ b∈S,∀ o,X.F b=some o→fy X b o) (r:RepO G X n h a o):RepO G (X.drop S) n h a o:=r.imp (fun z=>z.drop hS) rfl
theorem Rel.leave (ok:G.Ok) (R:Rel G X env σ s) (R2:Rel G X2 env' σ2 s2) (L:(X.frz (ah env) s.heap).le σ.nx X2) (hn:σ.nx≤σ2.nx) :
  Rel G (X2.drop (ah env)) env {σ2 with lo:=σ.lo} s2∧X.le σ.nx (X2.drop (ah env))∧(∀ b∈ah env,∀ o,X2.F b=some o→fy X2 b o):=by
 have frz:∀ {b:Addr},b∈ah env→∃ o,s.heap.get? b=some o∧X2.F b=some o∧Obj.loose o=true:=fun {b} hb=>by
  apply bc;intro z_
  obtain ⟨_,_,_,o,ho,hl⟩:=bp R hb
  apply z_;clear z_
  exact ⟨o,ho,L.F b o (by show (if b∈ah env then s.heap.get? b else X.F b)=some o; rw [QI hb]; exact ho),hl⟩
 have hS:∀ b∈ah env,∀ o,X2.F b=some o→fy X2 b o:=fun b hb o e=>by
  apply bc;intro z_
  obtain ⟨o',ho',e',hl⟩:=frz hb
  apply z_;clear z_
  rw [e] at e'; cases e'
  refine ⟨hl,.inl ((L.P b o (by show (if b∈ah env then s.heap.get? b else X.F b)=some o; rw [QI hb]; exact ho')).trans ?_)⟩
  show (if b∈ah env then false else X.P b)=false
  rw [QI hb]
 have DF:∀ {a:Addr} {o:Obj},(X2.drop (ah env)).F a=some o→X2.F a=some o:=fun {a o} e=>by
  have e:(if a∈ah env then none else X2.F a)=some o:=e
  by_cases q:a∈ah env
  ·rw [QI q] at e; cases e
  ·rw [QH q] at e; exact e
 have DN:∀ {a:Addr},X2.F a=none→(X2.drop (ah env)).F a=none:=fun {a} e=>by
  show (if a∈ah env then none else X2.F a)=none
  split
  ·rfl
  ·exact e
 have D0:∀ {a:Addr},a∈ah env→(X2.drop (ah env)).F a=none:=fun q=>QI q
 have DU:∀ {a:Addr} {o:Obj},X2.F a=some o→a ∉ ah env→(X2.drop (ah env)).F a=some o:=fun {a o} e q=>by
  show (if a∈ah env then none else X2.F a)=some o
  rw [QH q]; exact e
 have up:∀ {a:Addr} {o:Obj},X.F a=some o→X2.F a=some o:=fun {a o} e=>L.F _ _ ((gX R (n:=0)).F _ _ e)
 have out:∀ {a:Addr} {o:Obj},X.F a=some o→a ∉ ah env:=fun e q=>by rw [(bp R q).1] at e; cases e
 have LL:X.le σ.nx (X2.drop (ah env)):=⟨fun l hl=>L.ρ l hl,fun a o e=>DU (up e) (out e),fun a o e=>(L.P a o ((gX R (n:=0)).F _ _ e)).trans ((gX R (n:=0)).P _ _ e)⟩
 refine ⟨⟨fun a o e=>R2.sub _ _ (DF e),fun a o e q=>DU (R2.base a o e q) (out (R.base a o e q)),fun l o e=>⟨DN (R2.own l o e).1,(R2.own l o e).2⟩,R2.inj,R2.big,fun l o e=>⟨(R2.st l o e).1,(R2.st l o e).2.drop hS⟩,⟨R2.tab.1,DN R2.tab.2.1,ok.tbmono _ _ _ (fun a o e hl=>Wd.drop_F hS e hl) R2.tab.2.2⟩,?_,R2.os,R2.drawn,R2.gens,fun a o e=>let ⟨z1,z2,z3,_,_,z6⟩:=R2.hp a o e; let ⟨_,_,_,w4,w5,_⟩:=R.hp a o e; ⟨z1,DN z2,z3,w4,w5,z6⟩⟩,LL,hS⟩
 have same:∀ {b:Addr},b∈ah env→s2.heap.get? b=s.heap.get? b:=fun hb=>by
  apply bc;intro z_
  obtain ⟨o,a,b,_⟩:=frz hb
  apply z_;clear z_
  rw [a]; exact R2.sub _ _ b
 have apart:∀ {b:Addr},b∈ah env→∀ l o,aj l σ2.st=some o→(X2.drop (ah env)).ρ l≠b:=fun {b} hb l o e w=>by
  apply bc;intro z_
  obtain ⟨o',_,c,_⟩:=frz hb
  apply z_;clear z_
  have:=(R2.own l o e).1
  have w:X2.ρ l=b:=w
  rw [w,c] at this; cases this
 refine R.loc.go LL hn (same cM) (fun x c e=>?_) ⟨D0 cM,apart cM⟩ (fun hf x c e=>⟨D0 (dM hf e),apart (dM hf e)⟩)
 by_cases hf:env.frame=some env.locals
 ·exact same (dM hf e)
 ·apply bc;intro z_
  obtain ⟨o,z⟩:=R.loc.frzC hf x c e
  apply z_;clear z_
  rw [R.sub _ _ z]; exact R2.sub _ _ (up z)
set_option tactic.hygienic true in
theorem cE (x:Str):∀ (names:List (Str×NameKind)) (n:Nat) (acc:List (Str×Addr)),(names.lookup x=some .cell∨(acc.lookup x).isSome=true)→((cellsFrom n names acc).lookup x).isSome=true
 | [],n,acc,h=>by
  rcases h with h | h
  ·simp at h
  ·exact h
 | (y,k)::r,n,acc,h=>by
  unfold cellsFrom
  rw [List.lookup_cons] at h
  by_cases q:x=y
  ·subst q
   simp only [beq_self_eq_true] at h
   split
   ·exact cE x r _ _ (.inr (by simp))
   ·rename_i hk
    refine cE x r _ _ ?_
    rcases h with h | h
    ·simp at h; subst h; simp at hk
    ·exact .inr h
  ·have:(x==y)=false:=by simpa using q
   rw [this] at h
   split
   ·exact cE x r _ _ (h.imp id fun h=>by rw [List.lookup_cons,this]; exact h)
   ·exact cE x r _ _ h
theorem lU {kindOf:Str→Option NameKind} {x:Str}:∀ {binds:List (Str×Value)} {m:Str→Option Value},x ∉ binds.map (·.1)→bindL kindOf binds m x=m x
 | [],_,_=>rfl
 | (y,v)::r,m,h=>by
  simp only [List.map_cons,List.mem_cons,not_or] at h
  unfold bindL
  rw [lU h.2]
  split
  ·exact QH h.1
  ·rfl
theorem lT {kindOf:Str→Option NameKind} {x:Str}:∀ {binds:List (Str×Value)} {m:Str→Option Value},x ∉ binds.map (·.1)→bindC kindOf binds m x=m x
 | [],_,_=>rfl
 | (y,v)::r,m,h=>by
  simp only [List.map_cons,List.mem_cons,not_or] at h
  unfold bindC
  rw [lT h.2]
  split
  ·rfl
  ·exact QH h.1
theorem ff {kindOf:Str→Option NameKind} {x:Str} {val:Value} (hk:kindOf x=some .local):∀ {binds:List (Str×Value)} {m:Str→Option Value},(binds.map (·.1)).Nodup→(x,val)∈binds→bindL kindOf binds m x=some val
 | [],_,_,h=>by cases h
 | (y,v)::r,m,nd,h=>by
  simp only [List.map_cons,List.nodup_cons] at nd
  rcases List.mem_cons.mp h with e | h
  ·first | exact nS e | exact nB e | cases e
   unfold bindL
   rw [lU nd.1,QI hk,QI rfl]
  ·unfold bindL; exact ff hk nd.2 h
theorem oy {kindOf:Str→Option NameKind} {x:Str} {val:Value} (hk:kindOf x=some .cell):∀ {binds:List (Str×Value)} {m:Str→Option Value},(binds.map (·.1)).Nodup→(x,val)∈binds→bindC kindOf binds m x=some val
 | [],_,_,h=>by cases h
 | (y,v)::r,m,nd,h=>by
  simp only [List.map_cons,List.nodup_cons] at nd
  rcases List.mem_cons.mp h with e | h
  ·first | exact nS e | exact nB e | cases e
   unfold bindC
   rw [lT nd.1,QH (by rw [hk]; decide),QI rfl]
  ·unfold bindC; exact oy hk nd.2 h
inductive BindsOk (names:List (Str×NameKind)) (X:Wd) (n:Nat):List (Nat×V)→List (Str×Value)→Prop
 | nil:BindsOk names X n [] []
 | cons {i:Nat} {v:V} {x:Str} {val:Value} {k:NameKind} {lo:List (Nat×V)} {binds:List (Str×Value)} (h:names[i]?=some (x,k)) (hk:k=.local∨k=.cell) (W:RepV X n v val) (r:BindsOk names X n lo binds):BindsOk names X n ((i,v)::lo) ((x,val)::binds)
set_option tactic.hygienic true in
theorem BindsOk.look {names:List (Str×NameKind)} {X:Wd} {n:Nat} {lo:List (Nat×V)} {binds:List (Str×Value)} (h:BindsOk names X n lo binds) {i:Nat} {v:V} (e:aj i lo=some v) :
  ∃ x k val,names[i]?=some (x,k)∧(k=.local∨k=.cell)∧RepV X n v val∧(x,val)∈binds:=by
 induction h with
 | nil=>cases e
 | cons h hk W r ih=>
  rw [am] at e
  split at e
  ·rename_i q
   subst q
   cases e
   exact ⟨_,_,_,h,hk,W,QL ..⟩
  ·apply bc;intro z_
   obtain ⟨x,k,val,a,b,c,d⟩:=ih e
   apply z_;clear z_
   exact ⟨x,k,val,a,b,c,QE _ d⟩
theorem BindsOk.names {names:List (Str×NameKind)} {X:Wd} {n:Nat} {lo:List (Nat×V)} {binds:List (Str×Value)} (h:BindsOk names X n lo binds):∀ p∈binds,∃ (i:Nat) (k:NameKind),names[i]?=some (p.1,k)∧(k=.local∨k=.cell):=by
 induction h with
 | nil=>intro p hp; cases hp
 | cons h hk W r ih=>
  intro p hp
  rcases List.mem_cons.mp hp with rfl | hp
  ·exact ⟨_,_,h,hk⟩
  ·exact ih p hp
theorem dN {names:List (Str×NameKind)} (nd:(names.map (·.1)).Nodup) {i:Nat} {x:Str} {k:NameKind} (h:names[i]?=some (x,k)):names.lookup x=some k:=by
 induction names generalizing i with
 | nil=>simp at h
 | cons y r ih=>
  obtain ⟨y,ky⟩:=y
  simp only [List.map_cons,List.nodup_cons] at nd
  cases i with
  | zero=>simp at h; obtain ⟨rfl,rfl⟩:=h; simp [List.lookup_cons]
  | succ i=>
   simp at h
   have hm:x∈r.map (·.1):=List.mem_map.mpr ⟨(x,k),QY h,rfl⟩
   have hne:(x==y)=false:=by
    cases q:x==y with
    | false=>rfl
    | true=>rw [beq_iff_eq.mp q] at hm; exact absurd hm nd.1
   rw [List.lookup_cons,hne]; exact ih nd.2 h
noncomputable def mx (fl:Fl):V:=match fl with
 | .ret v=>v
 | _=>.non
structure FnOk (G:Glob) (f:Addr) (fd:FuncData) (body:List PySem.Stmt) (sc:Sc):Prop where
 at_:∃ o,G.K.lookup f=some o∧o.data=.func fd
 body:fd.body=.stmts body
 clo:fd.closure=[]
 gl:fd.globals=mainGlobals
 bi:fd.builtins=builtinsNs
 co:fd.scope.isCoroutine=false
 gen:fd.scope.isGenerator=false
 kind:fd.scope.kind=.function
 code:∃ c oc vs t,fd.code=.ref c∧G.K.lookup c=some oc∧oc.data=.fields vs∧vs[1]?=some (.str fd.qualname t)
 names:sc.names=fd.scope.names
 fn:sc.fn=true
 nd:(sc.names.map (·.1)).Nodup
 codeSc:sc.code≠0→fd.code=.ref sc.code∧sc.qual=fd.qualname++".<locals>."
noncomputable abbrev PW:=List V→List V→St→(List (Nat×V)→St→Prop)→Prop
inductive BindEnd (G:Glob) (X:Wd) (env:Env) (σ:St) (sc:Sc) (K:List (Nat×V)→St→Prop) (h:Heap) (binds:List (Str×Value)) (s1:Shared):Prop
 | mk (lo:List (Nat×V)) (σ1:St) (X1:Wd) (q:K lo σ1) (L:X.le σ.nx X1) (hn:σ.nx≤σ1.nx) (elo:σ1.lo=σ.lo) (R:Rel G X1 env σ1 s1) (B:BindsOk sc.names X1 σ1.nx lo binds) (nd:(binds.map (·.1)).Nodup) (kb:∀ b o,h.get? b=some o→s1.heap.get? b=some o)
inductive FnEnd (G:Glob) (X:Wd) (env:Env) (n:Nat) (Q:V→St→Prop) (h:Heap) (r:Result) (s':Shared):Prop
 | mk (v:Value) (e:r=.ok (.ret v)) (z:Post G X env n Q v s') (same:∀ b∈ah env,s'.heap.get? b=h.get? b)
noncomputable def P6 (G:Glob) (fd:FuncData) (sc:Sc) (ks:List Str) (d:PW):Prop:=∀ vs kvs σ K,d vs kvs σ K→∀ A env X s vals kvals,Rel G X env σ s→RepVs X σ.nx vs vals→RepVs X σ.nx kvs kvals →
 wpAny (model G.prog G.w) A (bindArgs fd ⟨vals,ks.zip kvals⟩) (BindEnd G X env σ sc K s.heap) bh s
noncomputable def FN (G:Glob) (lv:Nat) (f:Addr) (ks:List Str) (D:List V→List V→DE):Prop:=(∃ o fd,G.K.lookup f=some o∧o.data=.func fd)∧∀ vs kvs σ Q,D vs kvs σ Q→∀ A env X s vals kvals,AOk lv A→Rel G X env σ s→RepVs X σ.nx vs vals→RepVs X σ.nx kvs kvals →
 codeAny (model G.prog G.w) A (.call (.ref f) ⟨vals,ks.zip kvals⟩) (FnEnd G X env σ.nx Q s.heap) s
theorem FN.cb {f:Addr} {ks:List Str} {D:List V→List V→DE} (ok:G.Ok) (h:FN G lv f ks D):CB G lv (.ref f) ks D:=fun vs kvs σ Q hd A env X s vals kvals ha R W Wk=>by
 apply bc;intro z_
 obtain ⟨⟨o,fd,ho,hdat⟩,h⟩:=h
 apply z_;clear z_
 refine ⟨fun Q' k=>?_,wpAny_call (codeAny_mono (h vs kvs σ Q hd A env X s vals kvals ha R W Wk) fun r s' ⟨v,e,z,_⟩=>by subst e; exact z)⟩
 unfold keeperOf
 refine Qt (QA (R.K ok _ _ ho) ?_)
 rw [hdat]
 exact Qu (k .frame (by decide))
theorem Rel.leave_same (R:Rel G X env σ s) (R2:Rel G X2 env' σ2 s2) (L:(X.frz (ah env) s.heap).le n X2):∀ b∈ah env,s2.heap.get? b=s.heap.get? b:=fun b hb=>by
 apply bc;intro z_
 obtain ⟨_,_,_,o,ho,hl⟩:=bp R hb
 apply z_;clear z_
 rw [ho]
 exact R2.sub _ _ (L.F b o (by show (if b∈ah env then s.heap.get? b else X.F b)=some o; rw [QI hb]; exact ho))
theorem aQ {f:Addr} {fd:FuncData} {body:List PySem.Stmt} {ks:List Str} {bd:PW} {db:DS} (ok:G.Ok) (F:FnOk G f fd body sc) (hbd:P6 G fd sc ks bd) (hb:i8 G lv sc body db) :
  FN G (lv+1) f ks (fun vs kvs σ Q=>bd vs kvs σ fun lo σ1=>db ⟨lo,σ1.st,σ1.nx⟩ fun fl σ'=>Q (mx fl) {σ' with lo:=σ.lo}):=by
 apply bc;intro z_
 obtain ⟨⟨o,ho,hdat⟩,hbody,hclo,hgl,hbi,hco,hgen,hkd,⟨c,oc,cvs,t,hc1,hc2,hc3,hc4⟩,hnm,hfn,hnd,hcs⟩:=F
 apply z_;clear z_
 refine ⟨⟨o,fd,ho,hdat⟩,fun vs kvs σ Q hd A env X s vals kvals ha R W Wk=>?_⟩
 have hroom:A.depth<recursionLimit:=ha.room
 refine codeAny_call_function hroom (R.K ok _ _ ho) hdat hco hgen hbody ⟨c,oc,cvs,t,hc1,R.K ok _ _ hc2,hc3,hc4⟩ ?_
 refine Qv (hbd vs kvs σ _ hd A.in1 env X s vals kvals R W Wk) (fun binds s1 y_=>?_) fun _ _ z=>z.elim
 apply bc;intro z_
 obtain ⟨lo,σ1,X1,q1,L1,n1,elo,R1,B,ndb,kb⟩:=y_
 apply z_;clear z_
 rw [hclo,hgl,hbi]
 refine wpAny_newFunctionEnv_cells hkd (fun p hp=>?_) fun env' he' s2 x=>?_
 ·apply bc;intro z_
  obtain ⟨i,k,h,hk⟩:=B.names p hp
  apply z_;clear z_
  have hl:=dN hnd h
  rw [hnm] at hl
  rcases hk with rfl | rfl
  ·exact .inl hl
  ·exact .inr ⟨hl,cE _ _ _ _ (.inl hl)⟩
 ·apply bc;intro z_
  obtain ⟨⟨hsame,hns,hkeep,hfresh⟩,hcell,hapart,habove⟩:=x
  apply z_;clear z_
  have hkof:∀ {i:Nat} {x:Str} {k:NameKind},sc.names[i]?=some (x,k)→env'.kindOf x=some k:=fun h=>by
   have:=dN hnd h
   rw [hnm] at this
   rw [he']; exact this
  have eC:env'.cells=cellsFrom (s1.heap.objs.size+1) fd.scope.names []:=by rw [he']; rfl
  have R2:=R1.enter (s1:=s2) (env':=env') (lo:=lo) ok hsame hkeep hns hfresh hcell hapart habove (by rw [he']; rfl) (fun i v e=>by
   apply bc;intro z_
   obtain ⟨x,k,val,h,hk,Wv,hm⟩:=B.look e
   apply z_;clear z_
   refine ⟨x,k,val,by rw [he']; show fd.scope.names[i]?=_; rw [← hnm]; exact h,Wv,?_⟩
   rcases hk with rfl | rfl
   ·exact .inl ⟨rfl,ff (hkof h) ndb hm⟩
   ·refine .inr ⟨.inl rfl,?_,oy (hkof h) ndb hm⟩
    rw [eC]
    have hl:=dN hnd h
    rw [hnm] at hl
    exact cE _ _ _ _ (.inl hl))
  have hE:EOk sc env':=by
   refine ⟨by rw [he']; exact hnm.symm,by rw [he']; exact hkd,by rw [he']; rfl,by rw [he']; rfl,hnd,fun _=>by rw [he']; rfl,fun x hx=>?_,fun h=>by rw [he']; exact ⟨(hcs h).1,(hcs h).2.symm⟩⟩
   rw [eC]
   rw [hnm] at hx
   exact cE _ _ _ _ (.inl hx)
  have hA:AOk lv (A.deeper env'):=ha.up 1 3 rfl rfl rfl (by decide) (by decide)
  refine ⟨(R1.nolimit ok).keeps hkeep,codeAny_func ?_⟩
  refine Qv (hb ⟨lo,σ1.st,σ1.nx⟩ _ q1 (A.deeper env') env' _ s2 hA hE R2) (fun fl s3 y_=>?_) fun _ _ z=>z.elim
  apply bc;intro z_
  obtain ⟨fv,σ3,X3,q3,L3,n3,R3,W3⟩:=y_
  obtain ⟨R4,L4,hS⟩:=R1.leave ok R3 L3 n3
  apply z_;clear z_
  rw [elo] at R4
  refine ⟨_,rfl,⟨_,_,_,q3,L1.trans L4 n1,QC n1 n3,R4,?_⟩,fun b hb=>?_⟩
  rotate_left
  ·apply bc;intro z_
   obtain ⟨_,_,_,o,ho,_⟩:=bp R hb
   apply z_;clear z_
   exact (R1.leave_same R3 L3 b hb).trans ((kb b o ho).trans ho.symm)
  cases W3 with
  | next=>exact .non
  | brk=>exact .non
  | cont=>exact .non
  | ret v val W=>exact W.drop hS
inductive PS where
 | pos (k:Nat)
 | kw (k:Nat)
 | dfl (v:V) (val:Value)
noncomputable def Qb (p:PS) (vs kvs:List V):V:=match p with
 | .pos k=>(match gh vs k with | some v=>v | none=>.non)
 | .kw k=>(match gh kvs k with | some v=>v | none=>.non)
 | .dfl v _=>v
noncomputable def C7 (p:PS) (vals kvals:List Value):Value:=match p with
 | .pos k=>(match gh vals k with | some v=>v | none=>.none)
 | .kw k=>(match gh kvals k with | some v=>v | none=>.none)
 | .dfl _ val=>val
theorem sm {vs:List V} {vals:List Value} (W:RepVs X n vs vals) (k:Nat):RepV X n (match gh vs k with | some v=>v | none=>.non) (match gh vals k with | some v=>v | none=>.none):=by
 induction vs generalizing vals k with
 | nil=>cases W; exact .non
 | cons v r ih=>
  cases W with
  | cons a b=>
   cases k with
   | zero=>exact a
   | succ k=>exact ih b k
theorem aI {fd:FuncData} {ks:List Str} {np:Nat} {ps:List (Nat×PS)} {xs:List Str} (ok:G.Ok) (hl:xs.length=ps.length)
  (hx:∀ (j i:Nat) (p:PS) (x:Str),ps[j]?=some (i,p)→xs[j]?=some x→sc.names[i]?=some (x,NameKind.local)∨sc.names[i]?=some (x,NameKind.cell)) (nd:xs.Nodup)
  (hd:∀ (i:Nat) (v:V) (val:Value),(i,PS.dfl v val)∈ps→∀ X n,RepV X n v val)
  (hb:∀ (h:Heap) (vals kvals:List Value),G.K.In h→vals.length=np→kvals.length=ks.length→Looks (model G.prog G.w) h (bindArgs fd ⟨vals,ks.zip kvals⟩) (xs.zip (ps.map fun p=>C7 p.2 vals kvals))) :
  P6 G fd sc ks (fun vs kvs σ K=>onT (Nat.beq vs.length np) (onT (Nat.beq kvs.length ks.length) (K (ps.map fun p=>(p.1,Qb p.2 vs kvs)) σ))):=fun vs kvs σ K hd' A env X s vals kvals R W Wk=>by
   apply bc;intro z_
   obtain ⟨q1,hd2⟩:=onT.out hd'
   obtain ⟨q2,hd3⟩:=onT.out hd2
   apply z_;clear z_
   refine (hb s.heap vals kvals (R.K ok) (by rw [W.length]; exact QP q1) (by rw [Wk.length]; exact QP q2)).here ⟨_,σ,X,hd3,.refl,QF _,rfl,R,?_,?_,fun _ _ e=>e⟩
   ·clear hd' hd2 hd3 hb nd
    induction ps generalizing xs with
    | nil=>
     cases xs with
     | nil=>exact .nil
     | cons=>simp at hl
    | cons p r ih=>
     cases xs with
     | nil=>simp at hl
     | cons x xs=>
      apply bc;intro z_
      obtain ⟨i,p⟩:=p
      apply z_;clear z_
      have hW:RepV X σ.nx (Qb p vs kvs) (C7 p vals kvals):=by
       cases p with
       | pos k=>exact sm W k
       | kw k=>exact sm Wk k
       | dfl v val=>exact hd i v val (by simp) _ _
      have ih:=ih (xs:=xs) (by simpa using hl) (fun j i p x a b=>hx (j+1) i p x (by simpa using a) (by simpa using b)) (fun i v val h=>hd i v val (QE _ h))
      rcases hx 0 i p x rfl rfl with h | h
      ·exact .cons h (.inl rfl) hW ih
      ·exact .cons h (.inr rfl) hW ih
   ·rw [List.map_fst_zip (by simp [hl])]; exact nd
theorem ug (C:Addr) (rest:List Value) (kw:List (Str×Value)):(Code.builtin "type.__call__" ⟨.ref C::rest,kw⟩).weight=1:=by kernel_rfl
theorem zr (C:Addr) (rest:List Value) (kw:List (Str×Value)):(Code.builtin "type.__call__" ⟨.ref C::rest,kw⟩).cUnits=1:=by kernel_rfl
theorem qC {K:Frag} {C f:Addr} {g:Value} {name:Str} {od:Obj} (hh:hasDictIn K C=true) (ha:findIn K (.ref C) name=some (some (.ref f))) (hg:specialIn K (.ref f) "__get__"=some (some g)) (ht:takesIn K (.ref f)=some false)
  (hc:copiedNames.contains name=false) (hl:lookIn name od=some none):findObj K C (some od) name=some (.bind g (.ref f)):=by
 apply bc;intro z_
 obtain ⟨cd,hc',hd⟩:=any_some hh
 apply z_;clear z_
 unfold findObj
 have ho:W.ownOf cd (some od) name=some none:=by unfold W.ownOf; rw [QI hd]; exact hl
 rw [hc',Option.bind_some,ha,Option.bind_some]
 simp only [hg,ht,Option.bind_some,ho,hc,Bool.false_and,Bool.false_eq_true,if_false]
noncomputable def Fi (C0 j f:Nat) (v:V) (σ:St) (Q:V→St→Prop):Prop:=lG C0 v σ fun l at_=>noS (aj j at_) (Q (.pm f C0 l) σ)
theorem Oi {e:PySem.Expr} {name:Str} {p:Pos} {d:DE} {C0 j f:Nat} (ok:G.Ok) (hC:ClsOk G.K C0) (hj:G.an[j]?=some name) (hf:findIn G.K (.ref C0) name=some (some (.ref f))) (ht:typeIn G.K (.ref f)=some (.type "function"))
  (hg:specialIn G.K (.ref f) "__get__"=some (some (.builtin "function.__get__"))) (htk:takesIn G.K (.ref f)=some false) (hc:copiedNames.contains name=false) (he':SE G lv sc e d) (hb:∀ env,attributeBase e name env (eval e env)=eval e env) :
  SE G lv sc (.Attribute e name p) (fun σ Q=>d σ fun v σ1=>Fi C0 j f v σ1 Q):=fun σ Q hd A env X s ha he R=>
 fe he' hb hd ha he R fun val s1 v σ1 X1 k1 L1 n1 R1 W1=>by
  apply bc;intro z_
  obtain ⟨l,a,at_,od,m,rfl,hl,rfl,hF,hk,I,h1,h2,h3,ho',hlk,k2⟩:=eT k1 R1 W1
  obtain ⟨q,k2⟩:=noS.out k2
  apply z_;clear z_
  have h4:=h3 j name hj
  rw [q] at h4
  dsimp only at h4
  refine get_bind (R1.K ok) I hC.hga (qC hC.hd hf hg htk hc (by rw [hlk,h4])) hC.hk (wpAny_call ?_)
  have R2:=R1.toks (s1.toks+1)
  refine fn_get (R2.K ok) ht ?_
  show wpAny _ _ (handedOut _) _ _ _
  refine Qu ?_
  apply bc;intro z_
  obtain ⟨R3,L3⟩:=R2.still (s':={s1 with toks:=s1.toks+1,heap:=s1.heap.push (methodObj (.ref f) (.ref a))}) aH (fun _ _ e=>QB _ e) (QG _ rfl) rfl rfl R1.gens ok
  apply z_;clear z_
  exact ⟨_,σ1,_,k2,L1.trans L3 n1,n1,R3,.pm f C0 l _ a hl (QI rfl) (L3.F _ _ hF)⟩
theorem MR {f C l:Nat} {a b:Addr} {ks:List Str} {D:List V→List V→DE} (h:FN G lv f ks D) (ok:G.Ok) (ha':X.F a=some (methodObj (.ref f) (.ref b))) (hb:X.F b=some (instObj C (X.ρ l))) (hl:l<n) :
  CFok G lv env X n (.ref a) [] ks (fun vs kvs=>D (.obj C l::vs) kvs):=by
 apply bc;intro z_
 obtain ⟨⟨o,fd,ho,hdat⟩,h⟩:=h
 apply z_;clear z_
 intro A X2 σ2 s2 vs kvs Q vals kvals ha L hn hd R2 Wv Wk
 have hm:=R2.sub _ _ (L.F _ _ ha')
 refine ⟨fun Q' k=>?_,?_⟩
 ·unfold keeperOf
  refine Qt (QA hm ?_)
  dsimp only
  rw [QH (by decide)]
  refine Qt (QA (R2.K ok _ _ ho) ?_)
  rw [hdat]
  exact Qu (k .boundFrame (by decide))
 ·rw [List.nil_append]
  have W0:RepV X2 σ2.nx (.obj C l) (.ref b):=(RepV.obj C l b hl hb).mono L hn
  exact wpAny_call (method_call hm (codeAny_mono (h (.obj C l::vs) kvs σ2 Q hd A env X2 s2 (.ref b::vals) kvals ha R2 (.cons W0 Wv) Wk) fun r s' ⟨v,e,z,_⟩=>by subst e; exact z))
theorem Of {x:Str} {i:Nat} {k:NameKind} {np:Pos} {f C:Nat} {ks:List Str} {D:List V→List V→DE} (ok:G.Ok) (hx:sc.names[i]?=some (x,k)) (hdb:(x==("__debug__":Str))=false) (hcd:(x==("__classdict__":Str))=false) (h:FN G lv f ks D) :
  Lf G lv sc (.Name x np) ks (fun σ K=>fO i σ fun v σ1=>G1 v fun f' C' l=>onT (Nat.beq f' f) (K (fun vs kvs=>D (.obj C' l::vs) kvs) σ1)):=fun σ K hd A env X s ha he R=>by
 refine (uI hx hdb hcd).run hd ha he R fun val s1 v σ1 X1 k1 L1 n1 R1 W1=>?_
 refine W1.pm_ k1 fun f' C' l a b hl o ob k1=>?_
 apply bc;intro z_
 obtain ⟨q,k2⟩:=onT.out k1
 apply z_;clear z_
 cases QP q
 exact ⟨_,σ1,X1,k2,L1,n1,R1,MR h ok o ob hl⟩
theorem Oe {x:Str} {i:Nat} {k:NameKind} {np:Pos} (hx:sc.names[i]?=some (x,k)) (hdb:(x==("__debug__":Str))=false) (hcd:(x==("__classdict__":Str))=false) :
  Lf G lv sc (.Name x np) [] (fun σ K=>fO i σ fun v σ1=>Bg v fun l=>K (fun vs _=>Am l vs) σ1):=fun σ K hd A env X s ha he R=>by
 refine (uI hx hdb hcd).run hd ha he R fun val s1 v σ1 X1 k1 L1 n1 R1 W1=>?_
 exact W1.bm_ k1 fun l a hl o k1=>⟨_,σ1,X1,k1,L1,n1,R1,CE o hl⟩
theorem Ol {o:PySem.Expr} {name:Str} {do_:DE} {C0 i:Nat} (ok:G.Ok) (hC:ClsOk G.K C0) (hi:G.an[i]?=some name) (hn:findIn G.K (.ref C0) name=some none) (ho:SE G lv sc o do_) :
  SM G lv sc o name [] (fun σ K=>do_ σ fun v σ1=>rK C0 i v σ1 fun w σ2=>Bg w fun l=>K (fun vs _=>Am l vs) σ2):=fun σ K hd A env X s ha he R=>by
 refine ho.run hd ha he R fun ov s1 v σ1 X1 k1 L1 n1 R1 W1=>fun pl Q' k=>?_
 have k1':=k1
 apply bc;intro z_
 obtain ⟨l,a,at_,od,m,rfl,hl,rfl,hF,hk,I,_⟩:=eT k1' R1 W1
 apply z_;clear z_
 refine method_usual (R1.K ok) I hC.hga hC.hk hn rfl ?_
 refine Qv (kB ok hC hi hn k1 R1 W1) (fun val s2 y_=>?_) fun _ _ z=>z
 apply bc;intro z_
 obtain ⟨w,σ2,X2,q2,L2,n2,R2,W2⟩:=y_
 apply z_;clear z_
 exact W2.bm_ q2 fun l' a' hl' o' q2=>k _ _ _ _ _ _ q2 (L1.trans L2 n1) (QC n1 n2) R2 (CE o' hl')
theorem RepV.none_of {v:V} {val:Value} (W:RepV X n v val) (h:ma v=true):val=.none:=by
 cases v with
 | non=>exact W.inv
 | _=>first | exact nS h | exact nB h | cases h
noncomputable def CBs (G:Glob) (lv:Nat) (f:Value) (ks:List Str) (D:List V→List V→DE):Prop:=∀ vs kvs σ Q,D vs kvs σ Q→∀ A env X s vals kvals,AOk lv A→Rel G X env σ s→RepVs X σ.nx vs vals→RepVs X σ.nx kvs kvals →
 (∀ Q':Keeper→Shared→Prop,(∀ k,k≠Keeper.caller→Q' k s)→wpAny (model G.prog G.w) A (keeperOf f) Q' bh s)∧wpAny (model G.prog G.w) A (call f vals (ks.zip kvals)) (fun r s'=>Post G X env σ.nx Q r s'∧∀ b∈ah env,s'.heap.get? b=s.heap.get? b) bh s
theorem CBs.cb {f:Value} {ks:List Str} {D:List V→List V→DE} (h:CBs G lv f ks D):CB G lv f ks D:=fun vs kvs σ Q hd A env X s vals kvals ha R W Wk=>
 ⟨(h vs kvs σ Q hd A env X s vals kvals ha R W Wk).1,Qv (h vs kvs σ Q hd A env X s vals kvals ha R W Wk).2 (fun _ _ z=>z.1) fun _ _ z=>z⟩
noncomputable def pW (C:Nat) (D:List V→List V→DE) (vs kvs:List V) (σ:St) (Q:V→St→Prop):Prop:=D (.obj C σ.nx::vs) kvs {σ with st:=(σ.nx,.ns [])::σ.st,nx:=σ.nx+1} fun r σ'=>onT (ma r) (Q (.obj C σ.nx) σ')
set_option tactic.hygienic true in
theorem lL {C fI:Addr} {ks:List Str} {D:List V→List V→DE} (ok:G.Ok) (hm:makesIn G.K C=true) (hi:findIn G.K (.ref C) "__init__"=some (some (.ref fI))) (hf:typeIn G.K (.ref fI)=some (.type "function"))
  (hkeep:specialIn G.K (.ref C) "__call__"=some (some (.builtin "type.__call__"))) (hc:(clsIn G.K C).isSome=true) (h:FN G lv fI ks D) :
  CBs G (lv+1) (.ref C) ks (pW C D):=fun vs kvs σ Q hd A env X s vals kvals ha R W Wk=>by
 constructor
 ·intro Q' k
  apply bc;intro z_
  obtain ⟨cd,hc⟩:=Option.isSome_iff_exists.mp hc
  have hl:∃ oc od sl,G.K.lookup C=some ⟨oc,od,.cls cd,sl⟩:=by
   unfold clsIn at hc
   split at hc
   ·rename_i q; cases hc; exact ⟨_,_,_,q⟩
   ·first | exact nS hc | exact nB hc | cases hc
  obtain ⟨oc,od,sl,hl⟩:=hl
  apply z_;clear z_
  unfold keeperOf
  refine Qt (QA (R.K ok _ _ hl) ?_)
  dsimp only
  refine Qt ((looks_specialIn (R.K ok) hkeep).here ?_)
  refine Qu ?_
  rw [show (some (Value.builtin "type.__call__")==some (Value.builtin "type.__call__"))=true by decide +kernel,QI rfl]
  exact k .machine (by decide)
 ·have he:s.heap.get? s.heap.objs.size=none:=aH
  apply bc;intro z_
  obtain ⟨R1,L1⟩:=R.anew (o:=.ns []) (s':={s with heap:=s.heap.push emptyDict}) he (R.size ok) (fun _ _ e=>QB _ e)
   (fun X' L=>⟨fun _=>none,(Heap.Ns1.of_empty (Heap.Ns.new s.heap (.type "dict"))),fun y hy=>absurd rfl hy,fun i x hx=>rfl⟩) rfl rfl R.gens
  apply z_;clear z_
  have hz:(s.heap.push emptyDict).objs.size=s.heap.objs.size+1:=Heap.size_push ..
  obtain ⟨R2,L2⟩:=R1.still (s':={s with heap:=(s.heap.push emptyDict).push (instObj C s.heap.objs.size)}) (a:=s.heap.objs.size+1) (o:=instObj C s.heap.objs.size) (by rw [← hz]; exact aH) (fun _ _ e=>QB _ e) (by rw [← hz]; exact QG _ rfl) rfl rfl R.gens ok
  have L12:=L1.trans L2 (Q0 _)
  have hF:(fun l=>if l=σ.nx then s.heap.objs.size else X.ρ l) σ.nx=s.heap.objs.size:=QI rfl
  have WO:RepV _ (σ.nx+1) (.obj C σ.nx) (.ref (s.heap.objs.size+1)):=RepV.obj (X:={({X with ρ:=fun l=>if l=σ.nx then s.heap.objs.size else X.ρ l}:Wd) with F:=fun b=>if b=s.heap.objs.size+1 then some (instObj C s.heap.objs.size) else X.F b}) C σ.nx (s.heap.objs.size+1) (QK _) (by
   show (if s.heap.objs.size+1=s.heap.objs.size+1 then some (instObj C s.heap.objs.size) else X.F _)=some (instObj C (if σ.nx=σ.nx then s.heap.objs.size else X.ρ σ.nx))
   rw [QI rfl,QI rfl])
  have hA:AOk lv (A.under (.builtin "type.__call__" ⟨.ref C::vals,ks.zip kvals⟩)):=ha.up 1 1 rfl (congrArg (A.depth+·) (ug ..)) (congrArg (A.units+·) (zr ..)) (by decide) (by decide)
  refine wpAny_call ?_
  refine make_core (makes_of (R.K ok) hm) (looks_findIn (R.K ok) hi) (fun self=>bind_fn (R.K ok) self hf) (.inl rfl) ?_
  refine codeAny_mono (h.2 (.obj C σ.nx::vs) kvs _ _ hd _ env _ _ (.ref (s.heap.objs.size+1)::vals) kvals hA R2 (.cons WO (W.mono L12 (Q0 _))) (Wk.mono L12 (Q0 _))) fun r s' y_=>?_
  apply bc;intro z_
  obtain ⟨rv',e,z,same⟩:=y_
  subst e
  obtain ⟨rv,σ3,X3,q3,L3,n3,R3,W3⟩:=z
  obtain ⟨z3,q3⟩:=onT.out q3
  apply z_;clear z_
  cases W3.none_of z3
  refine ⟨rfl,⟨_,σ3,X3,q3,L12.trans L3 (Q0 _),QC (Q0 _) n3,R3,WO.mono L3 n3⟩,fun b hb=>(same b hb).trans ?_⟩
  apply bc;intro z_
  obtain ⟨_,_,_,o,ho,_⟩:=bp R hb
  apply z_;clear z_
  exact (QB _ (QB _ ho)).trans ho.symm
theorem n6 {C fI:Addr} {ks:List Str} {D:List V→List V→DE} (ok:G.Ok) (hm:makesIn G.K C=true) (hi:findIn G.K (.ref C) "__init__"=some (some (.ref fI))) (hf:typeIn G.K (.ref fI)=some (.type "function"))
  (hkeep:specialIn G.K (.ref C) "__call__"=some (some (.builtin "type.__call__"))) (hc:(clsIn G.K C).isSome=true) (h:FN G lv fI ks D) :
  CB G (lv+1) (.ref C) ks (pW C D):=(lL ok hm hi hf hkeep hc h).cb
noncomputable def jw (names gR:List (Str×NameKind)):List (Str×NameKind):=names.map fun (n,k)=>if (k==NameKind.free && gR.lookup n==some NameKind.cell) then (n,NameKind.cell) else (n,k)
theorem yg {scope:Scope} (he:EOk sc env):(relabel scope env).names=jw scope.names sc.names:=by
 unfold relabel jw
 dsimp only
 congr 1
 funext p
 obtain ⟨x,k⟩:=p
 have h1:env.scope.kind=.function:=he.kind
 have h2:env.kindOf x=sc.names.lookup x:=by show env.scope.names.lookup x=_; rw [he.names]
 rw [h1,h2]
 simp
theorem mR {env:Env}:∀ (names:List (Str×NameKind)) (acc:List (Str×Addr)),(names.map (·.1)).Nodup→(∀ n∈acc.map (·.1),n ∉ names.map (·.1))→(acc.map (·.1)).Nodup→(∀ x c,(x,c)∈acc→env.cells.lookup x=some c) →
  (∀ x,(x,NameKind.free)∈names→∃ c,env.cells.lookup x=some c) →
  ∃ cl,(forIn names acc fun (p:Str×NameKind) (cs:List (Str×Addr))=>(if p.2==NameKind.free then (do let a ← cellOf env p.1; pure (ForInStep.yield ((p.1,a)::cs))) else pure (ForInStep.yield cs):Sem (ForInStep (List (Str×Addr)))))=pure cl ∧
   (∀ x c,(x,c)∈cl→env.cells.lookup x=some c)∧(cl.map (·.1)).Nodup∧(∀ x,(x,NameKind.free)∈names→x∈cl.map (·.1))∧(∀ x∈acc.map (·.1),x∈cl.map (·.1))
 | [],acc,_,_,nd,ha,_=>⟨acc,rfl,ha,nd,fun x h=>(nomatch h),fun x h=>h⟩
 | (y,k)::r,acc,ndn,hdis,nd,ha,hf=>by
  simp only [List.map_cons,List.nodup_cons] at ndn
  by_cases hk:k=.free
  ·subst hk
   apply bc;intro z_
   obtain ⟨c,hc⟩:=hf y (QL ..)
   have hcell:cellOf env y=pure c:=by unfold cellOf; rw [hc]
   obtain ⟨cl,e,h1,h2,h3,h4⟩:=mR r ((y,c)::acc) ndn.2 (fun x hx=>by
    rcases List.mem_cons.mp hx with rfl | hx
    ·exact ndn.1
    ·exact fun w=>hdis x hx (QE _ w)) (by
    simp only [List.map_cons,List.nodup_cons]
    exact ⟨fun w=>hdis y w (QL ..),nd⟩) (fun x c' hx=>by
    rcases List.mem_cons.mp hx with e | hx
    ·cases e; exact hc
    ·exact ha x c' hx) (fun x hx=>hf x (QE _ hx))
   apply z_;clear z_
   refine ⟨cl,?_,h1,h2,fun x hx=>?_,fun x hx=>h4 x (QE _ hx)⟩
   ·rw [List.forIn_cons]
    simp only [beq_self_eq_true,if_true,hcell,pure_bind]
    exact e
   ·rcases List.mem_cons.mp hx with e | hx
    ·cases e; exact h4 _ (QL ..)
    ·exact h3 x hx
  ·apply bc;intro z_
   obtain ⟨cl,e,h1,h2,h3,h4⟩:=mR r acc ndn.2 (fun x hx w=>hdis x hx (QE _ w)) nd ha (fun x hx=>hf x (QE _ hx))
   apply z_;clear z_
   refine ⟨cl,?_,h1,h2,fun x hx=>?_,h4⟩
   ·rw [List.forIn_cons]
    have:(k==NameKind.free)=false:=by simpa using hk
    simp only [this,Bool.false_eq_true,if_false,pure_bind]
    exact e
   ·rcases List.mem_cons.mp hx with e | hx
    ·cases e; exact absurd rfl hk
    ·exact h3 x hx
theorem qU {l:List (Str×Addr)} {x:Str} {c:Addr} (nd:(l.map (·.1)).Nodup) (h:(x,c)∈l):l.lookup x=some c:=by
 induction l with
 | nil=>cases h
 | cons p r ih=>
  obtain ⟨y,d⟩:=p
  simp only [List.map_cons,List.nodup_cons] at nd
  rcases List.mem_cons.mp h with e | h2
  ·cases e; simp [List.lookup_cons]
  ·have:(x==y)=false:=by
    cases q:x==y with
    | false=>rfl
    | true=>
     rw [beq_iff_eq] at q
     subst q
     exact absurd (show x∈r.map (·.1) from List.mem_map.mpr ⟨(x,c),h2,rfl⟩) nd.1
   rw [List.lookup_cons,this]; exact ih nd.2 h2
theorem An {scope:Scope} (nd:(scope.names.map (·.1)).Nodup) (hf:∀ x,(x,NameKind.free)∈scope.names→∃ c,env.cells.lookup x=some c) (hap:env.cells.Pairwise fun x y=>x.2≠y.2) :
  ∃ cl,closureFor scope env=pure cl∧(∀ x c,cl.lookup x=some c→env.cells.lookup x=some c)∧(∀ x,(x,NameKind.free)∈scope.names→(cl.lookup x).isSome=true)∧cl.Pairwise fun x y=>x.2≠y.2:=by
 apply bc;intro z_
 obtain ⟨cl,e,h1,h2,h3,h4⟩:=mR (env:=env) scope.names [] nd (fun x hx=>(nomatch hx)) List.nodup_nil (fun x c hx=>(nomatch hx)) hf
 apply z_;clear z_
 refine ⟨cl,?_,fun x c hx=>h1 x c (mem_of_lookup hx),fun x hx=>?_,?_⟩
 ·unfold closureFor
  dsimp only
  have:(forIn scope.names ([]:List (Str×Addr)) fun (x:Str×NameKind) (r:List (Str×Addr))=>(match x with
   | (name,kind)=>if (kind==NameKind.free)=true then (do let a ← cellOf env name; pure (ForInStep.yield ((name,a)::r))) else pure (ForInStep.yield r):Sem (ForInStep (List (Str×Addr)))))=pure cl:=e
  simp only [bind_pure] at *
  exact this
 ·apply bc;intro z_
  obtain ⟨p,hp,rfl⟩:=List.mem_map.mp (h3 x hx)
  apply z_;clear z_
  rw [qU h2 (show (p.1,p.2)∈cl from hp)]; rfl
 ·have:cl.Pairwise fun x y=>x.1≠y.1:=by
   have:=h2
   unfold List.Nodup at this
   rwa [List.pairwise_map] at this
  refine List.Pairwise.imp_of_mem (fun {a b} ha hb hne w=>hne ?_) this
  have e1:=mem_of_lookup (h1 a.1 a.2 ha)
  have e2:=mem_of_lookup (h1 b.1 b.2 hb)
  rw [← w] at e2
  exact name_of_addr hap e1 e2
theorem Rel.enterC {lo:List (Nat×V)} {m:Str→Option Value} {cl:List (Str×Addr)} (ok:G.Ok) (R:Rel G X env σ s) (hs:∃ h tk,s1={s with heap:=h,toks:=tk}) (keep:∀ b o,s.heap.get? b=some o→s1.heap.get? b=some o)
  (hfr0:env.frame=some env.locals) (hns:s1.heap.Ns env'.locals m) (fresh:s.heap.objs.size≤env'.locals) (hcl:env'.cells=cl) (h1:∀ x c,cl.lookup x=some c→env.cells.lookup x=some c) (apart:cl.Pairwise fun x y=>x.2≠y.2)
  (hfr:env'.frame=env.frame)
  (hlo:∀ i v,aj i lo=some v→∃ x val,env'.scope.names[i]?=some (x,NameKind.cell)∧RepV X σ.nx v val∧(cl.lookup x).isSome=true∧∀ cm:Str→Option Value,(∀ x c,env.cells.lookup x=some c→s.heap.IsCell c (cm x))→cm x=some val) :
  Rel G (X.frz (ah env) s.heap) env' ⟨lo,σ.st,σ.nx⟩ s1:=by
 have L:X.le σ.nx (X.frz (ah env) s.heap):=gX R
 have FF:∀ {a:Addr} {o:Obj},(X.frz (ah env) s.heap).F a=some o→s.heap.get? a=some o:=fun {a o} e=>by
  have e:(if a∈ah env then s.heap.get? a else X.F a)=some o:=e
  by_cases q:a∈ah env
  ·rw [QI q] at e; exact e
  ·rw [QH q] at e; exact R.sub _ _ e
 have FN:∀ {a:Addr},X.F a=none→a ∉ ah env→(X.frz (ah env) s.heap).F a=none:=fun {a} e q=>by
  show (if a∈ah env then s.heap.get? a else X.F a)=none
  rw [QH q]; exact e
 have big:∀ {a:Addr},s.heap.objs.size≤a→(X.frz (ah env) s.heap).F a=none:=fun {a} h=>by
  cases q:(X.frz (ah env) s.heap).F a with
  | none=>rfl
  | some o=>exact absurd (QO (FF q)) (QT h)
 have live:∀ {a:Addr} {l:Nat} {o:AO},s.heap.objs.size≤a→aj l σ.st=some o→X.ρ l≠a:=fun {a l o} h hl w=>by
  apply bc;intro z_
  obtain ⟨ob,z⟩:=R.there hl
  apply z_;clear z_
  rw [w] at z
  exact absurd (QO z) (QT h)
 have notT:∀ {a:Addr},s.heap.objs.size≤a→a≠G.T:=fun {a} h w=>by
  have:=R.tab.1
  rw [← w] at this
  exact absurd (QO this) (QT h)
 have cL:env'.frame≠some env'.locals:=by
  rw [hfr,hfr0]
  intro w
  injection w with w
  apply bc;intro z_
  obtain ⟨o,ho⟩:=R.loc.ltL
  apply z_;clear z_
  rw [w] at ho
  exact absurd (QO ho) (QT fresh)
 apply bc;intro z_
 obtain ⟨m0,cm0,g1,g2,g3⟩:=R.loc.ns
 obtain ⟨h',tk',rfl⟩:=hs
 apply z_;clear z_
 refine ⟨fun a o e=>keep _ _ (FF e),fun a o e q=>L.F _ _ (R.base a o e q),fun l o e=>⟨FN (R.own l o e).1 fun q=>(bp R q).2.1 l o e rfl,(R.own l o e).2⟩,R.inj,R.big,fun l o e=>⟨(R.st l o e).1,?_⟩,⟨keep _ _ R.tab.1,FN R.tab.2.1 fun q=>(bp R q).2.2.1 rfl,ok.tbmono _ _ _ (fun a o e _=>L.F _ _ e) R.tab.2.2⟩,?_,R.os,R.drawn,R.gens,fun a o e=>let ⟨z1,z2,z3,z4,z5,z6⟩:=R.hp a o e; ⟨keep _ _ z1,FN z2 (fun q=>(jf q).elim z4 fun ⟨_,x,hx⟩=>z5 x _ hx rfl),z3,fun w=>absurd (QO z1) (QT (by rw [w]; exact fresh)),fun x c e=>z5 x c (h1 x c (by rw [← hcl]; exact e)),z6⟩⟩
 ·apply bc;intro z_
  obtain ⟨ob,z⟩:=(R.st l o e).2.there
  apply z_;clear z_
  exact (R.st l o e).2.go L (QF _) (f8 keep z)
 ·refine ⟨⟨m,cm0,hns,fun x c e=>?_,fun i v e=>?_⟩,⟨big fresh,fun l o e=>live fresh e,notT fresh⟩,fun w=>absurd w cL,fun _ x c e=>?_,by rw [hcl]; exact apart⟩
  ·rw [hcl] at e
   apply bc;intro z_
   obtain ⟨o,ho,hd⟩:=g2 x c (h1 x c e)
   apply z_;clear z_
   exact ⟨o,keep _ _ ho,hd⟩
  ·apply bc;intro z_
   obtain ⟨x,val,a,b,c,d⟩:=hlo i v e
   apply z_;clear z_
   exact ⟨x,.cell,val,a,b.mono L (QF _),.inr ⟨.inl rfl,by rw [hcl]; exact c,d cm0 g2⟩⟩
  ·rw [hcl] at e
   have hb:=dM hfr0 (h1 x c e)
   apply bc;intro z_
   obtain ⟨_,_,_,o,ho,_⟩:=bp R hb
   apply z_;clear z_
   exact ⟨o,by show (if c∈ah env then s.heap.get? c else X.F c)=some o; rw [QI hb]; exact ho⟩
theorem Rel.chg {a:Addr} {h':Heap} (R:Rel G X env σ s) (hF:X.F a=none) (hl:∀ l o,aj l σ.st=some o→X.ρ l≠a) (hT:a≠G.T) (hL:a≠env.locals) (hC:∀ x c,env.cells.lookup x=some c→c≠a) (hs:∀ b,b≠a→∀ o,s.heap.get? b=some o→h'.get? b=some o) (hH:G.Hp a=none) :
  Rel G X env σ {s with heap:=h'}:=by
 apply bc;intro z_
 obtain ⟨h1,h2,h3,h4,hb,h5,h6,h7,h8,h9,h10,h11⟩:=R
 apply z_;clear z_
 have neF:∀ {b:Addr} {o:Obj},X.F b=some o→b≠a:=fun e w=>by rw [w,hF] at e; cases e
 refine ⟨fun b o e=>hs b (neF e) _ (h1 b o e),h2,h3,h4,hb,fun l o e=>⟨(h5 l o e).1,?_⟩,⟨hs _ hT.symm _ h6.1,h6.2⟩,?_,h8,h9,h10,fun b o e=>let ⟨z1,r⟩:=h11 b o e; ⟨hs b (fun w=>by rw [w,hH] at e; cases e) _ z1,r⟩⟩
 ·apply bc;intro z_
  obtain ⟨ob,z⟩:=(h5 l o e).2.there
  apply z_;clear z_
  exact (h5 l o e).2.go .refl (QF _) ((hs _ (hl l o e) _ z).trans z.symm)
 ·apply bc;intro z_
  obtain ⟨oL,zL⟩:=h7.ltL
  apply z_;clear z_
  exact h7.go .refl (QF _) ((hs _ hL.symm _ zL).trans zL.symm) (fun x c e=>let ⟨o,z⟩:=h7.ltC e; (hs _ (hC x c e) _ z).trans z.symm) ⟨h7.freeL.1,h7.freeL.2.1⟩ (fun w x c b=>⟨(h7.freeC w x c b).1,(h7.freeC w x c b).2.1⟩)
noncomputable def oj (G:Glob) (lv:Nat) (sc:Sc) (ifs:List PySem.Expr) (d:DB):Prop:=∀ σ Q,d σ Q→∀ A env X s,AOk lv A→EOk sc env→Rel G X env σ s →
 wpAny (model G.prog G.w) A (forIn ifs true fun c r=>if r=true then do let ok ← isTrue c env (eval c env); pure (ForInStep.yield ok) else pure (ForInStep.yield r)) (PostB G X env σ.nx Q) bh s
theorem fx:oj G lv sc [] (fun σ Q=>Q true σ):=fun σ Q hd A env X s ha he R=>by
 rw [List.forIn_nil]; exact Qu (PostB.ret hd R)
theorem mK {c:PySem.Expr} {d:DB} (h:SB G lv sc c d):oj G lv sc [c] d:=fun σ Q hd A env X s ha he R=>by
 rw [List.forIn_cons]
 simp only [if_true]
 refine Qt (Qt (h.run hd ha he R fun b s1 σ1 X1 k1 L1 n1 R1=>Qu ?_))
 dsimp only
 rw [List.forIn_nil]
 exact Qu ⟨σ1,X1,k1,L1,n1,R1⟩
noncomputable abbrev DM:=St→(St→Prop)→Prop
noncomputable abbrev mC (ifs:List PySem.Expr) (env:Env):Sem Bool:=forIn ifs true fun c r=>if r=true then do let ok ← isTrue c env (eval c env); pure (ForInStep.yield ok) else pure (ForInStep.yield r)
noncomputable def fY (cur:Nat→St→Option (Option V)) (dt:DT) (dif:DB) (dem:DM):Nat→Nat→DM
 | 0,_=>fun _ _=>False
 | n+1,i=>fun σ Q=>match cur i σ with
  | some (some v)=>dt v σ fun σ1=>dif σ1 fun b σ2=>match b with
   | true=>dem σ2 fun σ3=>fY cur dt dif dem n (i+1) σ3 Q
   | false=>fY cur dt dif dem n (i+1) σ2 Q
  | some none=>Q σ
  | none=>False
noncomputable def uW (G:Glob) (lv:Nat) (sc:Sc) (t:Value→Env→Sem Unit) (l:Nat) (d:DM):Prop:=∀ σ Q,d σ Q→∀ A env X s,AOk lv A→EOk sc env→Rel G X env σ s→l<σ.nx →
 wpAny (model G.prog G.w) A (t (.ref (X.ρ l)) env) (PostT G X env σ.nx Q) bh s
theorem gv {e:PySem.Expr} {depth l:Nat} {it:Value} {target:PySem.Expr} {ifs:List PySem.Expr} {t:Value→Env→Sem Unit} {q:Pos} {X0 Xb:Wd} {n0 nb:Nat} {cur:Nat→St→Option (Option V)} {I:Nat→Heap→Prop} {dt:DT} {dif:DB} {dem:DM} {R':Result→Shared→Prop} {Q:St→Prop} {acc:Value}
  (ha:AOk lv A) (he:EOk sc env) (T:Itr G lv tg it S X0 n0 cur I) (htg:tg=true→fK target=true) (ht:ST G lv sc target dt) (hif:oj G lv sc ifs dif) (hem:uW G lv sc t l dem)
  (hturn:compTurn e depth it acc env=(standAt q >>= fun _=>pyNext it >>= fun r=>match r with
   | none=>pure (.done .next)
   | some v=>letOwnedTupleGo target it v >>= fun _=>assign target env v >>= fun _=>mC ifs env >>= fun ok=>(if ok then t acc env else pure ()) >>= fun _=>again (.compLoop e depth it acc env)))
  (hden:∀ (Q:Fin→Shared→Prop) (E:Value→Shared→Prop) (s:Shared),wpAny (model G.prog G.w) A ((compTurn e depth it acc env).onRaise (fun x=>do noteFrame x env; theTreesLotGoes x)) Q E s →
   wpAny (model G.prog G.w) (A.under (.compLoop e depth it acc env)) ((model G.prog G.w).den (.compLoop e depth it acc env)) Q E s)
  (hquiet:(Code.compLoop e depth it acc env).quiet=true)
  (hX:X0.le n0 Xb) (hN:n0≤nb) (hbS:∀ b∈S,Xb.F b=none) (hl:l<nb) (hacc:acc=.ref (Xb.ρ l))
  (hQ:∀ σ' X' s',Q σ'→Xb.le nb X'→nb≤σ'.nx→Rel G X' env σ' s'→R' (.ok .next) s'):∀ (k i:Nat) (σ:St) (X:Wd) (s:Shared),fY cur dt dif dem k i σ Q→Xb.le nb X→nb≤σ.nx→Rel G X env σ s→Frz X S→I i s.heap →
  codeAny (model G.prog G.w) A (.compLoop e depth it acc env) R' s:=by
 intro k i σ X s hlp L hn R hf hi
 refine codeAny_loop hquiet (fun k s=>LoopAt G Xb env nb S I (fun i σ=>fY cur dt dif dem k i σ Q) s) ?_ k ⟨i,σ,X,hlp,L,hn,R,hf,hi⟩
 clear hlp L hn R hf hi
 rintro k s ⟨i,σ,X,hlp,L,hn,R,hf,hi⟩
 cases k with
 | zero=>exact hlp.elim
 | succ k=>
  have hlp:(match cur i σ with
   | some (some v)=>dt v σ fun σ1=>dif σ1 fun b σ2=>match b with
    | true=>dem σ2 fun σ3=>fY cur dt dif dem k (i+1) σ3 Q
    | false=>fY cur dt dif dem k (i+1) σ2 Q
   | some none=>Q σ
   | none=>False):=hlp
  refine hden _ _ _ ?_
  refine wpAny_noted ?_
  rw [hturn]
  cases hc:cur i σ with
  | none=>rw [hc] at hlp; exact hlp.elim
  | some r=>
   rw [hc] at hlp
   refine Qt (Qx (Qt (Qv (T.step A env i X σ s r ha (hX.trans L hN) (QC hN hn) R hf hi hc) (fun o s1 h1=>?_) fun _ _ z=>z.elim)))
   cases r with
   | none=>
    apply bc;intro z_
    obtain ⟨rfl,X1,R1,w1⟩:=h1
    apply z_;clear z_
    exact Qu (hQ σ X1 s1 hlp (sb L hn w1 hbS) hn R1)
   | some v=>
    apply bc;intro z_
    obtain ⟨val,rfl,h1⟩:=h1
    apply z_;clear z_
    refine Qt (Qv (h1 target _ htg fun s1 X1 R1 w1 f1 W hi1=>?_) (fun _ _ z=>z) fun _ _ z=>z.elim)
    have L1:=sb L hn w1 hbS
    refine Qt (Qv (ht v σ _ hlp A env X1 s1 val ha he R1 W) (fun _ s2 y_=>?_) fun _ _ z=>z.elim)
    apply bc;intro z_
    obtain ⟨σ2,X2,q2,L2,n2,R2⟩:=y_
    apply z_;clear z_
    have n12:=QC hn n2
    refine Qt (Qv (hif σ2 _ q2 A env X2 s2 ha he R2) (fun b s3 y_=>?_) fun _ _ z=>z.elim)
    apply bc;intro z_
    obtain ⟨σ3,X3,q3,L3,n3,R3⟩:=y_
    apply z_;clear z_
    have L23:=L2.trans L3 n2
    have L13:=L1.trans L23 hn
    have n13:=QC n12 n3
    have up:∀ {X':Wd} {σ':St} {s':Shared},X1.le σ.nx X'→Rel G X' env σ' s'→Frz X' S∧I (i+1) s'.heap:=fun L' R'=>⟨f1.up L',T.stable (i+1) X1 s1.heap _ (hX.trans L1 hN) R1.sub f1 hi1 (fun a o e=>R'.sub _ _ (L'.F _ _ e))⟩
    cases b with
    | false=>
     refine Qt ?_
     rw [QH QM]
     exact Qu (Qu ⟨rfl,k,QK k,i+1,σ3,X3,q3,L13,n13,R3,(up L23 R3).1,(up L23 R3).2⟩)
    | true=>
     refine Qt ?_
     rw [QI rfl]
     have ea:acc=.ref (X3.ρ l):=by rw [hacc,L13.ρ l hl]
     rw [ea]
     refine Qv (hem σ3 _ q3 A env X3 s3 ha he R3 (QZ hl n13)) (fun _ s4 y_=>?_) fun _ _ z=>z.elim
     apply bc;intro z_
     obtain ⟨σ4,X4,q4,L4,n4,R4⟩:=y_
     apply z_;clear z_
     have u:=up (L23.trans L4 (QC n2 n3)) R4
     rw [← ea]
     exact Qu ⟨rfl,k,QK k,i+1,σ4,X4,q4,L13.trans L4 n13,QC n13 n4,R4,u.1,u.2⟩
theorem rB {elt:PySem.Expr} {l:Nat} {d:DE} (h:SE G lv sc elt d):uW G lv sc (fun acc env=>(do let _ ← call (.builtin "list.append") [acc,← eval elt env])) l (fun σ Q=>d σ fun x σ1=>ii [.loc l,x] σ1 fun _ σ2=>Q σ2):=fun σ Q hd A env X s ha he R hl=>by
 refine Qt (h.run hd ha he R fun val s1 v σ1 X1 k1 L1 n1 R1 W1=>?_)
 have Wl:RepV X1 σ1.nx (.loc l) (.ref (X.ρ l)):=by rw [← L1.ρ l hl]; exact .loc l (QZ hl n1)
 refine Qt (Qv (nZ (lv:=lv) [.loc l,v] [] σ1 _ k1 A env X1 s1 [.ref (X.ρ l),val] [] ha R1 (.cons Wl (.cons W1 .nil)) .nil).2 (fun r s2 y_=>?_) fun _ _ z=>z)
 apply bc;intro z_
 obtain ⟨rv,σ2,X2,q2,L2,n2,R2,W2⟩:=y_
 apply z_;clear z_
 exact Qu ⟨σ2,X2,q2,L1.trans L2 n1,QC n1 n2,R2⟩
theorem z9 {e:PySem.Expr} {l depth N:Nat} {target iter:PySem.Expr} {ifs:List PySem.Expr} {t:Value→Env→Sem Unit} {di:DI} {dt:DT} {dif:DB} {dem:DM} (hit:SI G lv sc tg iter di) (htg:tg=true→fK target=true) (ht:ST G lv sc target dt) (hif:oj G lv sc ifs dif) (hem:uW G lv sc t l dem)
  (hturn:∀ it acc env,compTurn e depth it acc env=(standAt iter.pos >>= fun _=>pyNext it >>= fun r=>match r with
   | none=>pure (.done .next)
   | some v=>letOwnedTupleGo target it v >>= fun _=>assign target env v >>= fun _=>mC ifs env >>= fun ok=>(if ok then t acc env else pure ()) >>= fun _=>again (.compLoop e depth it acc env)))
  (hden:∀ it acc env A (Q:Fin→Shared→Prop) (E:Value→Shared→Prop) (s:Shared),wpAny (model G.prog G.w) A ((compTurn e depth it acc env).onRaise (fun x=>do noteFrame x env; theTreesLotGoes x)) Q E s →
   wpAny (model G.prog G.w) (A.under (.compLoop e depth it acc env)) ((model G.prog G.w).den (.compLoop e depth it acc env)) Q E s)
  (hquiet:∀ it acc env,(Code.compLoop e depth it acc env).quiet=true)
  (hstart:∀ it acc env A (R:Result→Shared→Prop) s,codeAny (model G.prog G.w) A (.compLoop e depth it acc env) R s→wpAny (model G.prog G.w) A (pyIter it) (fun it' s'=>codeAny (model G.prog G.w) A (.compLoop e depth it' acc env) R s') (fun _ _=>False) s→codeAny (model G.prog G.w) A (.compStart e depth it acc env) R s)
  (hs:∀ env x,foldedSetIterable iter env x=pure x) :
  uW G lv sc (fun acc env=>do
   let x ← eval iter env
   standAt iter.pos
   let x ← foldedSetIterable iter env x
   let _ ← runOwn (.compStart e depth (← holding [x] (pyIter x)) acc env) env) l (fun σ Q=>di σ fun cur σ1=>fY cur dt dif dem N 0 σ1 Q):=fun σ Q hd A env X s ha he R hl=>by
 refine Qt (Qv (hit σ _ hd A env X s ha he R) (fun x s1 h1=>?_) fun _ _ z=>z)
 refine Qt (Qx (Qt (Qy (hs env x) (Qt (Qw (Qv h1 (fun it s2 h2=>?_) fun _ _ z=>z))))))
 obtain ⟨cur,σ1,X0,X1,S,I,k1,L0,L1,n1,R1,f1,i1,T⟩:=h2
 have hl1:l<σ1.nx:=QZ hl n1
 have loop:codeAny (model G.prog G.w) A (.compLoop e depth it (.ref (X.ρ l)) env) (fun r s'=>match r with
   | .ok f=>wpAny (model G.prog G.w) A (pure ()) (PostT G X env σ.nx Q) bh s'
   | .error e=>cameBackBy (model G.prog G.w) A env bh e s') s2:=by
  refine gv ha he T htg ht hif hem (hturn it _ env) (hden it _ env A) (hquiet it _ env) .refl (QF _) T.fresh hl1 (by rw [L0.ρ l hl]) (fun σ' X' s' q L n' R'=>?_) N 0 σ1 X1 s2 k1 L1 (QF _) R1 f1 i1
  exact Qu ⟨σ',X',q,L0.trans L n1,QC n1 n',R'⟩
 refine Qt (wpAny_runOwn ?_)
 exact hstart it _ env A _ s2 loop (T.self A 0 s2 _ ha.handled i1 loop)
noncomputable def E8:List (Nat×Nat)→List (Nat×V)→List (Nat×V)
 | [],_=>[]
 | (j,i)::r,lo=>match aj i lo with
  | some v=>(j,v)::E8 r lo
  | none=>E8 r lo
set_option tactic.hygienic true in
theorem kz:∀ {fv:List (Nat×Nat)} {lo:List (Nat×V)} {j:Nat} {v:V},aj j (E8 fv lo)=some v→∃ i,(j,i)∈fv∧aj i lo=some v
 | [],_,_,_,h=>by cases h
 | (j,i)::r,lo,k,v,h=>by
  unfold E8 at h
  cases q:aj i lo with
  | none=>
   rw [q] at h
   apply bc;intro z_
   obtain ⟨i',a,b⟩:=kz h
   apply z_;clear z_
   exact ⟨i',QE _ a,b⟩
  | some w=>
   rw [q] at h
   dsimp only at h
   rw [am] at h
   split at h
   ·rename_i e; subst e; cases h; exact ⟨i,QL ..,q⟩
   ·apply bc;intro z_
    obtain ⟨i',a,b⟩:=kz h
    apply z_;clear z_
    exact ⟨i',QE _ a,b⟩
structure CompOk (sc sc':Sc) (scope:Scope) (fv:List (Nat×Nat)):Prop where
 kind:scope.kind=.function
 nd:(scope.names.map (·.1)).Nodup
 nocell:∀ x∈scope.names,x.2≠.cell
 free:∀ x,(x,NameKind.free)∈scope.names→sc.names.lookup x=some .cell
 names:sc'.names=jw scope.names sc.names
 nd':(sc'.names.map (·.1)).Nodup
 fn':sc'.fn=false
 code':sc'.code=0
 fn:sc.fn=true
 fv:∀ p∈fv,∃ x,scope.names[p.1]?=some (x,NameKind.free)∧sc.names[p.2]?=some (x,NameKind.cell)
set_option tactic.hygienic true in
theorem CompOk.cells {scope:Scope} {fv:List (Nat×Nat)} (C:CompOk sc sc' scope fv) {x:Str} (h:(x,NameKind.cell)∈sc'.names):(x,NameKind.free)∈scope.names:=by
 rw [C.names] at h
 unfold jw at h
 apply bc;intro z_
 obtain ⟨p,hp,e⟩:=List.mem_map.mp h
 obtain ⟨y,k⟩:=p
 apply z_;clear z_
 dsimp only at e
 split at e
 ·rename_i q
  cases e
  rw [Bool.and_eq_true,beq_iff_eq] at q
  rw [← q.1]; exact hp
 ·cases e; exact absurd rfl (C.nocell _ hp)
theorem jJ {names:List (Str×NameKind)} {x:Str} {k:NameKind} (h:names.lookup x=some k):(x,k)∈names:=by
 induction names with
 | nil=>cases h
 | cons p r ih=>
  obtain ⟨y,ky⟩:=p
  rw [List.lookup_cons] at h
  cases q:x==y with
  | true=>rw [q] at h; cases h; rw [beq_iff_eq.mp q]; exact QL ..
  | false=>rw [q] at h; exact QE _ (ih h)
theorem pY {scope:Scope} {fv:List (Nat×Nat)} {cl:List (Str×Addr)} {qual:Str} {Q:Env→Shared→Prop} (ok:G.Ok) (C:CompOk sc sc' scope fv) (he:EOk sc env) (R:Rel G X env σ s)
  (h1:∀ x c,cl.lookup x=some c→env.cells.lookup x=some c) (h2:∀ x,(x,NameKind.free)∈scope.names→(cl.lookup x).isSome=true) (h3:cl.Pairwise fun x y=>x.2≠y.2)
  (q:∀ (cenv:Env) (s1:Shared),EOk sc' {cenv with scope:=relabel scope env}→cenv.frame≠some cenv.locals→(∃ m,s1.heap.Ns cenv.locals m)→Rel G (X.frz (ah env) s.heap) {cenv with scope:=relabel scope env} ⟨E8 fv σ.lo,σ.st,σ.nx⟩ s1→Q cenv s1) :
  wpAny (model G.prog G.w) A (newFunctionEnv scope env.globals cl [] qual none .none (some env)) Q bh s:=by
 have hfr0:=he.fn C.fn
 refine wpAny_newFunctionEnv C.nocell (by intro y hy; simp at hy) (fun h' hns hsb=>?_) C.kind
 have hkeep:∀ b o,s.heap.get? b=some o→h'.get? b=some o:=fun b o e=>(hsb.2 b (Q8 (QO e))).trans (QB _ e)
 have hnames:(relabel scope env).names=sc'.names:=by rw [C.names]; exact yg he
 refine q _ _ ⟨hnames,C.kind,he.globals,he.builtins,C.nd',(fun w=>by rw [C.fn'] at w; cases w),fun x hx=>?_,fun w=>absurd C.code' w⟩ ?_ ⟨_,hns⟩ ?_
 ·exact h2 x (C.cells (jJ hx))
 ·show env.frame≠some _
  rw [hfr0]
  intro w
  injection w with w
  apply bc;intro z_
  obtain ⟨o,ho⟩:=R.loc.ltL
  apply z_;clear z_
  rw [w] at ho
  exact absurd (QO ho) (Nat.lt_irrefl _)
 ·refine R.enterC (s1:={s with heap:=h',toks:=s.toks+([]:List (Str×Value)).length}) (cl:=cl) ok ⟨h',_,rfl⟩ hkeep hfr0 hns (QF _) rfl h1 h3 rfl fun j v e=>?_
  apply bc;intro z_
  obtain ⟨i,hm,hi⟩:=kz e
  obtain ⟨x,e1,e2⟩:=C.fv _ hm
  obtain ⟨m0,cm0,g1,g2,g3⟩:=R.loc.ns
  obtain ⟨y,k,val,a,W,c⟩:=g3 i v hi
  apply z_;clear z_
  rw [he.names,e2] at a
  cases a
  rcases c with ⟨c,_⟩ | ⟨_,c1,c2⟩
  ·first | exact nS c | exact nB c | cases c
  refine ⟨x,val,?_,W,h2 x (QY e1),fun cm hcm=>?_⟩
  ·show (relabel scope env).names[j]?=_
   rw [hnames,C.names]
   unfold jw
   rw [List.getElem?_map,e1]
   have:=C.free x (QY e1)
   simp [this]
  ·apply bc;intro z_
   obtain ⟨c,hc⟩:=Option.isSome_iff_exists.mp c1
   obtain ⟨o,ho,hd⟩:=g2 x c hc
   obtain ⟨o',ho',hd'⟩:=hcm x c hc
   apply z_;clear z_
   rw [ho] at ho'; cases ho'
   rw [hd] at hd'
   injection hd' with e
   rw [← e]; exact c2
theorem iY {i:Nat} {x:Str} {v:V} {val:Value} {Q:Unit→Shared→Prop} (hx:sc.names[i]?=some (x,NameKind.local)) (he:EOk sc env) (R:Rel G X env σ s) (W:RepV X σ.nx v val)
  (q:∀ s',Rel G X env (dm i v σ) s'→(∀ b,b≠env.locals→s'.heap.get? b=s.heap.get? b)→Q () s'):wpAny (model G.prog G.w) A (storeName env x val) Q bh s:=by
 have hkf:=he.kind
 have hkind:=j2 he hx
 apply bc;intro z_
 obtain ⟨h1,h2,h3,h4,hb,h5,h6,h7,h8,h9,h10,h11⟩:=R
 obtain ⟨⟨m,cm,n1,n2,n3⟩,f1,f2,f3,f4⟩:=h7
 apply z_;clear z_
 have hL:∀ {b:Addr} {o:Obj},X.F b=some o→b≠env.locals:=fun e w=>by rw [w,f1.1] at e; cases e
 refine wpAny_storeName_local hkind n1 (fun h' hn hs=>q _ ?_ hs.2) (by rw [hkf]; rfl)
 have nl:∀ l o,aj l σ.st=some o→X.ρ l≠env.locals:=f1.2.1
 have ncl:∀ x c,env.cells.lookup x=some c→c≠env.locals:=fun x c e=>by
  by_cases w:env.frame=some env.locals
  ·exact (f2 w x c e).2.2.1
  ·obtain ⟨o,z⟩:=f3 w x c e; exact hL z
 refine ⟨fun a o e=>(hs.2 a (hL e)).trans (h1 a o e),h2,h3,h4,hb,fun l o e=>⟨(h5 l o e).1,(h5 l o e).2.go .refl (QF _) (hs.2 _ (nl l o e))⟩,⟨(hs.2 _ f1.2.2.symm).trans h6.1,h6.2⟩,⟨⟨_,cm,hn,fun x c e=>?_,fun j w e=>?_⟩,f1,f2,f3,f4⟩,h8,h9,h10,fun a o e=>let ⟨z1,z2,z3,z4,r⟩:=h11 a o e; ⟨(hs.2 a z4).trans z1,z2,z3,z4,r⟩⟩
 ·obtain ⟨o,ho,hd⟩:=n2 x c e; exact ⟨o,(hs.2 _ (ncl x c e)).trans ho,hd⟩
 ·have e:aj j (gE i v σ.lo)=some w:=e
  rw [eB] at e
  by_cases hj:j=i
  ·rw [QI hj] at e; cases e; subst hj
   exact ⟨x,.local,val,by rw [he.names]; exact hx,W,.inl ⟨rfl,QI rfl⟩⟩
  ·rw [QH hj] at e
   apply bc;intro z_
   obtain ⟨y,k',val',e1,W',e2⟩:=n3 j w e
   apply z_;clear z_
   refine ⟨y,k',val',e1,W',e2.imp (fun ⟨e3,e4⟩=>⟨e3,?_⟩) id⟩
   rw [QH (fun w'=>hj (mj he.nd (by rw [← he.names]; exact w' ▸ e1) hx))]; exact e4
theorem jd {scope:Scope} {fv:List (Nat×Nat)} {cl:List (Str×Addr)} {qual:Str} {o:AO} {ob:Obj} {cur:Nat→St→Option (Option V)} {I:Nat→Heap→Prop} {it:Value} {Q':Env→Shared→Prop} {tk:Nat}
  (ok:G.Ok) (C:CompOk sc sc' scope fv) (ha:AOk lv A) (he:EOk sc env) (R1:Rel G X1 env σ1 s2) (f1:Frz X1 S) (i1:I 0 s2.heap) (T:Itr G lv tg it S X0 σ1.nx cur I) (L1:X0.le σ1.nx X1)
  (hob:ob.isFreed=false) (ho:∀ X' (h:Heap),X1.le σ1.nx X'→h.get? s2.heap.objs.size=some ob→RepO G X' (σ1.nx+1) h s2.heap.objs.size o)
  (h1:∀ x c,cl.lookup x=some c→env.cells.lookup x=some c) (h2:∀ x,(x,NameKind.free)∈scope.names→(cl.lookup x).isSome=true) (h3:cl.Pairwise fun x y=>x.2≠y.2)
  (q:∀ (cenv:Env) (s4:Shared) (Xb X4:Wd),EOk sc' {cenv with scope:=relabel scope env}→Rel G X4 {cenv with scope:=relabel scope env} ⟨E8 fv σ1.lo,(σ1.nx,o)::σ1.st,σ1.nx+1⟩ s4→Frz X4 S→I 0 s4.heap→X0.le σ1.nx Xb→(∀ b∈S,Xb.F b=none)→Xb.le (σ1.nx+1) X4 →
   Xb.ρ σ1.nx=s2.heap.objs.size →
   (∀ (σ':St) (X':Wd) (s':Shared),Xb.le (σ1.nx+1) X'→σ1.nx+1≤σ'.nx→Rel G X' {cenv with scope:=relabel scope env} σ' s'→∃ X5,X0.le σ1.nx X5∧Rel G X5 env {σ' with lo:=σ1.lo} s'∧RepV X5 σ'.nx (.loc σ1.nx) (.ref s2.heap.objs.size) ∧
    (∃ m,s'.heap.Ns cenv.locals m)∧cenv.locals≠env.locals∧∀ (σ6:St) (s6:Shared) (h':Heap),σ6.st=σ'.st→Rel G X5 env σ6 s6→Heap.SameBut cenv.locals s6.heap h'→Rel G X5 env σ6 {s6 with heap:=h'})→Q' cenv s4) :
  wpAny (model G.prog G.w) A (newFunctionEnv scope env.globals cl [] qual none .none (some env)) Q' bh {s2 with heap:=s2.heap.push ob,toks:=tk}:=by
 apply bc;intro z_
 obtain ⟨R2,L2⟩:=R1.anew (o:=o) (s':={s2 with heap:=s2.heap.push ob,toks:=tk}) aH (R1.size ok) (fun _ _ e=>QB _ e) (fun X' L=>ho X' _ L (QG _ hob)) rfl rfl R1.gens
 apply z_;clear z_
 have hfr0:=he.fn C.fn
 -- the world at hand,and the bO without the iterator
 generalize hX2:({X1 with ρ:=fun l=>if l=σ1.nx then s2.heap.objs.size else X1.ρ l}:Wd)=X2 at R2 L2
 have hρ:X2.ρ σ1.nx=s2.heap.objs.size:=by rw [← hX2]; exact QI rfl
 have f2:Frz X2 S:=f1.up L2
 apply bc;intro z_
 obtain ⟨Xd,Rd,wd,fd,fo⟩:=R2.sws ok f2 T.hbS (fun b _ o e=>e) (fun b=>none) (fun _ _ _ e=>by cases e) rfl rfl R2.gens
 apply z_;clear z_
 refine pY ok C he R2 h1 h2 h3 fun cenv s4 hE hne hns R4=>?_
 have LX1:X1.le σ1.nx (X2.frz (ah env) (s2.heap.push ob)):=L2.trans (gX R2) (QF _)
 have i4:I 0 s4.heap:=T.stable 0 X1 s2.heap s4.heap L1 R1.sub f1 i1 (fun a o e=>R4.sub _ _ (LX1.F _ _ e))
 have outS:∀ b∈ah env,b ∉ S:=fun b hb w=>by
  apply bc;intro z_
  obtain ⟨o',e',_⟩:=f2 b w
  apply z_;clear z_
  rw [(bp R2 hb).1] at e'; cases e'
 have dF:∀ {a:Addr} {o:Obj} {Y:Wd},a ∉ S→Y.F a=some o→(Y.drop S).F a=some o:=fun {a o Y} q e=>by
  show (if a∈S then none else Y.F a)=some o
  rw [QH q]; exact e
 have dU:∀ {a:Addr} {o:Obj} {Y:Wd},(Y.drop S).F a=some o→a ∉ S∧Y.F a=some o:=fun {a o Y} e=>by
  have e:(if a∈S then none else Y.F a)=some o:=e
  by_cases q:a∈S
  ·rw [QI q] at e; cases e
  ·rw [QH q] at e; exact ⟨q,e⟩
 have L04:X0.le σ1.nx ((X2.frz (ah env) (s2.heap.push ob)).drop S):=⟨fun l hl=>(LX1.ρ l hl).trans (L1.ρ l hl),fun a o e=>dF (fun w=>by rw [T.fresh a w] at e; cases e) (LX1.F _ _ (L1.F _ _ e)),fun a o e=>(LX1.P _ _ (L1.F _ _ e)).trans (L1.P _ _ e)⟩
 refine q cenv s4 ((X2.frz (ah env) (s2.heap.push ob)).drop S) _ hE R4 (f2.up (gX R2 (n:=0))) i4 L04 (fun b hb=>QI hb) ⟨fun _ _=>rfl,fun a o e=>(dU e).2,fun _ _ _=>rfl⟩ hρ fun σ' X' s' L' n' R'=>?_
 have Ld:(Xd.frz (ah env) (s2.heap.push ob)).le (σ1.nx+1) X':=⟨fun l hl=>(L'.ρ l hl).trans (wd.ρ l hl).symm,fun a o e=>by
  have e:(if a∈ah env then (s2.heap.push ob).get? a else Xd.F a)=some o:=e
  by_cases hq:a∈ah env
  ·rw [QI hq] at e
   exact L'.F _ _ (dF (outS a hq) (by show (if a∈ah env then (s2.heap.push ob).get? a else X2.F a)=some o; rw [QI hq]; exact e))
  ·rw [QH hq] at e
   by_cases hS:a∈S
   ·rw [fd a hS] at e; cases e
   ·rw [fo a hS] at e
    exact L'.F _ _ (dF hS (by show (if a∈ah env then (s2.heap.push ob).get? a else X2.F a)=some o; rw [QH hq]; exact e)),fun a o e=>by
  have e:(if a∈ah env then (s2.heap.push ob).get? a else Xd.F a)=some o:=e
  show X'.P a=(if a∈ah env then false else Xd.P a)
  by_cases hq:a∈ah env
  ·rw [QI hq] at e
   refine (L'.P a o (dF (outS a hq) (by show (if a∈ah env then (s2.heap.push ob).get? a else X2.F a)=some o; rw [QI hq]; exact e))).trans ?_
   show (if a∈ah env then false else X2.P a)=_
   rw [QI hq,QI hq]
  ·rw [QH hq] at e
   by_cases hS:a∈S
   ·rw [fd a hS] at e; cases e
   ·rw [fo a hS] at e
    refine (L'.P a o (dF hS (by show (if a∈ah env then (s2.heap.push ob).get? a else X2.F a)=some o; rw [QH hq]; exact e))).trans ?_
    show (if a∈ah env then false else X2.P a)=_
    rw [QH hq,QH hq]
    exact (wd.P a o hS e).symm⟩
 apply bc;intro z_
 obtain ⟨R5,L5,hSl⟩:=Rd.leave ok R' Ld n'
 have L05:X0.le σ1.nx (X'.drop (ah env)):=⟨fun l hl=>((L5.ρ l (Q4 hl)).trans (wd.ρ l (Q4 hl))).trans ((L2.ρ l hl).trans (L1.ρ l hl)),fun a o e=>by
  have hS:a ∉ S:=fun w=>by rw [T.fresh a w] at e; cases e
  exact L5.F _ _ (by rw [fo a hS]; exact L2.F _ _ (L1.F _ _ e)),fun a o e=>by
  have hS:a ∉ S:=fun w=>by rw [T.fresh a w] at e; cases e
  exact (L5.P a o (by rw [fo a hS]; exact L2.F _ _ (L1.F _ _ e))).trans ((wd.P a o hS (L2.F _ _ (L1.F _ _ e))).trans ((L2.P _ _ (L1.F _ _ e)).trans (L1.P _ _ e)))⟩
 have frozen:∀ b∈ah env,∃ o,X'.F b=some o:=fun b hb=>by
  obtain ⟨_,_,_,o,ho',_⟩:=bp R2 hb
  exact ⟨o,L'.F _ _ (dF (outS b hb) (by show (if b∈ah env then (s2.heap.push ob).get? b else X2.F b)=some o; rw [QI hb]; exact ho'))⟩
 have CN:X'.F cenv.locals=none:=R'.loc.freeL.1
 have nC:∀ b∈ah env,b≠cenv.locals:=fun b hb w=>by
  obtain ⟨o,e⟩:=frozen b hb
  rw [w,CN] at e; cases e
 obtain ⟨m,cm,hm,_⟩:=R'.loc.ns
 apply z_;clear z_
 refine ⟨X'.drop (ah env),L05,R5,?_,⟨m,hm⟩,(nC _ cM).symm,fun σ6 s6 h' est R6 hs=>?_⟩
 ·have:=RepV.loc (X:=X'.drop (ah env)) (n:=σ'.nx) σ1.nx (QZ (QK _) n')
  have er:(X'.drop (ah env)).ρ σ1.nx=s2.heap.objs.size:=by
   rw [L5.ρ _ (QK _),wd.ρ _ (QK _),hρ]
  rw [er] at this
  exact this
 ·refine R6.chg ?_ (fun l o e=>?_) R'.loc.freeL.2.2 (nC _ cM).symm (fun x c e=>nC c (dM hfr0 e)) (fun b hb o e=>(hs.2 b hb).trans e) (by
   cases q:G.Hp cenv.locals with
   | none=>rfl
   | some o=>exact absurd rfl (R'.hp _ _ q).2.2.2.1)
  ·show (if cenv.locals∈ah env then none else X'.F cenv.locals)=none
   split
   ·rfl
   ·exact CN
  ·rw [est] at e
   exact R'.loc.freeL.2.1 l o e
theorem mS {scope:Scope} {fv:List (Nat×Nat)} (C:CompOk sc sc' scope fv) (he:EOk sc env) (R:Rel G X env σ s) :
  ∃ cl,closureFor scope env=pure cl∧(∀ x c,cl.lookup x=some c→env.cells.lookup x=some c)∧(∀ x,(x,NameKind.free)∈scope.names→(cl.lookup x).isSome=true)∧cl.Pairwise fun x y=>x.2≠y.2:=
 An C.nd (fun x hx=>Option.isSome_iff_exists.mp (he.hasC x (C.free x hx))) R.loc.apart
theorem CompOk.locals {scope:Scope} {fv:List (Nat×Nat)} (C:CompOk sc sc' scope fv):∀ x∈scope.names,x.2=NameKind.local→scope.names.lookup x.1=some .local:=fun x hx e=>by
 apply bc;intro z_
 obtain ⟨i,hi,e'⟩:=List.mem_iff_getElem.mp hx
 obtain ⟨y,k⟩:=x
 apply z_;clear z_
 dsimp only at e
 subst e
 exact dN C.nd (i:=i) (by rw [List.getElem?_eq_getElem hi,e'])
noncomputable def wX (fv:List (Nat×Nat)) (loop:Nat→(Nat→St→Option (Option V))→DM) (cur:Nat→St→Option (Option V)) (o:AO) (σ1:St) (Q:V→St→Prop):Prop:=
 loop σ1.nx cur ⟨E8 fv σ1.lo,(σ1.nx,o)::σ1.st,σ1.nx+1⟩ fun σ3=>Q (.loc σ1.nx) {σ3 with lo:=σ1.lo}
noncomputable def lM (G:Glob) (lv:Nat) (sc':Sc) (e:PySem.Expr) (tg:Bool) (loop:Nat→(Nat→St→Option (Option V))→DM):Prop:=
 ∀ (A:Around) (env:Env) (X0 Xb X:Wd) (S:List Addr) (it:Value) (n0 nb l:Nat) (cur:Nat→St→Option (Option V)) (I:Nat→Heap→Prop) (σ:St) (s:Shared) (Q:St→Prop) (R':Result→Shared→Prop) (acc:Value),AOk lv A→EOk sc' env→Itr G lv tg it S X0 n0 cur I →
  X0.le n0 Xb→n0≤nb→(∀ b∈S,Xb.F b=none)→l<nb→acc=.ref (Xb.ρ l)→(∀ σ' X' s',Q σ'→Xb.le nb X'→nb≤σ'.nx→Rel G X' env σ' s'→R' (.ok .next) s') →
  loop l cur σ Q→Xb.le nb X→nb≤σ.nx→Rel G X env σ s→Frz X S→I 0 s.heap→codeAny (model G.prog G.w) A (.compStart e 0 it acc env) R' s
theorem cY {elt target iter:PySem.Expr} {ifs:List PySem.Expr} {rest:List Comprehension} {scope:Scope} {pos:Pos} {fv:List (Nat×Nat)} {di:DI} {loop:Nat→(Nat→St→Option (Option V))→DM} (ok:G.Ok) (C:CompOk sc sc' scope fv) (hi:SI G lv sc tg iter di)
  (hs:∀ env x,foldedSetIterable iter env x=pure x) (hl:lM G lv sc' (.ListComp elt (⟨target,iter,ifs,0⟩::rest) scope pos) tg loop) :
  SE G lv sc (.ListComp elt (⟨target,iter,ifs,0⟩::rest) scope pos) (fun σ Q=>di σ fun cur σ1=>wX fv loop cur (.list []) σ1 Q):=fun σ Q hd A env X s ha he R=>by
 apply bc;intro z_
 obtain ⟨cl,e0,c1,c2,c3⟩:=mS C he R
 apply z_;clear z_
 rw [eval_ListComp]
 refine wpAny_comprehension_free (use:=none) rfl (hs env) e0 C.kind C.locals (Qv (hi σ _ hd A env X s ha he R) (fun x s1 h1=>Qv h1 (fun it s2 h2=>?_) fun _ _ z=>z) fun _ _ z=>z)
 apply bc;intro z_
 obtain ⟨cur,σ1,X0,X1,S,I,k1,L0,L1,n1,R1,f1,i1,T⟩:=h2
 apply z_;clear z_
 refine wpAny_newList (items:=[]) ?_ (Q3 _)
 refine jd (o:=.list []) (tk:=s2.toks) ok C ha he R1 f1 i1 T L1 rfl (fun X' h L hg=>⟨_,[],hg,⟨rfl,rfl,⟨_,rfl⟩,rfl⟩,.nil⟩) c1 c2 c3 fun cenv s4 Xb X4 hE R4 f4 i4 L04 hbS Lb hρ back=>?_
 refine hl A _ X0 Xb X4 S it σ1.nx (σ1.nx+1) σ1.nx cur I _ s4 _ _ _ ha hE T L04 (Q0 _) hbS (QK _) (by rw [hρ]) (fun σ' X' s' q L' n' R'=>?_) k1 Lb (QF _) R4 f4 i4
 apply bc;intro z_
 obtain ⟨X5,L5,R5,W5,hm,hne,chg⟩:=back σ' X' s' L' n' R'
 obtain ⟨m,hm⟩:=hm
 apply z_;clear z_
 refine ⟨m,hm,fun h' hs'=>?_⟩
 exact ⟨_,_,X5,q,L0.trans L5 n1,QC n1 (QC (Q0 _) n'),chg _ s' h' rfl R5 hs',W5⟩
theorem fz {elt target iter:PySem.Expr} {ifs:List PySem.Expr} {rest:List Comprehension} {scope:Scope} {pos p:Pos} {fv:List (Nat×Nat)} {di:DI} {loop:Nat→(Nat→St→Option (Option V))→DM} {i:Nat} {y:Str} {py:Pos} (ok:G.Ok) (C:CompOk sc sc' scope fv) (hi:SI G lv sc tg iter di)
  (hs:∀ env x,foldedSetIterable iter env x=pure x) (hl:lM G lv sc' (.ListComp elt (⟨target,iter,ifs,0⟩::rest) scope pos) tg loop) (hy:sc.names[i]?=some (y,NameKind.local))
  (hsw:∀ env,EOk sc env→swapsWith (.ListComp elt (⟨target,iter,ifs,0⟩::rest) scope pos) (some (.Name y py)) p.line env=pure true) :
  SS G lv sc (.Assign [.Name y py] (.ListComp elt (⟨target,iter,ifs,0⟩::rest) scope pos) p) (fun σ Q=>di σ fun cur σ1=>wX fv loop cur (.list []) σ1 fun v σ2=>Q .next (dm i v σ2)):=fun σ Q hd A env X s ha he R=>by
 apply bc;intro z_
 obtain ⟨cl,e0,c1,c2,c3⟩:=mS C he R
 apply z_;clear z_
 rw [exec_Assign_Name_used _ _ _ _ (hsw env he)]
 refine Qt (Qx (Qt ?_))
 show wpAny _ _ (do let _ ← comprehension _ scope env _ (newList []) _ _ (some (assign (.Name y py) env))) _ _ _
 refine Qt ?_
 refine wpAny_comprehension_free rfl (hs env) e0 C.kind C.locals (Qv (hi σ _ hd A env X s ha he R) (fun x s1 h1=>Qv h1 (fun it s2 h2=>?_) fun _ _ z=>z) fun _ _ z=>z)
 apply bc;intro z_
 obtain ⟨cur,σ1,X0,X1,S,I,k1,L0,L1,n1,R1,f1,i1,T⟩:=h2
 apply z_;clear z_
 refine wpAny_newList (items:=[]) ?_ (Q3 _)
 refine jd (o:=.list []) (tk:=s2.toks) ok C ha he R1 f1 i1 T L1 rfl (fun X' h L hg=>⟨_,[],hg,⟨rfl,rfl,⟨_,rfl⟩,rfl⟩,.nil⟩) c1 c2 c3 fun cenv s4 Xb X4 hE R4 f4 i4 L04 hbS Lb hρ back=>?_
 refine hl A _ X0 Xb X4 S it σ1.nx (σ1.nx+1) σ1.nx cur I _ s4 _ _ _ ha hE T L04 (Q0 _) hbS (QK _) (by rw [hρ]) (fun σ' X' s' q L' n' R'=>?_) k1 Lb (QF _) R4 f4 i4
 apply bc;intro z_
 obtain ⟨X5,L5,R5,W5,hm,hne,chg⟩:=back σ' X' s' L' n' R'
 obtain ⟨m,hm⟩:=hm
 apply z_;clear z_
 refine wpAny_assign_Name (iY hy he R5 W5 fun s6 R6 hk=>?_)
 refine ⟨m,jr hm (hk _ hne),fun h' hs'=>?_⟩
 refine Qu (Qu ?_)
 exact ⟨.next,_,X5,q,L0.trans L5 n1,QC n1 (QC (Q0 _) n'),chg _ s6 h' rfl R6 hs',.next⟩
theorem nJ {e:PySem.Expr} {depth:Nat} {it acc:Value} {env:Env} {target:PySem.Expr} {ifs:List PySem.Expr} {q:Pos} {t:Sem Unit} {c:Code}
  (h:compTurn e depth it acc env=(standAt q >>= fun _=>pyNext it >>= fun r=>match r with
   | none=>pure (.done .next)
   | some v=>letOwnedTupleGo target it v >>= fun _=>assign target env v >>= fun _=>mC ifs env >>= fun ok=>if ok then (t >>= fun _=>again c) else again c)) :
  compTurn e depth it acc env=(standAt q >>= fun _=>pyNext it >>= fun r=>match r with
   | none=>pure (.done .next)
   | some v=>letOwnedTupleGo target it v >>= fun _=>assign target env v >>= fun _=>mC ifs env >>= fun ok=>(if ok then t else pure ()) >>= fun _=>again c):=by
 rw [h]
 congr 1
 funext _
 congr 1
 funext r
 cases r with
 | none=>rfl
 | some v=>
  dsimp only
  congr 1
  funext _
  congr 1
  funext _
  congr 1
  funext ok
  cases ok with
  | true=>simp only [if_true]
  | false=>simp only [Bool.false_eq_true,if_false,pure_bind]
theorem cT {elt target iter:PySem.Expr} {ifs:List PySem.Expr} {scope:Scope} {pos:Pos} {dt:DT} {dif:DB} {de:DE} (N:Nat) (htg:tg=true→fK target=true) (ht:ST G lv sc' target dt) (hif:oj G lv sc' ifs dif) (he':SE G lv sc' elt de) :
  lM G lv sc' (.ListComp elt [⟨target,iter,ifs,0⟩] scope pos) tg (fun l cur=>fY cur dt dif (fun σ Q=>de σ fun x σ1=>ii [.loc l,x] σ1 fun _ σ2=>Q σ2) N 0):=by
 intro A env X0 Xb X S it n0 nb l cur I σ s Q R' acc ha he T hX hN hbS hl hacc hQ hd L hn R f i
 have loop:codeAny (model G.prog G.w) A (.compLoop (.ListComp elt [⟨target,iter,ifs,0⟩] scope pos) 0 it acc env) R' s:=
  gv (e:=.ListComp elt [⟨target,iter,ifs,0⟩] scope pos) (depth:=0) (q:=iter.pos) (t:=fun acc env=>(do let _ ← call (.builtin "list.append") [acc,← eval elt env])) ha he T htg ht hif (rB he') (nJ (by rfl)) (fun Q E s h=>h) (by rfl) hX hN hbS hl hacc hQ N 0 σ X s hd L hn R f i
 exact codeAny_compStart_list loop (Qv (T.self A 0 s _ ha.handled i loop) (fun _ _ z=>z) fun _ _ z=>z.elim)
theorem rq (elt target iter target' iter':PySem.Expr) (ifs ifs':List PySem.Expr) (scope:Scope) (pos:Pos) (it acc:Value) (env:Env) :
  compTurn (.ListComp elt [⟨target,iter,ifs,0⟩,⟨target',iter',ifs',0⟩] scope pos) 0 it acc env=(standAt iter.pos >>= fun _=>pyNext it >>= fun r=>match r with
   | none=>pure (.done .next)
   | some v=>letOwnedTupleGo target it v >>= fun _=>assign target env v >>= fun _=>mC ifs env >>= fun ok=>(if ok then (do
   let x ← eval iter' env
   standAt iter'.pos
   let x ← foldedSetIterable iter' env x
   let _ ← runOwn (.compStart (.ListComp elt [⟨target,iter,ifs,0⟩,⟨target',iter',ifs',0⟩] scope pos) 1 (← holding [x] (pyIter x)) acc env) env) else pure ()) >>= fun _=>again (.compLoop (.ListComp elt [⟨target,iter,ifs,0⟩,⟨target',iter',ifs',0⟩] scope pos) 0 it acc env)):=by
 have e:compTurn (.ListComp elt [⟨target,iter,ifs,0⟩,⟨target',iter',ifs',0⟩] scope pos) 0 it acc env=(standAt iter.pos >>= fun _=>pyNext it >>= fun r=>match r with
   | none=>pure (.done .next)
   | some v=>letOwnedTupleGo target it v >>= fun _=>assign target env v >>= fun _=>mC ifs env >>= fun ok=>if ok then (eval iter' env >>= fun x=>standAt iter'.pos >>= fun _=>foldedSetIterable iter' env x >>= fun x=>holding [x] (pyIter x) >>= fun i=>
     runOwn (.compStart (.ListComp elt [⟨target,iter,ifs,0⟩,⟨target',iter',ifs',0⟩] scope pos) 1 i acc env) env >>= fun _=>again (.compLoop (.ListComp elt [⟨target,iter,ifs,0⟩,⟨target',iter',ifs',0⟩] scope pos) 0 it acc env)) else again (.compLoop (.ListComp elt [⟨target,iter,ifs,0⟩,⟨target',iter',ifs',0⟩] scope pos) 0 it acc env)):=by rfl
 rw [e]
 congr 1
 funext _
 congr 1
 funext r
 cases r with
 | none=>rfl
 | some v=>
  dsimp only
  congr 1
  funext _
  congr 1
  funext _
  congr 1
  funext ok
  cases ok with
  | true=>simp only [if_true,bind_assoc,pure_bind]
  | false=>simp only [Bool.false_eq_true,if_false,pure_bind]
theorem ux {elt target iter target' iter':PySem.Expr} {ifs ifs':List PySem.Expr} {scope:Scope} {pos:Pos} {dt dt':DT} {dif dif':DB} {di:DI} {de:DE} (N N':Nat) (htg:tg=true→fK target=true) (ht:ST G lv sc' target dt) (hif:oj G lv sc' ifs dif)
  (htg':tg'=true→fK target'=true) (hi':SI G lv sc' tg' iter' di) (ht':ST G lv sc' target' dt') (hif':oj G lv sc' ifs' dif') (he':SE G lv sc' elt de) (hs:∀ env x,foldedSetIterable iter' env x=pure x) :
  lM G lv sc' (.ListComp elt [⟨target,iter,ifs,0⟩,⟨target',iter',ifs',0⟩] scope pos) tg (fun l cur=>fY cur dt dif (fun σ Q=>di σ fun cur' σ1=>fY cur' dt' dif' (fun σ Q=>de σ fun x σ1=>ii [.loc l,x] σ1 fun _ σ2=>Q σ2) N' 0 σ1 Q) N 0):=by
 intro A env X0 Xb X S it n0 nb l cur I σ s Q R' acc ha he T hX hN hbS hl hacc hQ hd L hn R f i
 have loop:codeAny (model G.prog G.w) A (.compLoop (.ListComp elt [⟨target,iter,ifs,0⟩,⟨target',iter',ifs',0⟩] scope pos) 0 it acc env) R' s:=
  gv (e:=.ListComp elt [⟨target,iter,ifs,0⟩,⟨target',iter',ifs',0⟩] scope pos) (depth:=0) (q:=iter.pos) (t:=fun acc env=>(do
   let x ← eval iter' env
   standAt iter'.pos
   let x ← foldedSetIterable iter' env x
   let _ ← runOwn (.compStart (.ListComp elt [⟨target,iter,ifs,0⟩,⟨target',iter',ifs',0⟩] scope pos) 1 (← holding [x] (pyIter x)) acc env) env)) ha he T htg ht hif
   (z9 (e:=.ListComp elt [⟨target,iter,ifs,0⟩,⟨target',iter',ifs',0⟩] scope pos) (depth:=1) (N:=N') hi' htg' ht' hif' (rB he') (fun _ _ _=>nJ (by rfl)) (fun _ _ _ _ _ _ _ h=>h) (fun _ _ _=>by rfl) (fun it acc env A R s h0 h=>by
    refine codeAny_of_tree ?_
    show wpAny _ _ ((compStart (.ListComp elt [⟨target,iter,ifs,0⟩,⟨target',iter',ifs',0⟩] scope pos) 1 it acc env).onRaise (fun x=>do noteFrame x env; standAt theWindowsPlace)) _ _ s
    refine wpAny_notedAt ?_
    unfold compStart
    show wpAny _ _ (ask >>= _) _ _ s
    refine Qt (wpAny_askSetting (wpAny_ite ?_))
    split
    ·first
      | exact Qt (Qu (Qu (And.intro rfl h0)))
      | exact Qu (And.intro rfl h0)
    ·first
      | exact Qt (Ra (Qt (Qx (Qt (Qv h (fun it' s' h'=>Qu (And.intro rfl h')) fun _ _ z=>z.elim)))))
      | (refine Qt (Ra ?_); show wpAny _ _ (standAt iter'.pos >>= _) _ _ s; exact Qt (Qx (Qt (Qv h (fun it' s' h'=>Qu (And.intro rfl h')) fun _ _ z=>z.elim))))) hs)
   (rq ..) (fun Q E s h=>h) (by rfl) hX hN hbS hl hacc hQ N 0 σ X s hd L hn R f i
 exact codeAny_compStart_list loop (Qv (T.self A 0 s _ ha.handled i loop) (fun _ _ z=>z) fun _ _ z=>z.elim)
theorem mI {p:Pos} (ok:G.Ok):SE G lv sc (.Dict [] [] p) (fun σ Q=>g7 (.dict []) σ Q):=fun σ Q hd A env X s ha he R=>by
 refine wpAny_Dict_empty ?_
 apply bc;intro z_
 obtain ⟨R',L⟩:=R.anew (o:=.dict []) (s':={s with heap:=s.heap.push {cls:=.type "dict",data:=.dict #[]}}) aH (R.size ok) (fun _ _ e=>QB _ e)
  (fun X' L=>⟨[],Heap.DictOf.new s.heap,trivial⟩) rfl rfl R.gens
 apply z_;clear z_
 refine ⟨_,_,_,hd,L,Q0 _,R',?_⟩
 have:=RepV.loc (X:={X with ρ:=fun l=>if l=σ.nx then s.heap.objs.size else X.ρ l}) (n:=σ.nx+1) σ.nx (QK _)
 dsimp only at this
 rw [QI rfl] at this
 exact this
theorem yf:PlainAttrs "re.Pattern" where
 ga:=⟨"object.__getattribute__",by rw [typeLookup_type,builtinLookup_eq_fast]; kernel_rfl,by decide +kernel⟩
 noGetattr:=by rw [typeLookup_type,builtinLookup_eq_fast]; kernel_rfl
theorem jK:Slot "re.Pattern" "search" "re.Pattern.search":=
 .of (owner:="re.Pattern") (n:="search") (by rw [typeLookup_type,builtinLookup_eq_fast]; kernel_rfl) (by decide +kernel) (by decide +kernel) (by decide +kernel)
  (by first | exact .inl (by decide +kernel) | exact .inr (by decide +kernel)) (by rw [isSubtype_type]; kernel_rfl)
theorem pL:typeOf (.builtin "re.Pattern.search")=pure (.type "method_descriptor"):=by show builtinType _=_; rw [QU]; kernel_rfl
theorem mU:entryFor table "re.Pattern.search"=some Builtin.«re.Pattern.search»:=entryFor_of_tree (by kernel_rfl)
theorem xD:Manifest.owners.lookup (String.ofList ['n','r','e','t','t','a','P','.','e','r'].reverse)=some Manifest.sig_re_Pattern:=by kernel_rfl
theorem ox (a b:Value):argsOk "re.Pattern.search" ⟨[a,b],[]⟩:=by
 unfold argsOk; rw [signature?_of (id:="re.Pattern.search") (n:=['h','c','r','a','e','s']) (o:=['n','r','e','t','t','a','P','.','e','r']) (by kernel_rfl) xD]; kernel_rfl
structure ReOk (G:Glob) (pats:List Nat) (words:List (List Nat)):Prop where
 obj:∀ a∈pats,∃ o,G.K.lookup a=some o∧o.cls=.type "re.Pattern"∧o.dict=none
 none:∀ a∈pats,∀ x∈words,∀ t,peek G.K ⟨G.prog,G.w.params⟩ (Builtin.«re.Pattern.search» ⟨[.ref a,.str ⟨x.toArray⟩ t],[]⟩)=some (.done (.ret .none))
noncomputable def BZ (words:List (List Nat)) (vs:List V) (σ:St) (Q:V→St→Prop):Prop:=nV vs fun v=>bv v fun x=>onT (gM x words) (Q .non σ)
noncomputable def Pi (v:V) (k:Nat→Prop):Prop:=match v with | .gl a=>k a | _=>False
theorem uR {o:PySem.Expr} {do_:DE} {pats:List Nat} {words:List (List Nat)} (ok:G.Ok) (H:ReOk G pats words) (ho:SE G lv sc o do_) :
  SM G lv sc o "search" [] (fun σ K=>do_ σ fun v σ1=>Pi v fun a=>onT (iL a pats) (K (fun vs _=>BZ words vs) σ1)):=fun σ K hd A env X s hA he R=>by
 refine ho.run hd hA he R fun ov s1 v σ1 X1 k1 L1 n1 R1 W1=>fun pl Q' k=>?_
 cases v with
 | gl a=>
  cases (W1.inv:ov=.ref a)
  apply bc;intro z_
  obtain ⟨q,k1⟩:=onT.out k1
  have hm:a∈pats:=lZ q
  obtain ⟨ob,h1,h2,h3⟩:=H.obj a hm
  apply z_;clear z_
  have hT:∀ {s:Shared},G.K.In s.heap→s.TypeIs (.ref a) "re.Pattern":=fun hK=>⟨ob,hK _ _ h1,h2⟩
  refine getMethod_builtin (hT (R1.K ok)) yf jK pL (fun b e=>by cases e; exact ⟨ob,R1.K ok _ _ h1,h3⟩) (k _ _ _ _ _ _ k1 L1 n1 R1 ?_)
  intro A2 X2 σ2 s2 vs kvs Q vals kvals ha2 L hn hd2 R2 Wv Wk
  refine ⟨fun Q' k=>Qu (k .machine (by decide)),Wv.on1_ hd2 fun x val Wx hd2=>Wx.str_ hd2 fun x t hd2=>?_⟩
  apply bc;intro z_
  obtain ⟨q2,hd2⟩:=onT.out hd2
  apply z_;clear z_
  have hx:x∈words:=by rw [cF] at q2; exact List.contains_iff_mem.mp q2
  exact Qz jK (hT (R2.K ok)) mU ((Looks.of_peek (M:=model G.prog G.w) (R2.K ok) (H.none a hm x hx t)).here ⟨.none,rfl,Post.ret hd2 R2 .non⟩) (ox _ _)
 | _=>exact k1.elim
section
variable {b:Array UInt8} {t:Tok} {x:PySem.Str} {n:Nat}
theorem rf {id:String}:Builtin._codecs.decodeRoad id b (PySem.Str.ofString "ascii") none []=(Builtin._codecs.runDecoder id Builtin._codecs.asciiDecoder none true b 0 [] >>= fun r=>mkStr ⟨r.1⟩):=by kernel_rfl
theorem rp {t1 t2:Tok} {d:PySem.Str} (hd:∀ id,Builtin._codecs.runDecoder id Builtin._codecs.asciiDecoder none true b 0 []=pure (x.cps,n)) :
  Meets (Builtin.«_codecs.decode.text» ⟨[.bytes b t,.str (PySem.Str.ofString "ascii") t1,.none,.str d t2],[]⟩) (fun _ R s=>x.length≤sizeLine∧R (.ok (.ret (.str x s.toks))) {s with toks:=s.toks+1}):=by
 refine .of_wp fun prog w A R s hS=>?_
 apply bc;intro z_
 obtain ⟨hsz,h⟩:=hS
 apply z_;clear z_
 show wpAny _ _ (Builtin.Bytes.bytesLike _ (.bytes b t) >>= fun r=>_) _ _ s
 refine Qt (Qy KBd.like_eq ?_)
 refine Qt (Qy KBd.held_eq ?_)
 show wpAny _ _ (Builtin._codecs.decodeRoad _ b (PySem.Str.ofString "ascii") none [] >>= fun v=>_) _ _ s
 rw [rf,hd]
 refine Qt (Qt (Qu ?_))
 exact wpAny_mkStr (Qu ⟨_,rfl,h⟩) hsz
theorem oE (c:UInt8) (cs:List UInt8) (t u:Tok):Builtin.«bytes.decode» ⟨[.bytes (c::cs).toArray t,.str (PySem.Str.ofString "ascii") u],[]⟩=(mkStr (PySem.Str.ofString "utf-8") >>= fun _=>mkStr (PySem.Str.ofString "ascii") >>= fun e=>mkStr (PySem.Str.ofString "bytes.decode") >>= fun d=>
  call (.builtin "_codecs.decode.text") [.bytes (c::cs).toArray t,e,.none,d] >>= fun v=>ret v):=by kernel_rfl
theorem oZ {c:UInt8} {cs:List UInt8} {u:Tok} (hd:∀ id,Builtin._codecs.runDecoder id Builtin._codecs.asciiDecoder none true (c::cs).toArray 0 []=pure (x.cps,n)) :
  Meets (Builtin.«bytes.decode» ⟨[.bytes (c::cs).toArray t,.str (PySem.Str.ofString "ascii") u],[]⟩) (fun _ R s=>x.length≤sizeLine∧∀ t' k,R (.ok (.ret (.str x t'))) {s with toks:=k}):=by
 refine .of_wp fun prog w A R s hS=>?_
 obtain ⟨hsz,h⟩:=hS
 rw [oE]
 refine Qt (wpAny_mkStr ?_ (by decide))
 refine Qt (wpAny_mkStr ?_ (by decide))
 refine Qt (wpAny_mkStr ?_ (by decide))
 exact Qt (call_function_meets KBd.kind_text KBd.plain_text KBd.entry_text (KBd.args_text _ _ _ _) (rp hd) ⟨hsz,Qu ⟨_,rfl,h _ _⟩⟩)
theorem ij (a b:Value):argsOk "bytes.decode" ⟨[a,b],[]⟩:=by unfold argsOk; kernel_rfl
end
noncomputable def nP:List (List UInt8):=[[65],[66],[67],[68],[69],[70],[71],[72],[66,65],[66,66],[66,67],[66,68],[66,69],[66,70],[66,71],[66,72],[66,73]]
noncomputable def kM:List UInt8→List Nat
 | []=>[]
 | c::r=>c.toNat::kM r
noncomputable def LM:List UInt8→List UInt8→Bool
 | [],[]=>true
 | a::r,b::t=>match Nat.beq a.toNat b.toNat with
  | true=>LM r t
  | false=>false
 | _,_=>false
theorem vV:∀ {x y:List UInt8},LM x y=true→x=y
 | [],[],_=>rfl
 | a::r,b::t,h=>by
  unfold LM at h
  cases q:Nat.beq a.toNat b.toNat with
  | false=>rw [q] at h; first | exact nS h | exact nB h | cases h
  | true=>
   rw [q] at h
   rw [vV h,UInt8.toNat_inj.mp (QP q)]
 | [],_::_,h=>by cases h
 | _::_,[],h=>by cases h
noncomputable def oD (x:List UInt8):List (List UInt8)→Bool
 | []=>false
 | y::r=>match LM x y with
  | true=>true
  | false=>oD x r
theorem lY {x:List UInt8}:∀ {l:List (List UInt8)},oD x l=true→x∈l
 | [],h=>by cases h
 | y::r,h=>by
  unfold oD at h
  cases q:LM x y with
  | true=>rw [vV q]; exact QL ..
  | false=>rw [q] at h; exact QE _ (lY h)
theorem ui:∀ x∈nP,∃ c cs n,x=c::cs∧(∀ id,Builtin._codecs.runDecoder id Builtin._codecs.asciiDecoder none true (c::cs).toArray 0 []=pure ((kM x).toArray,n))∧(kM x).length≤1000:=by
 intro x hx
 simp only [nP,List.mem_cons,List.not_mem_nil,or_false] at hx
 rcases hx with rfl | rfl | rfl | rfl | rfl | rfl | rfl | rfl | rfl | rfl | rfl | rfl | rfl | rfl | rfl | rfl | rfl
 ·exact ⟨_,_,1,rfl,fun id=>by kernel_rfl,by decide⟩
 ·exact ⟨_,_,1,rfl,fun id=>by kernel_rfl,by decide⟩
 ·exact ⟨_,_,1,rfl,fun id=>by kernel_rfl,by decide⟩
 ·exact ⟨_,_,1,rfl,fun id=>by kernel_rfl,by decide⟩
 ·exact ⟨_,_,1,rfl,fun id=>by kernel_rfl,by decide⟩
 ·exact ⟨_,_,1,rfl,fun id=>by kernel_rfl,by decide⟩
 ·exact ⟨_,_,1,rfl,fun id=>by kernel_rfl,by decide⟩
 ·exact ⟨_,_,1,rfl,fun id=>by kernel_rfl,by decide⟩
 ·exact ⟨_,_,2,rfl,fun id=>by kernel_rfl,by decide⟩
 ·exact ⟨_,_,2,rfl,fun id=>by kernel_rfl,by decide⟩
 ·exact ⟨_,_,2,rfl,fun id=>by kernel_rfl,by decide⟩
 ·exact ⟨_,_,2,rfl,fun id=>by kernel_rfl,by decide⟩
 ·exact ⟨_,_,2,rfl,fun id=>by kernel_rfl,by decide⟩
 ·exact ⟨_,_,2,rfl,fun id=>by kernel_rfl,by decide⟩
 ·exact ⟨_,_,2,rfl,fun id=>by kernel_rfl,by decide⟩
 ·exact ⟨_,_,2,rfl,fun id=>by kernel_rfl,by decide⟩
 ·exact ⟨_,_,2,rfl,fun id=>by kernel_rfl,by decide⟩
noncomputable def fW:List Nat:=[97,115,99,105,105]
noncomputable def rQ (vs:List V) (σ:St) (Q:V→St→Prop):Prop:=uo vs fun v w=>sn v fun b=>bv w fun e=>match ly e fW with
 | true=>(match oD b nP with
  | true=>Q (.str (kM b)) σ
  | false=>False)
 | false=>False
theorem uq:CB G lv (.builtin "bytes.decode") [] (fun vs _=>rQ vs):=CB.of (fun a w=>by cases w) fun vs σ Q hd A env X s vals ha R W=>by
 refine W.on2_ hd fun v w val val' Wv Ww hd=>Wv.byt_ hd fun b t hd=>Ww.str_ hd fun e u hd=>?_
 cases q1:ly e fW with
 | false=>simp only [q1] at hd
 | true=>
  simp only [q1] at hd
  cases q2:oD b nP with
  | false=>simp only [q2] at hd
  | true=>
   simp only [q2] at hd
   have he:e=fW:=by rw [dZ] at q1; exact Re q1
   subst he
   apply bc;intro z_
   obtain ⟨c,cs,m,rfl,h1,h2⟩:=ui b (lY q2)
   apply z_;clear z_
   have hs:(⟨fW.toArray⟩:Str)=Str.ofString "ascii":=by decide +kernel
   rw [hs]
   refine call_meets FB.slot_bytes_decode (typeIs_bytes _ _ _) FB.entry_bytes_decode (ij _ _) (oZ (x:=⟨(kM (c::cs)).toArray⟩) h1) ⟨by rw [bl,QN]; omega,fun t' k=>?_⟩
   exact Post.ret hd (R.toks _) (.str _ _)
noncomputable def Ep (v:V) (σ:St) (Q:List Nat→St→Prop):Prop:=bv v fun x=>fits x.length (Q x σ)
theorem C8 {a x m:Nat} (h:a+1000000*(m+1)≤16000000) (hx:x≤1000000):a+x+1000000*m≤16000000:=by omega
theorem Es {v:V} {val:Value} {Q:List Nat→St→Prop} (h:Ep v σ Q) (R:Rel G X env σ s) (W:RepV X σ.nx v val) :
  wpAny (model G.prog G.w) A (formatField val Str.empty) (fun r s'=>∃ x t,r=.str ⟨x.toArray⟩ t∧x.length≤1000000∧Q x σ∧Rel G X env σ s') bh s:=by
 refine W.str_ h fun x t h=>?_
 apply bc;intro z_
 obtain ⟨hz,h⟩:=fits.out h
 apply z_;clear z_
 exact wpAny_formatField_str ⟨x,t,rfl,hz,h,R⟩ ⟨x,_,rfl,hz,h,R.toks _⟩
noncomputable abbrev Dq:=St→(List Nat→St→Prop)→Prop
noncomputable def zI (G:Glob) (lv:Nat) (sc:Sc) (es:List PySem.Expr) (d:Dq):Prop:=∀ σ Q,d σ Q→∀ A env X s (acc:List Nat) (F:Str→Shared→Prop),AOk lv A→EOk sc env→Rel G X env σ s→acc.length+1000000*es.length≤16000000 →
 (∀ (x:List Nat) σ' X' s',Q x σ'→X.le σ.nx X'→σ.nx≤σ'.nx→Rel G X' env σ' s'→(acc++x).length≤acc.length+1000000*es.length→F ⟨(acc++x).toArray⟩ s')→Joins (model G.prog G.w) A bh (evalEach es env) ⟨acc.toArray⟩ F s
theorem oa:zI G lv sc [] (fun σ Q=>Q [] σ):=fun σ Q hd A env X s acc F ha he R hz k=>by
 have:=k [] σ X s hd .refl (QF _) R (by simp)
 rw [List.append_nil] at this
 exact this
theorem pQ {e:PySem.Expr} {es:List PySem.Expr} {d:Dq} {ds:Dq}
  (h:∀ σ Q,d σ Q→∀ A env X s,AOk lv A→EOk sc env→Rel G X env σ s→wpAny (model G.prog G.w) A (eval e env) (fun v s1=>∃ x t σ1 X1,v=.str ⟨x.toArray⟩ t∧x.length≤1000000∧Q x σ1∧X.le σ.nx X1∧σ.nx≤σ1.nx∧Rel G X1 env σ1 s1) bh s)
  (hs:zI G lv sc es ds) (hev:∀ env,evalEach (e::es) env=eval e env::evalEach es env):zI G lv sc (e::es) (fun σ Q=>d σ fun x σ1=>ds σ1 fun y σ2=>Q (x++y) σ2):=fun σ Q hd A env X s acc F ha he R hz k=>by
 rw [hev]
 refine Qv (h σ _ hd A env X s ha he R) (fun v s1 y_=>?_) fun _ _ z=>z
 apply bc;intro z_
 obtain ⟨x,t,σ1,X1,e1,hx,q1,L1,n1,R1⟩:=y_
 apply z_;clear z_
 refine ⟨⟨x.toArray⟩,t,e1,?_,?_⟩
 ·rw [fH,bl,List.length_append,QN]
  exact QC (QC (Nat.le_add_right ..) (C8 hz hx)) (by decide)
 ·rw [fH]
  refine hs σ1 _ q1 A env X1 s1 (acc++x) F ha he R1 (by rw [List.length_append]; exact C8 hz hx) fun y σ2 X2 s2 q2 L2 n2 R2 hl=>?_
  rw [List.append_assoc] at hl ⊢
  refine k (x++y) σ2 X2 s2 q2 (L1.trans L2 n1) (QC n1 n2) R2 (QC hl ?_)
  rw [List.length_append,List.length_cons,Nat.mul_succ,Nat.add_assoc,Nat.add_comm x.length]
  exact Nat.add_le_add_left (Nat.add_le_add_left hx _) _
theorem eQ {x:Str} {cs:List Nat} {k:Nat} {p:Pos} {es:List PySem.Expr} {ds:Dq} (hx:x=⟨cs.toArray⟩) (hz:Nat.ble cs.length 1000000=true) (hs:zI G lv sc es ds) (hev:∀ env,evalEach (.Constant (.str x) k p::es) env=eval (.Constant (.str x) k p) env::evalEach es env) :
  zI G lv sc (.Constant (.str x) k p::es) (fun σ Q=>ds σ fun y σ2=>Q (cs++y) σ2):=
 pQ (d:=fun σ Q=>Q cs σ) (fun σ Q hd A env X s ha he R=>by
  subst hx
  have hz':cs.length≤1000000:=@QD cs.length 1000000 hz
  exact wpAny_Constant_str ⟨cs,_,σ,X,rfl,hz',hd,.refl,QF _,R.toks _⟩) hs hev
theorem ke {e:PySem.Expr} {d:DE} {p:Pos} {es:List PySem.Expr} {ds:Dq} (h:SE G lv sc e d) (hs:zI G lv sc es ds) (hev:∀ env,evalEach (.FormattedValue e (-1) none p::es) env=eval (.FormattedValue e (-1) none p) env::evalEach es env) :
  zI G lv sc (.FormattedValue e (-1) none p::es) (fun σ Q=>d σ fun v σ1=>Ep v σ1 fun x σ2=>ds σ2 fun y σ3=>Q (x++y) σ3):=
 pQ (d:=fun σ Q=>d σ fun v σ1=>Ep v σ1 Q) (fun σ Q hd A env X s ha he R=>by
  refine wpAny_FormattedValue_plain (h.run hd ha he R fun val s1 v σ1 X1 k1 L1 n1 R1 W1=>?_)
  exact Qv (Es k1 R1 W1) (fun r s2 ⟨x,t,e1,hz,q,R2⟩=>⟨x,t,σ1,X1,e1,hz,q,L1,n1,R2⟩) fun _ _ z=>z) hs hev
theorem fR {es:List PySem.Expr} {d:Dq} {p:Pos} (h:zI G lv sc es d) (h2:2≤es.length) (h3:es.length≤15):SE G lv sc (.JoinedStr es p) (fun σ Q=>d σ fun x σ1=>Q (.str x) σ1):=fun σ Q hd A env X s ha he R=>by
 match es,h2,h3,h with
 | v1::v2::rest,_,h3,h=>
  refine wpAny_JoinedStr ?_
  refine h σ _ hd A env X s [] _ ha he R (by simp only [List.length_cons,List.length_nil] at h3 ⊢; omega) fun x σ1 X1 s1 q1 L1 n1 R1 hl=>?_
  rw [List.nil_append] at hl ⊢
  rw [List.length_nil,Nat.zero_add,List.length_cons,List.length_cons] at hl
  rw [List.length_cons,List.length_cons] at h3
  have hz:x.length≤15000000:=QC hl (Nat.mul_le_mul_left 1000000 h3)
  refine ⟨by rw [bl,QN]; exact QC hz (by decide),?_⟩
  exact ⟨_,σ1,X1,q1,L1,n1,R1.toks _,.str x _⟩
noncomputable def CG (vs:List V) (σ:St) (Q:V→St→Prop):Prop:=uo vs fun u v=>iT u fun l=>onS (kq l σ) fun kvs=>bv v fun k=>Q (match jH k kvs with | some v=>v | none=>.non) σ
theorem cu {b:List PySem.Stmt}:i8 G lv sc b (fun _ _=>False):=fun σ Q hd=>hd.elim
theorem jA {e:PySem.Expr}:SE G lv sc e (fun _ _=>False):=fun σ Q hd=>hd.elim
theorem qT {k:List Nat} {kvs:List (List Nat×V)}:∀ {kvals:List (Str×Value)},PairsAre X n kvs kvals→jH k kvs=none→valueAt kvals ⟨k.toArray⟩=none:=by
 induction kvs with
 | nil=>intro kvals h e; cases kvals with | nil=>rfl | cons=>exact h.elim
 | cons p r ih=>
  intro kvals h e
  cases kvals with
  | nil=>exact h.elim
  | cons p' r'=>
   apply bc;intro z_
   obtain ⟨x,v⟩:=p
   obtain ⟨y,val⟩:=p'
   obtain ⟨rfl,hv,hr⟩:=h
   apply z_;clear z_
   have e:(match ly x k with | true=>some v | false=>jH k r)=none:=e
   rw [dZ] at e
   by_cases q:x=k
   ·rw [QS q] at e; cases e
   ·rw [QR q] at e
    have:=ih hr e
    have q':¬ ((⟨x.toArray⟩:Str)=⟨k.toArray⟩):=fun w=>q (by simpa using w)
    unfold valueAt at this ⊢
    rw [List.find?_cons_of_neg (by simpa using q')]; exact this
theorem Dm:CB G lv (.builtin "dict.get") [] (fun vs _=>CG vs):=CB.of (fun a w=>by cases w) fun vs σ Q hd A env X s vals ha R W=>by
 refine W.on2_ hd fun u v val val' Wl Wv hd=>Wl.loc_ hd fun l hd=>?_
 apply bc;intro z_
 obtain ⟨kvs,q,hd⟩:=onS.out hd
 apply z_;clear z_
 have q:=eR q
 refine Wv.str_ hd fun k t hd=>?_
 apply bc;intro z_
 obtain ⟨_,kvals,h1,h2⟩:=R.st l _ q
 apply z_;clear z_
 have hk:(PySem.strKind G.prog G.w).is ⟨k.toArray⟩ (.str ⟨k.toArray⟩ t)=true:=strKind_is _ _ _ _
 refine call_meetsIn F.slot_dict_get h1.typeIs F.entry_dict_get (F.args_dict_get_2 _ _) (meets_dict_get (PySem.strKind G.prog G.w) (X.ρ l) hk (gI R q)) ⟨_,h1.mapOf,?_⟩
 cases q2:jH k kvs with
 | some v=>
  rw [q2] at hd
  apply bc;intro z_
  obtain ⟨val,e1,Wv⟩:=mf h2 q2
  apply z_;clear z_
  rw [e1]
  exact Post.ret hd (R.toks _) Wv
 | none=>
  rw [q2] at hd
  rw [qT h2 q2]
  exact Post.ret hd (R.toks _) .non
noncomputable def wM (k:NameKind):Bool:=match k with
 | .globalImplicit=>true
 | _=>false
noncomputable def NamesOk (sc:Sc):Prop:=(sc.names.all fun p=>wM p.2 || (!(p.1==("__debug__":Str)) && !(p.1==("__classdict__":Str))))=true
theorem NamesOk.at_ (h:NamesOk sc) {i:Nat} {x:Str} {k:NameKind} (hx:sc.names[i]?=some (x,k)) (hk:wM k=false):(x==("__debug__":Str))=false∧(x==("__classdict__":Str))=false:=by
 have:=List.all_eq_true.mp h (x,k) (QY hx)
 dsimp only at this
 rw [hk,Bool.false_or,Bool.and_eq_true] at this
 obtain ⟨a,b⟩:=this
 exact ⟨by simpa using a,by simpa using b⟩
noncomputable abbrev dc (x:Str):Prop:=(x==("__debug__":Str))=false
theorem aa {i:Nat} {x:Str} {k:NameKind} {p:Pos} (hN:NamesOk sc) (hx:sc.names[i]?=some (x,k)) (hk:wM k=false):SE G lv sc (.Name x p) (fO i):=uI hx (hN.at_ hx hk).1 (hN.at_ hx hk).2
theorem uV {i:Nat} {x:Str} {p:Pos} {a:Addr} (ok:G.Ok) (hdb:dc x) (hx:sc.names[i]?=some (x,.globalImplicit)) (hg:nsIn G.K mainGlobals x=some (some (.ref a))) :
  SE G lv sc (.Name x p) (fun σ Q=>Q (.gl a) σ):=uG ok hx hg hdb
structure Bltin (G:Glob) (x:Str) (v:Value):Prop where
 hg:nsIn G.K mainGlobals x=some none
 hn:x≠"__name__"
 hb:bootBuiltins x=some v
 hdb:dc x
theorem K9 {i:Nat} {x:Str} {p:Pos} {T:String} (ok:G.Ok) (hx:sc.names[i]?=some (x,.globalImplicit)) (b:Bltin G x (.type T)):SE G lv sc (.Name x p) (fun σ Q=>Q (.ty T) σ):=
 Oj ok hx b.hg b.hn b.hb b.hdb
theorem az {x:Str} {i:Nat} {np:Pos} {f:Value} {ks:List Str} {D:List V→List V→DE} (ok:G.Ok) (hx:sc.names[i]?=some (x,.globalImplicit)) (b:Bltin G x f) (hc:CB G lv f ks D):SC G lv sc (.Name x np) ks D:=
 sS ok hx b.hg b.hn b.hb b.hdb hc
theorem aT {x:Str} {i:Nat} {np:Pos} {a:Addr} {ks:List Str} {D:List V→List V→DE} (ok:G.Ok) (hdb:dc x) (hx:sc.names[i]?=some (x,.globalImplicit)) (hg:nsIn G.K mainGlobals x=some (some (.ref a)))
  (hc:CB G lv (.ref a) ks D):SC G lv sc (.Name x np) ks D:=uy ok hx hg hdb hc
theorem Om {x:Str} {i:Nat} {k:NameKind} {np:Pos} {f:Nat} {ks:List Str} {D:List V→List V→DE} (ok:G.Ok) (hN:NamesOk sc) (hx:sc.names[i]?=some (x,k)) (hk:wM k=false) (h:FN G lv f ks D) :
  Lf G lv sc (.Name x np) ks (fun σ K=>fO i σ fun v σ1=>G1 v fun f' C' l=>onT (Nat.beq f' f) (K (fun vs kvs=>D (.obj C' l::vs) kvs) σ1)):=Of (C:=0) ok hx (hN.at_ hx hk).1 (hN.at_ hx hk).2 h
theorem DH {x:Str} {i:Nat} {k:NameKind} {np:Pos} (hN:NamesOk sc) (hx:sc.names[i]?=some (x,k)) (hk:wM k=false) :
  Lf G lv sc (.Name x np) [] (fun σ K=>fO i σ fun v σ1=>Bg v fun l=>K (fun vs _=>Am l vs) σ1):=Oe hx (hN.at_ hx hk).1 (hN.at_ hx hk).2
theorem rE {x name:Str} {np p:Pos} {C:Addr} {i:Nat} {mc:Value} {cs:List Nat} {t:Tok} (ok:G.Ok) (hdb:dc x) (hx:sc.names[i]?=some (x,.globalImplicit)) (hg:nsIn G.K mainGlobals x=some (some (.ref C)))
  (hr:readsIn G.K C mc=true) (e:findCls G.K (.ref C) mc name=some (.val (.str ⟨cs.toArray⟩ t))):SE G lv sc (.Attribute (.Name x np) name p) (fun σ Q=>Q (.str cs) σ):=zY ok hx hg hdb hr e
theorem cB {x:Str} {i:Nat} {np p:Pos} {args:List PySem.Expr} {f:Value} {D:List V→DI} {da:DA} (ok:G.Ok) (hx:sc.names[i]?=some (x,.globalImplicit)) (b:Bltin G x f)
  (hf:∀ a,f≠.ref a) (hc:CI G lv tg f D) (ha:SA G lv sc args da)
  (h1:∀ env pos,(backTo pos (starEach args env)).any (·.1)=false) :
  SI G lv sc tg (.Call (.Name x np) args [] p) (fun σ K=>da σ fun vs σ1=>D vs σ1 K):=Af ok hx b.hg b.hn b.hb b.hdb hf hc ha h1
theorem AOk.down (h:AOk lv' A) (l:Nat.ble lv lv'=true):AOk lv A:=by
 have l:=QD l
 have up:∀ {d k c:Nat},d+k*lv+c≤d+k*lv'+c:=Nat.add_le_add_right (Nat.add_le_add_left (Nat.mul_le_mul_left _ l) _) _
 exact ⟨h.handled,Rb up h.depth,Rb up h.units⟩
theorem FN.up {f:Addr} {ks:List Str} {D:List V→List V→DE} (h:FN G lv f ks D) (l:Nat.ble lv lv'=true):FN G lv' f ks D:=
 ⟨h.1,fun vs kvs σ Q hd A env X s vals kvals ha R W Wk=>h.2 vs kvs σ Q hd A env X s vals kvals (ha.down l) R W Wk⟩
theorem CB.up {f:Value} {ks:List Str} {D:List V→List V→DE} (h:CB G lv f ks D) (l:Nat.ble lv lv'=true):CB G lv' f ks D:=
 fun vs kvs σ Q hd A env X s vals kvals ha R W Wk=>h vs kvs σ Q hd A env X s vals kvals (ha.down l) R W Wk
theorem cg {o:PySem.Expr} {do_:DE} (ho:SE G lv sc o do_):SM G lv sc o "append" [] (iU .list (fun vs _=>ii vs) do_):=bK (T:=.list) ho PySem.F.plainAttrs_list PySem.F.slot_list_append (by show builtinType _=_; rw [QU]; kernel_rfl) nZ
theorem uP {o:PySem.Expr} {do_:DE} (ho:SE G lv sc o do_):SM G lv sc o "pop" [] (iU .list (fun vs _=>MS vs) do_):=bK (T:=.list) ho PySem.F.plainAttrs_list PySem.F.slot_list_pop (by show builtinType _=_; rw [QU]; kernel_rfl) KO
theorem K8 {o:PySem.Expr} {do_:DE} (ho:SE G lv sc o do_):SM G lv sc o "add" [] (iU .set (fun vs _=>Lq vs) do_):=bK (T:=.set) ho PySem.F.plainAttrs_set PySem.F.slot_set_add (by show builtinType _=_; rw [QU]; kernel_rfl) KM
theorem dX {o:PySem.Expr} {do_:DE} (ho:SE G lv sc o do_):SM G lv sc o "lower" [] (iU .str (fun vs _=>Mv vs) do_):=bK (T:=.str) ho PySem.F.plainAttrs_str PySem.F.slot_str_lower (by show builtinType _=_; rw [QU]; kernel_rfl) zQ
theorem Ae {o:PySem.Expr} {do_:DE} (ok:G.Ok) (ho:SE G lv sc o do_):SM G lv sc o "split" [] (iU .str (fun vs _=>zn vs) do_):=bK (T:=.str) ho PySem.F.plainAttrs_str PySem.F.slot_str_split (by show builtinType _=_; rw [QU]; kernel_rfl) (zS ok)
theorem uO {o:PySem.Expr} {do_:DE} (ho:SE G lv sc o do_):SM G lv sc o "join" [] (iU .str (fun vs _=>CV vs) do_):=bK (T:=.str) ho PySem.F.plainAttrs_str PySem.F.slot_str_join (by show builtinType _=_; rw [QU]; kernel_rfl) Dn
theorem DD {o:PySem.Expr} {do_:DE} (ho:SE G lv sc o do_):SM G lv sc o "get" [] (iU .dict (fun vs _=>CG vs) do_):=bK (T:=.dict) ho PySem.F.plainAttrs_dict PySem.F.slot_dict_get (by show builtinType _=_; rw [QU]; kernel_rfl) Dm
noncomputable def wD (names:List (Str×NameKind)) (i:Nat) (x:Str):Bool:=match names[i]? with
 | some (y,.local)=>y==x
 | some (y,.cell)=>y==x
 | _=>false
set_option tactic.hygienic true in
theorem wE {names:List (Str×NameKind)} {i:Nat} {x:Str} (h:wD names i x=true):names[i]?=some (x,NameKind.local)∨names[i]?=some (x,NameKind.cell):=by
 unfold wD at h
 split at h
 ·rename_i y hy; rw [hy,beq_iff_eq.mp h]; exact .inl rfl
 ·rename_i y hy; rw [hy,beq_iff_eq.mp h]; exact .inr rfl
 ·first | exact nS h | exact nB h | cases h
noncomputable def nQ {α β:Type} (f:α→β→Bool):List α→List β→Bool
 | a::r,x::t=>and (f a x) (nQ f r t)
 | [],[]=>true
 | _,_=>false
theorem mG {α β:Type} {f:α→β→Bool} {l:List α}:∀ {xs:List β},nQ f l xs=true→∀ (j:Nat) (a:α) (x:β),l[j]?=some a→xs[j]?=some x→f a x=true:=by
 induction l with
 | nil=>intro xs h j a x h1 _; cases h1
 | cons b r ih=>
  intro xs h j a x h1 h2
  cases xs with
  | nil=>cases h2
  | cons y t=>
   obtain ⟨q1,q2⟩:=Bool.and_eq_true_iff.mp h
   cases j with
   | zero=>cases h1; cases h2; exact q1
   | succ j=>exact ih q2 j a x h1 h2
noncomputable def MT (names:List (Str×NameKind)):List (Nat×PS)→List Str→Bool:=nQ fun p x=>wD names p.1 x
theorem aS {ps:List (Nat×PS)} {xs:List Str} (h:MT sc.names ps xs=true) (j i:Nat) (p:PS) (x:Str) (h1:ps[j]?=some (i,p)) (h2:xs[j]?=some x):sc.names[i]?=some (x,NameKind.local)∨sc.names[i]?=some (x,NameKind.cell):=wE (mG h j (i,p) x h1 h2)
noncomputable def Mt (names:List (Str×NameKind)) (i:Nat) (x:Str):Bool:=match names[i]? with
 | some (y,.local)=>y==x
 | _=>false
noncomputable def B6 (names:List (Str×NameKind)):List Nat→List Str→Bool:=nQ (Mt names)
set_option tactic.hygienic true in
theorem dq {is:List Nat} {xs:List Str} (h:B6 sc.names is xs=true) (j i:Nat) (x:Str) (h1:is[j]?=some i) (h2:xs[j]?=some x):sc.names[i]?=some (x,NameKind.local):=by
 have h:=mG h j i x h1 h2
 unfold Mt at h
 split at h
 ·rename_i y hy; rw [hy,beq_iff_eq.mp h]
 ·first | exact nS h | exact nB h | cases h
noncomputable def LI (v:V) (val:Value):Bool:=match v with
 | .non=>(match val with | .none=>true | _=>false)
 | .boo a=>(match val with | .bool b=>a==b | _=>false)
 | .int a=>(match val with | .int b _=>a==b | _=>false)
 | _=>false
theorem Aq {v:V} {val:Value} {X:Wd} {n:Nat} (h:LI v val=true):RepV X n v val:=by
 cases v with
 | non=>cases val with | none=>exact .non | _=>first | exact nS h | exact nB h | cases h
 | boo a=>cases val with | bool b=>rw [beq_iff_eq.mp h]; exact .boo _ | _=>first | exact nS h | exact nB h | cases h
 | int a=>cases val with | int b t=>rw [beq_iff_eq.mp h]; exact .int _ _ | _=>first | exact nS h | exact nB h | cases h
 | _=>first | exact nS h | exact nB h | cases h
noncomputable def G8 (ps:List (Nat×PS)):Bool:=ps.all fun p=>match p.2 with | .dfl v val=>LI v val | _=>true
theorem bj {ps:List (Nat×PS)} (h:G8 ps=true) (i:Nat) (v:V) (val:Value) (hm:(i,PS.dfl v val)∈ps) (X:Wd) (n:Nat):RepV X n v val:=Aq (List.all_eq_true.mp h _ hm)
noncomputable def vU (sc:Sc):Env:={scope:=⟨.function,sc.names,false,false,[]⟩,locals:=0,globals:=0,cells:=[]}
theorem mP (he:EOk sc env):env.blockKind=.function:=by
 unfold Env.blockKind; rw [he.kind]; rfl
theorem kD (he:EOk sc env):env.kindOf=(vU sc).kindOf:=by
 funext x; unfold Env.kindOf; rw [he.names]; rfl
theorem gL (he:EOk sc env):env.blockKind=(vU sc).blockKind:=by rw [mP he]; rfl
theorem dJ {ts:List PySem.Expr} {e:PySem.Expr} (he:EOk sc env):swappedStores ts e env=swappedStores ts e (vU sc):=by
 unfold swappedStores; rw [kD he,gL he]
theorem jx {e:PySem.Expr} {t:PySem.Str} {py:Pos} {line:Nat} (he:EOk sc env):swapsWith e (some (.Name t py)) line env=swapsWith e (some (.Name t py)) line (vU sc):=by
 unfold swapsWith; rw [kD he,gL he]
noncomputable def vQ {α:Type} (n:Nat) (l:List (Nat×α)):List (Nat×α):=@List.rec (Nat×α) (fun _=>List (Nat×α)) [] (fun p _ ih=>@Bool.rec (fun _=>List (Nat×α)) (p::ih) ih (Nat.beq n p.1)) l
theorem iP {α:Type} {n:Nat}:∀ {l:List (Nat×α)} {k:Nat},aj k (vQ n l)=if k=n then none else aj k l
 | [],k=>by show aj k []=_; rw [wZ]; simp
 | (m,b)::r,k=>by
  show aj k (@Bool.rec (fun _=>List (Nat×α)) ((m,b)::vQ n r) (vQ n r) (Nat.beq n m))=_
  rw [dY]
  by_cases h:n=m
  ·subst h; simp only [decide_true]; rw [iP,am]; by_cases q:k=n <;> simp [q]
  ·simp only [h,decide_false]; rw [am,am,iP]
   by_cases q:k=m
   ·subst q; simp [Ne.symm h]
   ·simp [q]
theorem Rel.freeze {l:Nat} {o:AO} (ok:G.Ok) (R:Rel G X env σ s) (hl:aj l σ.st=some o) :
  Rel G {X with F:=fun a=>if a=X.ρ l then s.heap.get? a else X.F a,P:=fun a=>if a=X.ρ l then true else X.P a} env {σ with st:=vQ l σ.st} s∧X.le σ.nx {X with F:=fun a=>if a=X.ρ l then s.heap.get? a else X.F a,P:=fun a=>if a=X.ρ l then true else X.P a}:=by
 have L:X.le σ.nx {X with F:=fun a=>if a=X.ρ l then s.heap.get? a else X.F a,P:=fun a=>if a=X.ρ l then true else X.P a}:=by
  refine ⟨fun _ _=>rfl,fun a o' e=>?_,fun a o' e=>?_⟩
  ·show (if a=X.ρ l then s.heap.get? a else X.F a)=some o'
   have:a≠X.ρ l:=fun q=>by rw [q,(R.own l _ hl).1] at e; cases e
   rw [QH this]; exact e
  ·show (if a=X.ρ l then true else X.P a)=X.P a
   have:a≠X.ρ l:=fun q=>by rw [q,(R.own l _ hl).1] at e; cases e
   rw [QH this]
 have hd:∀ k o',aj k (vQ l σ.st)=some o'→k≠l∧aj k σ.st=some o':=fun k o' e=>by
  rw [iP] at e
  by_cases q:k=l
  ·rw [QI q] at e; cases e
  ·rw [QH q] at e; exact ⟨q,e⟩
 have hne:∀ k o',aj k (vQ l σ.st)=some o'→X.ρ k≠X.ρ l:=fun k o' e q=>(hd k o' e).1 (R.inj k l _ _ (hd k o' e).2 hl q)
 refine ⟨⟨?_,?_,?_,?_,?_,?_,?_,?_,R.os,R.drawn,R.gens,fun a o' e=>let ⟨z1,z2,z3,r⟩:=R.hp a o' e; ⟨z1,(QH (z3 l _ hl).symm).trans z2,fun k o2 e2=>z3 k o2 (hd k o2 e2).2,r⟩⟩,L⟩
 ·intro a o' e
  dsimp only at e
  by_cases q:a=X.ρ l
  ·rw [QI q] at e; exact e
  ·rw [QH q] at e; exact R.sub a o' e
 ·exact fun a o' e h=>L.F a o' (R.base a o' e h)
 ·intro k o' e
  refine ⟨?_,(R.own k o' (hd k o' e).2).2⟩
  show (if X.ρ k=X.ρ l then _ else _)=none
  rw [QH (hne k o' e)]; exact (R.own k o' (hd k o' e).2).1
 ·exact fun k k' o1 o2 e1 e2 q=>R.inj k k' o1 o2 (hd _ _ e1).2 (hd _ _ e2).2 q
 ·exact fun k o' e=>R.big k o' (hd _ _ e).2
 ·exact fun k o' e=>⟨(R.st k o' (hd _ _ e).2).1,(R.st k o' (hd _ _ e).2).2.go L (QF _) rfl⟩
 ·refine ⟨R.tab.1,?_,ok.tbmono _ _ _ (fun a o' e _=>L.F a o' e) R.tab.2.2⟩
  show (if G.T=X.ρ l then _ else _)=none
  rw [QH (fun q=>(R.own l _ hl).2 q.symm)]; exact R.tab.2.1
 ·refine R.loc.go L (QF _) rfl (fun _ _ _=>rfl) ⟨?_,fun k o' e=>R.loc.freeL.2.1 k o' (hd _ _ e).2⟩ fun hf x c hc=>⟨?_,fun k o' e=>(R.loc.freeC hf x c hc).2.1 k o' (hd _ _ e).2⟩
  ·show (if env.locals=X.ρ l then _ else _)=none
   rw [QH (fun q=>R.loc.freeL.2.1 l _ hl q.symm)]; exact R.loc.freeL.1
  ·show (if c=X.ρ l then _ else _)=none
   rw [QH (fun q=>(R.loc.freeC hf x c hc).2.1 l _ hl q.symm)]; exact (R.loc.freeC hf x c hc).1
noncomputable def LY (o:Option AO) (l:Nat) (σ:St) (Q:V→St→Prop):Prop:=match o with
 | some (.list vs)=>Q (.fro vs) {σ with st:=vQ l σ.st}
 | some (.wds ss)=>Q (.fro (ss.map V.str)) {σ with st:=vQ l σ.st}
 | _=>False
noncomputable def AI (v:V) (σ:St) (Q:V→St→Prop):Prop:=match v with
 | .fro vs=>Q (.fro vs) σ
 | .loc l=>LY (aj l σ.st) l σ Q
 | _=>False
theorem lN {e:PySem.Expr} {d:DE} (ok:G.Ok) (h:SE G lv sc e d):SE G lv sc e (fun σ Q=>d σ fun v σ1=>AI v σ1 Q):=fun σ Q hd A env X s ha he R=>by
 refine h.run hd ha he R fun val s1 v σ1 X1 k L1 n1 R1 W1=>?_
 cases v with
 | fro vs=>exact ⟨_,σ1,X1,k,L1,n1,R1,W1⟩
 | loc l=>
  cases (W1.inv:val=.ref (X1.ρ l))
  have k:LY (aj l σ1.st) l σ1 Q:=k
  have go:∀ {vs:List V} {ao:AO},aj l σ1.st=some ao→(∃ o vals,s1.heap.get? (X1.ρ l)=some o∧LObj "list" o vals∧RepVs X1 σ1.nx vs vals)→Q (.fro vs) {σ1 with st:=vQ l σ1.st}→Post G X env σ.nx Q (.ref (X1.ρ l)) s1:=fun hv ⟨o,vals,hg,ho,hs⟩ k=>by
   apply bc;intro z_
   obtain ⟨R2,L2⟩:=R1.freeze ok hv
   apply z_;clear z_
   exact ⟨_,_,_,k,L1.trans L2 n1,n1,R2,.fro _ vals _ o ((QI rfl).trans hg) ho (hs.mono L2 (QF _))⟩
  cases q:aj l σ1.st with
  | none=>rw [q] at k; exact k.elim
  | some ao=>
   rw [q] at k
   cases ao with
   | list vs=>exact go q (R1.st l _ q).2 k
   | wds ss=>exact go q (R1.st l _ q).2 k
   | _=>exact k.elim
 | _=>exact k.elim
noncomputable def LC (a b:V) (σ:St) (Q:V→St→Prop):Prop:=bu a σ fun xs=>bu b σ fun ys=>fits (xs.length+ys.length) (g7 (.list (xs++ys)) σ Q)
theorem D4 {a b:V} {va vb:Value} {Q:V→St→Prop} (ok:G.Ok) (R:Rel G X env σ s) (Wa:RepV X σ.nx a va) (Wb:RepV X σ.nx b vb)
  (h:LC a b σ Q):wpAny (model G.prog G.w) A (binaryOp .Add va vb) (Post G X env σ.nx Q) bh s:=by
 apply bc;intro z_
 obtain ⟨l,o,vs,xs,rfl,ho,hl,W1,h⟩:=br R Wa h
 obtain ⟨l2,o2,ws,ys,rfl,ho2,hl2,W2,h⟩:=br R Wb h
 obtain ⟨hz,q⟩:=h.out
 obtain ⟨cls,dd,data,sl⟩:=o
 obtain ⟨cls2,dd2,data2,sl2⟩:=o2
 obtain ⟨hc,hdd,⟨n,hd⟩,hsl⟩:=hl
 obtain ⟨hc2,hdd2,⟨n2,hd2⟩,hsl2⟩:=hl2
 apply z_;clear z_
 dsimp only at hc hd hc2 hd2
 subst hc hd hc2 hd2
 refine concat_meets ⟨_,ho,rfl⟩ ⟨_,ho2,rfl⟩ noFill_list_add seq_list_add PySem.F.slot_list_add PySem.F.entry_list_add (PySem.F.args_list_add_2 _ _) (list_addW l l2 vs.toArray ws.toArray n n2 dd dd2 sl sl2 ?_) ⟨ho,ho2,?_⟩
 ·simp only [QJ,W1.length,W2.length,QN]; omega
 ·have e:vs.toArray++ws.toArray=(vs++ws).toArray:=by simp
  rw [e]
  exact Post.newLocList ok q R (W1.append W2)
theorem Ds {l r:PySem.Expr} {dl dr:DE} {p:Pos} (ok:G.Ok) (hl:SE G lv sc l dl) (hr:SE G lv sc r dr) :
  SE G lv sc (.BinOp l .Add r p) (fun σ Q=>dl σ fun a σ1=>dr σ1 fun b σ2=>LC a b σ2 Q):=fun σ Q hd A env X s ha he R=>by
 refine wpAny_BinOp (hl.run hd ha he R fun va s1 a σ1 X1 k1 L1 n1 R1 W1=>hr.run k1 ha he R1 fun vb s2 b σ2 X2 k2 L2 n2 R2 W2=>?_)
 exact Qv (D4 ok R2 (W1.mono L2 n2) W2 k2) (fun _ _ z=>Post.lift (L1.trans L2 n1) (QC n1 n2) z) fun _ _ z=>z
noncomputable def jC:Nat→(Nat→Prop)→Prop
 | 0,_=>True
 | n+1,P=>jC n P∧P n
theorem vr {P:Nat→Prop} {n:Nat} (h:jC n P):∀ i,i<n→P i:=by
 induction n with
 | zero=>intro i h; exact absurd h (Nat.not_lt_zero _)
 | succ n ih=>
  intro i hi
  rcases Nat.lt_succ_iff_lt_or_eq.mp hi with hi | hi
  ·exact ih h.1 i hi
  ·subst hi; exact h.2
noncomputable def MC (a b:V) (σ:St) (Q:V→St→Prop):Prop:=aZ a fun _=>aZ b fun j=>posI j fun n=>jC (n+1) fun i=>Q (.int (.ofNat i)) σ
theorem sk {i:Int} {m:Nat} {t u:Tok} {Q:V→St→Prop} (ok:G.Ok) (ha:AOk lv A) (R:Rel G X env σ s) (h:jC (m+1) fun i=>Q (.int (.ofNat i)) σ) :
  wpAny (model G.prog G.w) A (binaryOp .Mod (.int i t) (.int (.ofNat (m+1)) u)) (Post G X env σ.nx Q) bh s:=by
 refine mO (Q:=fun v σ'=>Q v σ') ok ha (op:=.Mod) (a:=.int i) (b:=.int (.ofNat (m+1))) ?_ R (.int i t) (.int _ u)
 show Q (.int (Int.fmod i (.ofNat (m+1)))) σ
 have hp:(0:Int)<(.ofNat (m+1)):=Int.ofNat_lt.mpr (Nat.succ_pos m)
 have h1:Int.fmod i (.ofNat (m+1))<(.ofNat (m+1):Int):=Int.fmod_lt_of_pos _ hp
 obtain ⟨k,hk⟩:=Int.eq_ofNat_of_zero_le (Int.fmod_nonneg_of_pos i hp)
 rw [hk] at h1 ⊢
 exact vr h k (Int.ofNat_lt.mp h1)
theorem Du {l r:PySem.Expr} {dl dr:DE} {p:Pos} (ok:G.Ok) (hl:SE G lv sc l dl) (hr:SE G lv sc r dr) :
  SE G lv sc (.BinOp l .Mod r p) (fun σ Q=>dl σ fun a σ1=>dr σ1 fun b σ2=>MC a b σ2 Q):=fun σ Q hd A env X s ha he R=>by
 refine wpAny_BinOp (hl.run hd ha he R fun va s1 a σ1 X1 k1 L1 n1 R1 W1=>hr.run k1 ha he R1 fun vb s2 b σ2 X2 k2 L2 n2 R2 W2=>?_)
 refine W1.int_ k2 fun i t k2=>W2.int_ k2 fun j u k2=>?_
 apply bc;intro z_
 obtain ⟨m,rfl,k2⟩:=posI.out k2
 apply z_;clear z_
 exact Qv (sk ok ha R2 k2) (fun _ _ z=>Post.lift (L1.trans L2 n1) (QC n1 n2) z) fun _ _ z=>z
noncomputable def MQ (n:Nat) (v:V) (σ:St) (Q:V→St→Prop):Prop:=aZ v fun i=>bg i=true∧jC n fun k=>Q (.int (.ofNat k)) σ
theorem Dv {l:PySem.Expr} {dl:DE} {p p' p2 p3:Pos} {k2 k3:Nat} (n:Nat) (ok:G.Ok) (hl:SE G lv sc l dl) :
  SE G lv sc (.BinOp (.BinOp l .FloorDiv (.Constant (.int 8) k2 p2) p') .Mod (.Constant (.int (.ofNat (n+1))) k3 p3) p) (fun σ Q=>dl σ fun a σ1=>MQ (n+1) a σ1 Q):=fun σ Q hd A env X s ha he R=>by
 refine wpAny_BinOp (wpAny_BinOp (hl.run hd ha he R fun va s1 a σ1 X1 k1 L1 n1 R1 W1=>?_))
 refine W1.int_ k1 fun i t y_=>?_
 apply bc;intro z_
 obtain ⟨_,hb⟩:=y_
 apply z_;clear z_
 refine SE.run (K:=fun v σ'=>v=.int 8∧σ'=σ1) aq (σ:=σ1) ⟨rfl,rfl⟩ ha he R1 fun vb s2 b σ2 X2 k2 L2 n2 R2 W2=>?_
 apply bc;intro z_
 obtain ⟨rfl,rfl⟩:=k2
 obtain ⟨u,rfl⟩:=W2.inv
 apply z_;clear z_
 refine Qv (mO (Q:=fun v σ'=>v=.int (Int.fdiv i 8)∧σ'=σ2) ok ha (op:=.FloorDiv) (a:=.int i) (b:=.int 8) ⟨rfl,rfl⟩ R2 (.int i t) (.int _ u)) (fun vc s3 y_=>?_) fun _ _ z=>z.elim
 apply bc;intro z_
 obtain ⟨v,σ3,X3,e,L3,n3,R3,W3⟩:=y_
 obtain ⟨rfl,rfl⟩:=e
 obtain ⟨u3,rfl⟩:=W3.inv
 apply z_;clear z_
 refine SE.run (K:=fun v σ'=>v=.int (.ofNat (n+1))∧σ'=σ3) aq (σ:=σ3) ⟨rfl,rfl⟩ ha he R3 fun vd s4 b4 σ4 X4 k4 L4 n4 R4 W4=>?_
 apply bc;intro z_
 obtain ⟨rfl,rfl⟩:=k4
 obtain ⟨u4,rfl⟩:=W4.inv
 apply z_;clear z_
 exact Qv (sk ok ha R4 hb) (fun _ _ z=>Post.lift (((L1.trans L2 n1).trans L3 n1).trans L4 n1) n1 z) fun _ _ z=>z
noncomputable def tX {α:Type}:Nat→α→List α→List α
 | _,_,[]=>[]
 | 0,a,_::r=>a::r
 | n+1,a,b::r=>b::tX n a r
theorem sE {α:Type}:∀ {n:Nat} {a:α} {l:List α},tX n a l=l.set n a
 | n,a,[]=>by cases n <;> simp [tX]
 | 0,a,b::r=>by simp [tX]
 | n+1,a,b::r=>by simp [tX,sE]
theorem RepVs.setN {v:V} {val:Value}:∀ {vs:List V} {vals:List Value} {k:Nat},RepVs X n vs vals→RepV X n v val→RepVs X n (Mine.tX k v vs) (Mine.tX k val vals)
 | [],_,k,W,_=>by cases W; cases k <;> exact .nil
 | u::r,_,0,W,w=>by cases W with | cons a b=>exact .cons w b
 | u::r,_,k+1,W,w=>by cases W with | cons a b=>exact .cons a (RepVs.setN b w)
theorem zb {l:Addr} {o:Obj} {items:List Value} {k:Int} {t:Tok} {v:Value} {Q:Unit→Shared→Prop} (ho:s.heap.get? l=some o) (hl:LObj "list" o items)
  (h0:0≤k) (hfit:k<2 ^ 63) (hn:k<items.length) (q:Q () {s with heap:=s.heap.update l (Obj.mapSeq (·.setIfInBounds k.toNat v))}) :
  wpAny (model G.prog G.w) A (setItem (.ref l) (.int k t) v) Q bh s:=by
 have hL:=LObj.isList ho hl
 apply bc;intro z_
 obtain ⟨hc,hdd,⟨ep,hd⟩,hsl⟩:=hl
 apply z_;clear z_
 unfold setItem
 refine Qw ?_
 refine Qt (wpAny_sequenceKey hL.typeIs (by decide) ?_)
 refine Qt (wpAny_callSpecial?_slot (name:=Str.ofString "__setitem__") hL.typeIs PySem.F.slot_list_setitem
  (Qz PySem.F.slot_list_setitem hL.typeIs PySem.F.entry_list_setitem ?_ (PySem.F.args_list_setitem_3 _ _ _)))
 show wpAny _ _ (Builtin.List.listSubscript? (.int k t) >>= _) _ _ s
 refine Qt (wpAny_listSubscript_int (fitsIndex_of h0 hfit) ?_)
 clear hfit
 apply bc;intro z_
 obtain ⟨j,rfl⟩:=Int.eq_ofNat_of_zero_le h0
 apply z_;clear z_
 have hj:j<items.length:=by omega
 have hx':items.toArray[j]?=some items[j]:=by rw [Rf]; exact List.getElem?_eq_getElem hj
 show wpAny _ _ ((seqItemAt l j >>= fun r=>pure (r.map (j,·))) >>= _) _ _ s
 refine Qt (Qt (wpAny_seqItemAt ho hd (Qu ?_)))
 rw [hx']
 show wpAny _ _ (setSeqItemAt l j v >>= _) _ _ s
 refine Qt (wpAny_setSeqItemAt ho hd ?_)
 first
  | exact Qt (Qu (Qu ⟨.none,rfl,Qu q⟩))
  | exact Qu ⟨.none,rfl,Qu q⟩
noncomputable def Pg (i:Int) (k:Nat→Prop):Prop:=match i with | .ofNat n=>k n | _=>False
noncomputable def sJ (o i v:V) (σ:St) (Q:St→Prop):Prop:=hM o σ fun l xs=>aZ i fun i=>Pg i fun k=>onT (Nat.blt k xs.length) (fits xs.length (Q (gr l (.list (tX k v xs)) σ)))
theorem ue {o i v:V} {ov iv val:Value} {Q:St→Prop} {Q':Unit→Shared→Prop} (h:sJ o i v σ Q) (R:Rel G X env σ s) (Wo:RepV X σ.nx o ov) (Wi:RepV X σ.nx i iv) (W:RepV X σ.nx v val)
  (k:∀ σ' s',Q σ'→σ'.nx=σ.nx→Rel G X env σ' s'→Q' () s'):wpAny (model G.prog G.w) A (setItem ov iv val) Q' bh s:=by
 refine gB R Wo h fun l xs ob vals hl hx hg ho hs h=>Wi.int_ h fun i t h=>?_
 cases i with
 | negSucc m=>exact h.elim
 | ofNat m=>
  apply bc;intro z_
  obtain ⟨hb,h⟩:=onT.out h
  obtain ⟨hz,q⟩:=fits.out h
  apply z_;clear z_
  have hm:m<vals.length:=hs.length ▸ QD hb
  exact zb hg ho (Int.natCast_nonneg m) (Int.lt_of_lt_of_le (Int.ofNat_lt.mpr hm) (Int.le_trans (Int.ofNat_le.mpr (hs.length ▸ hz)) (by decide))) (Int.ofNat_lt.mpr hm) (k _ _ q rfl (R.setList (t:=s.toks) hx hg ho (by rw [sE]; simp) (hs.setN W)))
theorem Cs {o i:PySem.Expr} {p:Pos} {do_ di:DE} (ok:G.Ok) (ho:SE G lv sc o do_) (hi:SE G lv sc i di) :
  ST G lv sc (.Subscript o i p) (fun v σ Q=>do_ σ fun ov σ1=>di σ1 fun iv σ2=>sJ ov iv v σ2 Q):=fun v σ Q hd A env X s val ha he R W=>by
 refine kas_sub (ho.run hd ha he R fun ov s1 o1 σ1 X1 k1 L1 n1 R1 W1=>hi.run k1 ha he R1 fun iv s2 i2 σ2 X2 k2 L2 n2 R2 W2=>?_)
 exact ue k2 R2 (W1.mono L2 n2) W2 (W.mono (L1.trans L2 n1) (QC n1 n2)) fun σ' s' q e R'=>⟨σ',X2,q,L1.trans L2 n1,by rw [e]; exact QC n1 n2,R'⟩
noncomputable def Qi (K:Frag) (a:Nat):List DictEntry:=match K.lookup a with
 | some o=>(match o.data with
  | .dict es _=>es.toList
  | _=>[])
 | none=>[]
noncomputable def CU (K:Frag) (a:Nat):Bool:=match K.lookup a with
 | some o=>(match o.cls with | .type T=>T=="re.Pattern" | _=>false) && o.dict.isNone
 | none=>false
set_option tactic.hygienic true in
theorem oP {K:Frag} {a:Nat} (h:CU K a=true):∃ o,K.lookup a=some o∧o.cls=.type "re.Pattern"∧o.dict=none:=by
 unfold CU at h
 split at h
 ·rename_i o ho
  rw [Bool.and_eq_true] at h
  obtain ⟨h1,h2⟩:=h
  split at h1
  ·rename_i T hT; exact ⟨o,ho,by rw [hT,beq_iff_eq.mp h1],Option.isNone_iff_eq_none.mp h2⟩
  ·first | exact nS h1 | exact nB h1 | cases h1
 ·first | exact nS h | exact nB h | cases h
theorem lH {t:SetTable} {k:Nat}:(t.orStandIn k).led=t.led:=by unfold SetTable.orStandIn; split <;> rfl
theorem qP {t:SetTable} {es:Array (Int×Value)} {h:Int} {x:Value}:(layNew t es h x).2.1.led=t.led:=by
 unfold layNew
 split
 ·exact lH
 ·rfl
set_option tactic.hygienic true in
set_option tactic.hygienic true in
theorem oT {led:Bool} {h:Int} {x:Value}:(layNew (.fresh 0 0 led) #[] h x).2.1.tooFull=false:=by
 unfold layNew
 split
 ·rename_i slot wd e
  dsimp only
  have hp:(SetTable.put (.fresh 0 0 led) slot).1.place.size=1:=by
   show (SetTable.insertAt #[] 0 slot).size=1
   rfl
  have hd:(SetTable.put (.fresh 0 0 led) slot).1.dummies=#[]:=by
   have hh:SetTable.has (#[]:Array Nat) slot=false:=by unfold SetTable.has; simp
   simp only [SetTable.put,SetTable.fresh,hh]
   rfl
  unfold SetTable.orStandIn
  split
  ·unfold SetTable.tooFull SetTable.fill
   rw [hp,hd]
   rfl
  ·unfold SetTable.tooFull SetTable.fill SetTable.standIn SetTable.insertAt
   rfl
 ·rfl
noncomputable def kg (h:Heap) (a:Addr) (x:Str) (tk:Tok) (led:Bool):Prop:=∃ o hs ep t,h.get? a=some o∧o.ExactSet∧o.data=.set #[(hs,.str x tk)] ep t∧t.fits 1=true∧t.led=led∧t.tooFull=false
theorem Al {a:Addr} {led:Bool} {x:Str} {tk:Tok} {Q:Bool→Shared→Prop} (ho:s.heap.get? a=some {cls:=.type "set",dict:=none,data:=.set #[] 0 (.fresh 0 0 led)})
  (q:∀ h' k,Heap.SameBut a s.heap h'→kg h' a x tk led→∀ b,Q b {s with heap:=h',toks:=k}):wpAny (model G.prog G.w) A (setAdd a (.str x tk)) Q bh s:=by
 have hk:(PySem.strKind G.prog G.w).is x (.str x tk)=true:=strKind_is _ _ _ _
 unfold setAdd
 refine Qw (Qt ((PySem.strKind G.prog G.w).pyHash hk ?_))
 unfold setAddHashed setAddHashedIn
 refine Qw (Qt (wpAny_setState_of ho rfl (by rfl) ?_))
 dsimp only
 rw [byScan_of (knd:=PySem.strKind G.prog G.w) (x:=.str x tk) rfl (by decide) (fun e he=>by simp at he)]
 simp only [↓reduceIte]
 unfold setAddByScan
 refine Qt (Qt (Ra ?_))
 refine Qt (wpAny_setScan_of (knd:=PySem.strKind G.prog G.w) hk ho rfl (by rfl) (fun e he=>by simp at he) ?_)
 dsimp only [List.findIdx?_nil]
 have hperm:=layNew_perm (.fresh 0 0 led) #[] ((PySem.strKind G.prog G.w).hash x) (.str x tk)
 have hfits:=layNew_fits (.fresh 0 0 led) #[] ((PySem.strKind G.prog G.w).hash x) (.str x tk)
 have hled:=qP (t:=.fresh 0 0 led) (es:=#[]) (h:=(PySem.strKind G.prog G.w).hash x) (x:=.str x tk)
 have hgw:∀ (b:Bool) {s₁:Shared} {Q':Unit→Shared→Prop},Q' () s₁→wpAny (model G.prog G.w) A (match b with | true=>rule "set.scan.the-table-gave-way" | false=>pure ()) Q' bh s₁:=
  fun b s₁ Q' hq=>by cases b <;> first | exact Qu hq | exact Ra hq
 generalize hL:layNew (.fresh 0 0 led) #[] ((PySem.strKind G.prog G.w).hash x) (.str x tk)=L at hperm hfits hled ⊢
 apply bc;intro z_
 obtain ⟨es1,t1,wasDummy,gave⟩:=L
 apply z_;clear z_
 dsimp only at hperm hfits hled ⊢
 have hes:es1=#[((PySem.strKind G.prog G.w).hash x,.str x tk)]:=by
  apply bc;intro z_
  obtain ⟨l⟩:=es1
  apply z_;clear z_
  have:l=[((PySem.strKind G.prog G.w).hash x,.str x tk)]:=List.perm_singleton.mp (by simpa using hperm)
  rw [this]
 subst hes
 refine Qt (hgw _ ?_)
 have hroom:=oT (led:=led) (h:=(PySem.strKind G.prog G.w).hash x) (x:=.str x tk)
 rw [hL] at hroom
 dsimp only at hroom
 have fin:∀ (g:Bool→Sem Unit) (k:Nat) (t2:SetTable),t2.fits 1=true→t2.led=led→t2.tooFull=false→wpAny (model G.prog G.w) A (do
    storeSet a #[((PySem.strKind G.prog G.w).hash x,Value.str x tk)] t2
    if (!wasDummy && t2.tooFull)=true then do
      g (relayAll t2 #[((PySem.strKind G.prog G.w).hash x,Value.str x tk)] (SetTable.grown 1)).2.2
      storeSet a (relayAll t2 #[((PySem.strKind G.prog G.w).hash x,Value.str x tk)] (SetTable.grown 1)).1 (relayAll t2 #[((PySem.strKind G.prog G.w).hash x,Value.str x tk)] (SetTable.grown 1)).2.1
      pure (some true)
     else pure (some true)) (fun o s'=>∃ h',o=some true∧s'={s with heap:=h',toks:=k}∧Heap.SameBut a s.heap h'∧kg h' a x tk led) bh {s with toks:=k}:=by
  intro g k t2 f2 l2 r2
  have hsb1:=Heap.SameBut.update s.heap a (Obj.putSet #[((PySem.strKind G.prog G.w).hash x,Value.str x tk)] t2)
  have hu:(s.heap.update a (Obj.putSet #[((PySem.strKind G.prog G.w).hash x,Value.str x tk)] t2)).get? a=some {cls:=.type "set",dict:=none,data:=.set #[((PySem.strKind G.prog G.w).hash x,Value.str x tk)] 1 t2}:=by
   rw [Heap.get?_update_self _ ho (by rfl)]; rfl
  refine Qt (wpAny_storeSet_of (s:={s with toks:=k}) ho rfl ?_ (by rw [QN]; simp))
  rw [r2,Bool.and_false,QH QM]
  exact Qu ⟨_,rfl,rfl,hsb1,⟨_,_,_,t2,hu,⟨rfl,rfl,rfl⟩,rfl,f2,l2,r2⟩⟩
 have done_:∀ (o:Option Bool) (s':Shared),(∃ h' k,o=some true∧s'={s with heap:=h',toks:=k}∧Heap.SameBut a s.heap h'∧kg h' a x tk led)→wpAny (model G.prog G.w) A (match o with | some added=>pure added | none=>setAddHashedIn a (.str x tk) ((PySem.strKind G.prog G.w).hash x) 99999) Q bh s':=by
  rintro o s' ⟨h',k,rfl,rfl,h1,h2⟩
  exact Qu (q h' k h1 h2 true)
 by_cases hp:t1.plain=true
 ·rw [QI hp]
  refine Qt ?_
  rw [hashByValue_scannable 8 (by rfl)]
  refine Qu ?_
  refine Qv (fin _ _ (if plainKind (.str x tk)=true then t1 else {t1 with plain:=false}) ?_ ?_ ?_) (fun o s' ⟨h',z⟩=>done_ o s' ⟨h',_,z⟩) fun _ _ z=>z
  ·exact SetTable.fits_plain_off hfits
  ·exact hled
  ·exact hroom
 ·rw [QH hp]
  refine Qt (Qu ?_)
  exact Qv (fin _ _ t1 hfits hled hroom) (fun o s' ⟨h',z⟩=>done_ o s' ⟨h',_,z⟩) fun _ _ z=>z
theorem qY {Q:Value→Shared→Prop} (q:Q (.ref s.heap.objs.size) {s with heap:=s.heap.push {cls:=.type "set",dict:=none,data:=.set #[] 0 (.fresh 0 0 (!G.w.params.followText "set-order"))}}) :
  wpAny (model G.prog G.w) A (newSet (.type "set")) Q bh s:=by
 unfold newSet setsByText
 refine Qt (Qt (wpAny_askSetting (Qu ?_)))
 dsimp only
 simp only [newObj]
 exact Qt (wpAny_alloc (Qu q))
theorem t6 {b:Bool} {t1 t2:Sem Value} {Q:Value→Shared→Prop}
  (h:wpAny (model G.prog G.w) A t1 (fun v1 s1=>wpAny (model G.prog G.w) A (setAdd s.heap.objs.size v1) (fun _ s2=>wpAny (model G.prog G.w) A t2 (fun v2 s3=>wpAny (model G.prog G.w) A (setDisplayStar s.heap.objs.size v2) (fun _ s4=>Q (.ref s.heap.objs.size) s4) bh s3) bh s2) bh s1) bh
   {s with heap:=s.heap.push {cls:=.type "set",dict:=none,data:=.set #[] 0 (.fresh 0 0 (!G.w.params.followText "set-order"))}}) :
  wpAny (model G.prog G.w) A (setDisplay .oneByOne b [(false,t1),(true,t2)]) Q bh s:=by
 unfold setDisplay
 rw [QH (by decide)]
 refine Qt (qY ?_)
 dsimp only
 have hn:(if [(false,t1),(true,t2)].length > 30 then 0 else ([(false,t1),(true,t2)].findIdx? (·.1)).getD [(false,t1),(true,t2)].length)=1:=rfl
 rw [hn]
 refine Qt (Qw ?_)
 have he:evalAll (([(false,t1),(true,t2)].take 1).map (·.2))=(do let v ← t1; let r ← holding [v] (pure []); pure (v::r)):=rfl
 rw [he]
 refine Qt (Qt (Qv h (fun v1 s1 h1=>?_) fun _ _ z=>z))
 refine Qt (Qw (Qu (Qu ?_)))
 refine Qt (Qw ?_)
 rw [List.forIn_cons]
 refine Qt (Qt (Qt (Qv h1 (fun _ s2 h2=>Qu ?_) fun _ _ z=>z)))
 dsimp only
 rw [List.forIn_nil]
 refine Qu ?_
 rw [QH (by decide)]
 refine Qu ?_
 show wpAny _ _ (forIn [(true,t2)] PUnit.unit _ >>= _) _ _ _
 rw [List.forIn_cons]
 refine Qt (Qt (Qt (Qv h2 (fun v2 s3 h3=>?_) fun _ _ z=>z)))
 rw [QI rfl]
 refine Qt (Qw (Qv h3 (fun _ s4 h4=>Qu ?_) fun _ _ z=>z))
 dsimp only
 rw [List.forIn_nil]
 exact Qu (Qu (Qu h4))
theorem NB {a d:Addr} {Q:Unit→Shared→Prop} (hh:A.handled=none) (hset:∃ o es ep t,s.heap.get? a=some o∧o.data=.set es ep t∧t.fits es.size=true∧t.tooFull=false) (hd:s.heap.DictOf (PySem.strKind G.prog G.w) d []) (hsys:(d==sysModules)=false)
  (q:∀ h',(∀ b o,s.heap.get? b=some o→h'.get? b=some o)→Q () {s with heap:=h'}):wpAny (model G.prog G.w) A (setDisplayStar a (.ref d)) Q bh s:=by
 apply bc;intro z_
 obtain ⟨o,es,ep,t,ho,hdat,hf,hr⟩:=hset
 have hT:s.TypeIs (.ref d) "dict":=hd.typeIs
 obtain ⟨od,eds,epd,hod,hex,hdd,hk,hp,hn⟩:=id hd
 apply z_;clear z_
 have hz:eds.size=0:=by
  have:eds.toList=[]:=by cases hq:eds.toList with | nil=>rfl | cons _ _=>rw [hq] at hp; cases hp
  rw [← Array.length_toList,this]; rfl
 unfold setDisplayStar
 refine Qt (wpAny_isInstance hT PySem.F.sub_dict_set ?_)
 rw [QH QM]
 refine Qt (wpAny_isInstance hT PySem.F.sub_dict_frozenset ?_)
 refine Qt (wpAny_askSetting ?_)
 dsimp only
 cases hb:G.w.params.followText "set-display-star-reads-storage" with
 | false=>
  have hb':(model G.prog G.w).w.params.followText "set-display-star-reads-storage"=false:=hb
  rw [hb',QH QM]
  dsimp only
  rw [QH QM]
  refine Qt (wpAny_typeOf hT ?_)
  rw [QI (by rfl)]
  refine Qt (Ra ?_)
  rw [QH (by rw [hsys]; exact QM)]
  refine Qt (wpAny_dictEpoch hod hdd ?_)
  refine Qt (wpAny_dictEntries hod hdd ?_)
  rw [hz]
  unfold setRoomFor
  have hrf:t.roomFor 0=none:=by
   unfold SetTable.roomFor
   unfold SetTable.tooFull at hr
   rw [Nat.add_zero,QH (of_decide_eq_false hr)]
  refine Qt (Qt (wpAny_setState_of ho hdat hf ?_))
  dsimp only
  rw [hrf]
  refine Qu ?_
  refine Qt ?_
  rw [Std.Legacy.Range.forIn_eq_forIn_range']
  show wpAny _ _ (forIn ([]:List Nat) PUnit.unit _) _ _ _
  rw [List.forIn_nil]
  exact Qu (Qu (q s.heap fun _ _ e=>e))
 | true=>
  have hb':(model G.prog G.w).w.params.followText "set-display-star-reads-storage"=true:=hb
  rw [hb',QI rfl]
  dsimp only
  apply bc;intro z_
  obtain ⟨epd',hm⟩:=hd.dictAt
  apply z_;clear z_
  refine Qt (wpAny_pyIter_dict hsys hm ?_)
  refine Qt (wpAny_runValue (Q2 PyProof.Rows.F.entry_set_update_loop ?_))
  rw [Around.under_plainId PyProof.Rows.F.plain_set_update_loop _]
  show wpAny _ A.in1 (pyNext (.ref s.heap.objs.size) >>= _) _ _ _
  have hne:d≠s.heap.objs.size:=Q8 (QO hod)
  refine Qt (wpAny_pyNext_dict_end (i:=0) (kvs:=[]) hh ⟨_,QG _ rfl,rfl,rfl⟩ (hm.push _) rfl fun h' hx=>?_)
  show wpAny _ A.in1 (ret Value.none) _ _ _
  refine Qu ?_
  refine Qu (q h' fun b o e=>hx b o (Q8 (QO e)) (QB _ e))
noncomputable def lk (l:Nat) (σ:St):Option (Option (List Nat)):=match aj l σ.st with | some (.set1 k)=>some k | _=>none
theorem gq {l:Nat} {k:Option (List Nat)} (h:lk l σ=some k):aj l σ.st=some (.set1 k):=by
 unfold lk at h
 split at h
 ·cases h; assumption
 ·first | exact nS h | exact nB h | cases h
noncomputable def NA (d1 d2:DE) (σ:St) (Q:V→St→Prop):Prop:=d1 ⟨σ.lo,(σ.nx,.set1 none)::σ.st,σ.nx+1⟩ fun v σ1=>bv v fun x=>onS (lk σ.nx σ1) fun k=>noS k
 (d2 {σ1 with st:=gE σ.nx (.set1 (some x)) σ1.st} fun u σ2=>iT u fun l=>onS (kq l σ2) fun kvs=>onNil kvs (onS (lk σ.nx σ2) fun k=>onS k fun _=>Q (.loc σ.nx) σ2))
theorem Dw {e1 e2:PySem.Expr} {q1 pos:Pos} {d1 d2:DE} (ok:G.Ok) (hc0:sc.code≠0) (hc:kdsCode G.K (.ref sc.code)=true) (h1:SE G lv sc e1 d1) (h2:SE G lv sc e2 d2)
  (hst:∀ env,starEach [e1,.Starred e2 q1] env=[(false,eval e1 env),(true,eval e2 env)]) (hr:displayRoad 0 [e1,.Starred e2 q1]=.oneByOne) :
  SE G lv sc (.Set [e1,.Starred e2 q1] 0 pos) (NA d1 d2):=fun σ Q hd A env X s ha he R=>by
 rw [arm_eval_Set]
 refine Qt (Qx ?_)
 refine Qt (kds_main (R.K ok) (by rw [(he.code hc0).1]; exact hc) fun b=>?_)
 rw [hst,hr]
 dsimp only [List.map_cons,List.map_nil]
 refine t6 ?_
 apply bc;intro z_
 obtain ⟨R1,L1⟩:=R.anew (o:=.set1 none) (s':={s with heap:=s.heap.push {cls:=.type "set",dict:=none,data:=.set #[] 0 (.fresh 0 0 (!G.w.params.followText "set-order"))}}) aH (R.size ok) (fun _ _ e=>QB _ e)
  (fun X' L=>⟨_,QG _ rfl,rfl⟩) rfl rfl R.gens
 apply z_;clear z_
 refine Qt (h1.run (K:=_) hd ha he R1 fun v1 s1 a1 σ1 X1 k1 L2 n2 R2 W2=>?_)
 refine Qt (Qx (Qu ?_))
 have hρ:X1.ρ σ.nx=s.heap.objs.size:=by
  rw [L2.ρ σ.nx (QK _)]
  exact QI rfl
 refine W2.str_ k1 fun x tk k1=>?_
 apply bc;intro z_
 obtain ⟨ks,hl,k1⟩:=onS.out k1
 obtain ⟨rfl,k1⟩:=noS.out k1
 have hl:=gq hl
 obtain ⟨_,ob,hob,rfl⟩:=R2.st _ _ hl
 apply z_;clear z_
 rw [hρ] at hob
 refine Al hob fun h' k hsb hse b=>?_
 apply bc;intro z_
 obtain ⟨o',hs,ep,t,e1,e2,e3,e4,e5,e6⟩:=hse
 apply z_;clear z_
 have R3:=R2.upd (s':={s1 with heap:=h',toks:=k}) (o:=.set1 (some x)) hl (fun b hb o e=>by rw [hsb.2 b (by rw [hρ] at hb; exact hb)]; exact e) (by
  rw [hρ]; exact ⟨o',e1,e2,hs,tk,ep,t,e3,e4,e5,e6⟩) rfl rfl R2.gens
 refine Qt (h2.run (K:=_) k1 ha he R3 fun v2 s3 a2 σ3 X3 k3 L3 n3 R4 W4=>?_)
 refine Qt (Qx (Qu (W4.loc_ k3 fun l k3=>?_)))
 apply bc;intro z_
 obtain ⟨kvs,hdct,k3⟩:=onS.out k3
 have hdct:=eR hdct
 obtain ⟨rfl,k3⟩:=onNil.out k3
 obtain ⟨y',hy,k3⟩:=onS.out k3
 obtain ⟨y,rfl,k3⟩:=onS.out k3
 obtain ⟨_,kvals,hD,hP⟩:=R4.st _ _ hdct
 apply z_;clear z_
 cases kvals with
 | cons _ _=>exact hP.elim
 | nil=>
  apply bc;intro z_
  obtain ⟨_,ob2,hob2,g1,hs2,tk2,ep2,t2,g2,g3,g4,g5⟩:=R4.st _ _ (gq hy)
  apply z_;clear z_
  have n02:=QZ (QK σ.nx) n2
  have hρ3:X3.ρ σ.nx=s.heap.objs.size:=(L3.ρ σ.nx n02).trans hρ
  rw [hρ3] at hob2
  exact NB ha.handled ⟨ob2,_,ep2,t2,hob2,g2,g3,g5⟩ hD (gI R4 hdct) fun h4 hk4=>⟨_,σ3,X3,k3,(L1.trans L2 (Q0 _)).trans L3 (Nat.le_of_lt n02),QC (Nat.le_of_lt n02) n3,R4.heap hk4,.loc_at (QZ n02 n3) hρ3⟩
theorem pd:Manifest.owners.lookup (String.ofList ['r','o','t','a','r','e','t','i','_','t','e','s'].reverse)=some Manifest.sig_set_iterator:=by kernel_rfl
theorem cN:Slot "set_iterator" "__next__" "set_iterator.__next__":=
 .of (owner:="set_iterator") (n:="__next__") (by rw [typeLookup_type,builtinLookup_eq_fast]; kernel_rfl) (by decide +kernel) (by decide +kernel) (by decide +kernel)
  (by first | exact .inl (by decide +kernel) | exact .inr (by decide +kernel)) (by rw [isSubtype_type]; kernel_rfl)
theorem gN:entryFor table "set_iterator.__next__"=some Builtin.«set_iterator.__next__»:=entryFor_of_tree (by kernel_rfl)
theorem ik (a:Value):argsOk "set_iterator.__next__" ⟨[a],[]⟩:=by
 unfold argsOk; rw [signature?_of (id:="set_iterator.__next__") (n:=['_','_','t','x','e','n','_','_']) (o:=['r','o','t','a','r','e','t','i','_','t','e','s']) (by kernel_rfl) pd]; kernel_rfl
theorem kt:entryFor table "set.__iter__"=some Builtin.«frozenset.__iter__»:=
 entryFor_alias (id':="frozenset.__iter__") (by rw [fastTable_eq_tree]; kernel_rfl) (by first | rfl | decide +kernel | (unfold String.splitOn; simp +decide [String.splitOnAux])) (by decide +kernel) (by rw [fastTable_eq_tree]; kernel_rfl)
theorem iV:Slot "set_iterator" "__iter__" "set_iterator.__iter__":=
 .of (owner:="set_iterator") (n:="__iter__") (by rw [typeLookup_type,builtinLookup_eq_fast]; kernel_rfl) (by decide +kernel) (by decide +kernel) (by decide +kernel)
  (by first | exact .inl (by decide +kernel) | exact .inr (by decide +kernel)) (by rw [isSubtype_type]; kernel_rfl)
theorem mM (a:Value):argsOk "set_iterator.__iter__" ⟨[a],[]⟩:=by
 unfold argsOk; rw [signature?_of (id:="set_iterator.__iter__") (n:=['_','_','r','e','t','i','_','_']) (o:=['r','o','t','a','r','e','t','i','_','t','e','s']) (by kernel_rfl) pd]; kernel_rfl
theorem lC:entryFor table "set_iterator.__iter__"=some Builtin.«dict_keyiterator.__iter__»:=
 entryFor_alias (id':="dict_keyiterator.__iter__") (by rw [fastTable_eq_tree]; kernel_rfl) (by first | rfl | decide +kernel | (unfold String.splitOn; simp +decide [String.splitOnAux])) (by decide +kernel) (by rw [fastTable_eq_tree]; kernel_rfl)
noncomputable def Set1 (w:World) (h:Heap) (a:Addr) (x:Str) (tk:Tok) (hs:Int) (ep:Nat) (t:SetTable):Prop:=∃ o,h.get? a=some o∧o.cls=.type "set"∧o.data=.set #[(hs,.str x tk)] ep t∧t.fits 1=true∧t.led=!w.params.followText "set-order"
noncomputable def IsSetIter (h:Heap) (it a:Addr) (slot i ep:Nat):Prop:=∃ o,h.get? it=some o∧o.cls=.type "set_iterator"∧o.data=.fields #[rawInt slot,rawInt i,.ref a,rawInt 1,rawInt ep]
section
variable {prog:Program} {w:World} {A:Around} {E:Value→Shared→Prop} {s:Shared} {a it:Addr} {x:Str} {tk:Tok} {hs:Int} {ep:Nat} {t:SetTable}
theorem Set1.typeIs (h:Set1 w s.heap a x tk hs ep t):s.TypeIs (.ref a) "set":=let ⟨o,ho,hc,_⟩:=h; ⟨o,ho,hc⟩
theorem IsSetIter.typeIs {slot i:Nat} (h:IsSetIter s.heap it a slot i ep):s.TypeIs (.ref it) "set_iterator":=let ⟨o,ho,hc,_⟩:=h; ⟨o,ho,hc⟩
theorem mr (hf:t.fits 1=true):∃ j,t.place=#[j]:=by
 have h:t.place.size=1:=by
  simp only [SetTable.fits,Bool.and_eq_true,beq_iff_eq] at hf
  exact hf.1
 cases ht:t.place with
 | mk l=>
  rw [ht] at h
  match l,h with | [j],_=>exact ⟨j,rfl⟩
theorem wP {Q:Value→Shared→Prop} (h:Set1 w s.heap a x tk hs ep t)
  (q:Q (.ref s.heap.objs.size) {s with heap:=s.heap.push {cls:=.type "set_iterator",data:=.fields #[rawInt 0,rawInt 0,.ref a,rawInt 1,rawInt ep]}}):wpAny (model prog w) A (pyIter (.ref a)) Q E s:=by
 obtain ⟨o,ho,hc,hd,hf,hl⟩:=id h
 refine wpAny_pyIter_slot h.typeIs PySem.F.slot_set_iter (Qz PySem.F.slot_set_iter h.typeIs kt ?_ (PySem.F.args_set_iter_1 _))
 unfold Builtin.«frozenset.__iter__»
 refine Qt (Qy (a:=a) rfl ?_)
 unfold Builtin.Frozenset.sizeOf
 refine Qt (Qt (wpAny_setEntries_of ho hd hf (Qu ?_)))
 unfold setDrawn
 refine Qt (Qt (wpAny_setState_of ho hd hf ?_))
 unfold setsByText
 refine Qt (Qt (wpAny_askSetting (Qu (Qu ?_))))
 obtain ⟨mask,place,dummies,finger,led,moves,plain⟩:=t
 refine wpAny_ite_split (fun hh=>?_) fun _=>Qt (Qu ?_)
 ·have:=(Bool.and_eq_true_iff.mp hh).2
  cases plain <;> exact absurd this QM
 ·unfold setEpoch
  refine Qt (Qt (wpAny_setState_of ho hd hf (Qu ?_)))
  refine Qt ?_
  unfold newFields
  refine wpAny_newObj_type ?_ (by size_fits)
  exact Qu ⟨_,rfl,"set_iterator",_,⟨_,QG _ rfl,rfl⟩,cN.lookup,q⟩
theorem xG (f:Nat→Nat) (e:Int×Value):pickOrder f #[e]=#[e]:=by
 unfold pickOrder
 simp [pickOrder.go,Nat.mod_one]
theorem lS {j k:Nat}:SetTable.below #[j] k=if j<k then 1 else 0:=by
 unfold SetTable.below SetTable.below.go
 simp only [QJ,List.length_cons,List.length_nil]
 by_cases h:j<k
 ·simp [h,SetTable.below.go]
 ·simp [h,SetTable.below.go]
theorem pN {Q:Array (Int×Value)→Shared→Prop} (h:Set1 w s.heap a x tk hs ep t) (ht:w.params.followText "set-order"=true) (q:Q #[(hs,.str x tk)] s):wpAny (model prog w) A (setWalk a) Q E s:=by
 apply bc;intro z_
 obtain ⟨o,ho,hc,hd,hf,hl⟩:=h
 apply z_;clear z_
 unfold setWalk
 refine Qt (wpAny_setState_of ho hd hf ?_)
 dsimp only
 unfold setsByText
 refine Qt (Qt (wpAny_askSetting (Qu ?_)))
 refine wpAny_ite_split (fun _=>?_) fun hh=>absurd ht hh
 refine Qt (wpAny_askSetting ?_)
 rw [xG]
 exact Qu q
theorem tY {Q:Option (Value×Nat)→Shared→Prop} (h:Set1 w s.heap a x tk hs ep t) (q:∀ sl,(w.params.followText "set-order"=false→SetTable.below t.place sl=1)→Q (some (.str x tk,sl)) s) :
  wpAny (model prog w) A (setNext a 0 0 ep) Q E s:=by
 apply bc;intro z_
 obtain ⟨o,ho,hc,hd,hf,hl⟩:=id h
 obtain ⟨j,hj⟩:=mr hf
 apply z_;clear z_
 unfold setNext
 refine Qt (wpAny_setState_of ho hd hf ?_)
 dsimp only
 unfold setsByText
 refine Qt (Qt (wpAny_askSetting (Qu ?_)))
 refine wpAny_ite_split (fun hb=>?_) fun hb=>?_
 ·refine wpAny_ite_split (fun hh=>absurd hh (by simp)) fun _=>?_
  refine Qt (pN h hb ?_)
  exact Qu (q 0 fun hh=>absurd ((show w.params.followText "set-order"=true from hb).symm.trans hh) (by decide))
 ·have hb':w.params.followText "set-order"=false:=(Bool.not_eq_true _).mp hb
  have hled:t.led=true:=by rw [hl,hb']; rfl
  apply bc;intro z_
  obtain ⟨mask,place,dummies,finger,led,moves,plain⟩:=t
  apply z_;clear z_
  dsimp only at hj hled
  subst hj hled
  refine wpAny_ite_split (fun hh=>?_) fun _=>?_
  ·cases plain <;> exact absurd hh QM
  ·refine Qt (wpAny_ite_split (fun hh=>absurd hh QM) fun _=>Qu ?_)
   have hb0:SetTable.below #[j] 0=0:=by rw [lS]; rfl
   rw [hb0]
   exact Qu (q (j+1) fun _=>by rw [lS,QI (QK _)])
theorem tZ {Q:Option (Value×Nat)→Shared→Prop} {sl:Nat} (h:Set1 w s.heap a x tk hs ep t) (hsl:w.params.followText "set-order"=false→SetTable.below t.place sl=1) (q:Q none s) :
  wpAny (model prog w) A (setNext a sl 1 ep) Q E s:=by
 apply bc;intro z_
 obtain ⟨o,ho,hc,hd,hf,hl⟩:=id h
 obtain ⟨j,hj⟩:=mr hf
 apply z_;clear z_
 unfold setNext
 refine Qt (wpAny_setState_of ho hd hf ?_)
 dsimp only
 unfold setsByText
 refine Qt (Qt (wpAny_askSetting (Qu ?_)))
 refine wpAny_ite_split (fun hb=>?_) fun hb=>?_
 ·refine wpAny_ite_split (fun hh=>absurd hh (by simp)) fun _=>?_
  refine Qt (pN h hb ?_)
  exact Qu q
 ·have hb':w.params.followText "set-order"=false:=(Bool.not_eq_true _).mp hb
  have hled:t.led=true:=by rw [hl,hb']; rfl
  have hs1:=hsl hb'
  apply bc;intro z_
  obtain ⟨mask,place,dummies,finger,led,moves,plain⟩:=t
  apply z_;clear z_
  dsimp only at hj hled hs1
  subst hj hled
  refine wpAny_ite_split (fun hh=>?_) fun _=>?_
  ·cases plain <;> exact absurd hh QM
  ·refine Qt (wpAny_ite_split (fun hh=>absurd hh QM) fun _=>Qu ?_)
   rw [hs1]
   exact Qu q
theorem tG {Q:Option Value→Shared→Prop} (h:Set1 w s.heap a x tk hs ep t) (hi:IsSetIter s.heap it a 0 0 ep)
  (q:∀ h' sl,IsSetIter h' it a sl 1 ep→(w.params.followText "set-order"=false→SetTable.below t.place sl=1)→Heap.SameBut it s.heap h'→Q (some (.str x tk)) {s with heap:=h'}):wpAny (model prog w) A (pyNext (.ref it)) Q E s:=by
 apply bc;intro z_
 obtain ⟨o,ho,hc,hd,hf,hl⟩:=id h
 obtain ⟨oi,hoi,hci,hdi⟩:=id hi
 apply z_;clear z_
 unfold pyNext
 refine Qt (wpAny_attempt (wpAny_callSpecial?_slot (name:=Str.ofString "__next__") hi.typeIs cN
  (Qz cN hi.typeIs gN ?_ (ik _))))
 unfold Builtin.«set_iterator.__next__»
 refine Qt (Qy (a:=(Value.ref it,[])) rfl ?_)
 try dsimp only
 refine Qt (wpAny_fieldsOf hoi hdi ?_)
 dsimp only [rawInt]
 refine Qt (wpAny_setEntries_of ho hd hf ?_)
 refine wpAny_ite_split (fun hh=>absurd hh (by show ¬ (((1:Int) != 1)=true); decide)) fun _=>?_
 try dsimp only
 refine Qt (m:=setNext a 0 0 ep) (tY h fun sl hsl=>?_)
 dsimp only
 have e1:=Heap.get?_update_self (h:=s.heap) (Obj.mapFields (·.setIfInBounds 0 (Value.int (sl:Int) 0))) hoi (Obj.isFreed_of_fields (Obj.data_mapFields hdi _))
 have d1:=Obj.data_mapFields hdi (·.setIfInBounds 0 (Value.int (sl:Int) 0))
 refine Qt (wpAny_setField hoi hdi (by simp) ?_)
 refine Qt (wpAny_setField e1 d1 (by simp) ?_)
 refine Qu ⟨_,rfl,Qu (q _ sl ?_ hsl ((Heap.SameBut.update ..).trans (Heap.SameBut.update ..)))⟩
 refine ⟨_,Heap.get?_update_self _ e1 (Obj.isFreed_of_fields (Obj.data_mapFields d1 _)),(Obj.cls_mapFields ..).trans ((Obj.cls_mapFields ..).trans hci),?_⟩
 rw [Obj.data_mapFields d1]
 simp [rawInt]
theorem tH {Q:Option Value→Shared→Prop} {sl:Nat} (hh:A.handled=none) (h:Set1 w s.heap a x tk hs ep t) (hi:IsSetIter s.heap it a sl 1 ep) (hsl:w.params.followText "set-order"=false→SetTable.below t.place sl=1)
  (q:∀ h',Heap.ExtBut it s.heap h'→Q none {s with heap:=h'}):wpAny (model prog w) A (pyNext (.ref it)) Q E s:=by
 apply bc;intro z_
 obtain ⟨o,ho,hc,hd,hf,hl⟩:=id h
 obtain ⟨oi,hoi,hci,hdi⟩:=id hi
 apply z_;clear z_
 unfold pyNext
 refine Qt (wpAny_attempt (wpAny_callSpecial?_slot (name:=Str.ofString "__next__") hi.typeIs cN
  (Qz cN hi.typeIs gN ?_ (ik _))))
 unfold Builtin.«set_iterator.__next__»
 refine Qt (Qy (a:=(Value.ref it,[])) rfl ?_)
 try dsimp only
 refine Qt (wpAny_fieldsOf hoi hdi ?_)
 dsimp only [rawInt]
 refine Qt (wpAny_setEntries_of ho hd hf ?_)
 refine wpAny_ite_split (fun hh=>absurd hh (by show ¬ (((1:Int) != 1)=true); decide)) fun _=>?_
 try dsimp only
 refine Qt (m:=setNext a sl 1 ep) (tZ h hsl ?_)
 dsimp only
 refine Qt (wpAny_setField hoi hdi (by simp) ?_)
 refine Qt ?_
 simp only [newExc,newTuple]
 refine Qt (wpAny_newObj_type ?_ (by size_fits))
 refine Qt (m:=firstArgMember _ _) (Qy (a:=Value.none) (by first | rfl | (simp only [firstArgMember]; rfl)) ?_)
 refine wpAny_newObj_type ?_ (by size_fits)
 simp only [raiseNew]
 refine Qt (wpAny_handled ?_)
 first | rw [show A.in1.handled=none from hh] | rw [hh]
 refine Qt (Qu (wpAny_throw ?_))
 refine Qt (wpAny_isInstance (T:="StopIteration") (b:=true) ⟨_,QG _ rfl,rfl⟩ isSubtype_stop ?_)
 exact Qu (q _ (((Heap.SameBut.update ..).extBut.push _).push _))
end
section
variable {prog:Program} {w:World} {A:Around} {E:Value→Shared→Prop} {s:Shared} {a it:Addr} {x:Str} {tk:Tok} {hs:Int} {ep:Nat} {t:SetTable}
theorem wA {Q:Bool→Shared→Prop} (hT:s.TypeIs (.ref a) "set") (h:Q false s):wpAny (model prog w) A (Builtin.List.listLengthHint (.ref a)) Q E s:=by
 unfold Builtin.List.listLengthHint
 refine Qt (wpAny_specialOf hT PySem.F.slot_set_len.lookup ?_)
 generalize hid:("set.__len__":String)=id0
 wp_delta
 rw [show splitId id0=some ("set","__len__") from by subst hid; decide +kernel]
 subst hid
 refine Qt (wpAny_isInstance (T:="set") (b:=true) hT (by rw [isSubtype_type]; kernel_rfl) ?_)
 refine wpAny_ite_split (fun hab=>absurd hab (by decide)) (fun _=>?_)
 refine wpAny_ite_split (fun _=>?_) (fun hab=>absurd (by decide +kernel) hab)
 refine Qt (wpAny_typeOf hT ?_)
 exact Qu h
theorem Set1.at_ {h h':Heap} (x':Set1 w h a x tk hs ep t) (k:∀ o,h.get? a=some o→h'.get? a=some o):Set1 w h' a x tk hs ep t:=let ⟨o,ho,r⟩:=x'; ⟨o,k o ho,r⟩
theorem IsSetIter.at_ {h h':Heap} {sl i:Nat} (x':IsSetIter h it a sl i ep) (k:∀ o,h.get? it=some o→h'.get? it=some o):IsSetIter h' it a sl i ep:=let ⟨o,ho,r⟩:=x'; ⟨o,k o ho,r⟩
noncomputable def Ll (w:World) (a it:Addr) (x:Str) (tk:Tok) (hs:Int) (ep:Nat) (t:SetTable) (i:Nat) (h:Heap):Prop:=Set1 w h a x tk hs ep t∧∃ sl,IsSetIter h it a sl i ep∧(i=0→sl=0)∧(i=1→w.params.followText "set-order"=false→SetTable.below t.place sl=1)
theorem uh (hh:A.handled=none) (hne:a≠it):Walks prog w A it [it,a] [it] 1 (fun _ v=>v=.str x tk) (Ll w a it x tk hs ep t) where
 sub:=fun b hb=>by simp at hb; simp [hb]
 frame:=fun i h h' st k=>⟨st.1.at_ fun o e=>k a (by simp) o e,let ⟨sl,q,r⟩:=st.2; ⟨sl,q.at_ fun o e=>k it (by simp) o e,r⟩⟩
 item:=fun i s Q E hi st hQ=>by
  have:i=0:=by omega
  subst this
  apply bc;intro z_
  obtain ⟨h1,sl,h2,h3,_⟩:=st
  apply z_;clear z_
  have:=h3 rfl
  subst this
  refine tG h1 h2 fun h' sl' g1 g2 g3=>?_
  exact hQ _ h' s.toks rfl ⟨h1.at_ fun o e=>(g3.2 a hne).trans e,sl',g1,⟨fun e=>absurd e (by decide),fun _=>g2⟩⟩ fun b o hb e=>(g3.2 b (fun z=>hb (by simp [z]))).trans e
 done:=fun s Q E st hQ=>by
  apply bc;intro z_
  obtain ⟨h1,sl,h2,_,h4⟩:=st
  apply z_;clear z_
  exact tH hh h1 h2 (h4 rfl) fun h' he=>hQ h' s.toks fun b o hb e=>he b o (fun z=>hb (by simp [z])) e
 self:=fun i s Q E st hQ=>by
  apply bc;intro z_
  obtain ⟨h1,sl,h2,_⟩:=st
  apply z_;clear z_
  refine wpAny_pyIter_slot h2.typeIs iV (Qz iV h2.typeIs lC ?_ (mM _))
  show wpAny _ _ (ret (.ref it)) _ _ s
  exact Qu ⟨_,rfl,"set_iterator",_,h2.typeIs,cN.lookup,hQ⟩
theorem B4:KdlSrc prog w "set" a a 1 (fun _ v=>v=.str x tk) (fun h=>Set1 w h a x tk hs ep t) where
 type:=fun s hm=>hm.typeIs
 there:=fun _ hm=>let ⟨o,ho,_⟩:=hm; ⟨QO ho,QO ho⟩
 keep:=fun _ _ hm hk=>hm.at_ fun o e=>hk a (.inl rfl) o e
 notList:=by decide
 notTuple:=by decide
 hint:=fun _ _ _ _ hm hq=>wA hm.typeIs hq
 iter:=fun A s hh hm=>⟨_,_,(fun _ _ hq=>wP hm hq),uh hh (let ⟨o,ho,_⟩:=hm; Q8 (QO ho)),⟨hm.at_ fun o e=>QB _ e,0,⟨_,QG _ rfl,rfl,rfl⟩,⟨fun _=>rfl,fun e=>absurd e (by decide)⟩⟩⟩
theorem oA {Q:List Value→Shared→Prop} (hh:A.handled=none) (h:Set1 w s.heap a x tk hs ep t)
  (q:∀ h' k,(∀ b o,s.heap.get? b=some o→h'.get? b=some o)→Q [.str x tk] {s with heap:=h',toks:=k}):wpAny (model prog w) A (collect (.ref a)) Q E s:=by
 unfold collect
 refine Qt (wpAny_runValue (Q2 entry_proto_collect' ?_))
 show wpAny _ _ (do again (.builtin "list.__iadd__" ⟨[← newList [],.ref a],[]⟩)) _ _ s
 refine Qt (wpAny_newList (Qu ⟨Code.quiet_builtin _ (by decide +kernel),Q2 entry_list_iadd' ?_⟩))
 show wpAny _ _ (Builtin.List.listExtendWith (.ref s.heap.objs.size) (.ref a) (.ref s.heap.objs.size)) _ _ {s with heap:=s.heap.push (seqObj "list" #[] 0)}
 have hlt:a<s.heap.objs.size:=let ⟨o,ho,_⟩:=h; QO ho
 rw [Around.under_plainId (by decide +kernel) _]
 let R:Result→Shared→Prop:=fun r s'=>match r with
  | .ok (.ret v)=>wpAny (model prog w) A (match v with
   | .ref a=>(do
    let o ← load a
    match o.data with
    | .seq xs _=>pure xs.toList
    | _=>unsupported "internal:collect")
   | _=>unsupported "internal:collect") Q E s'
  | .ok _=>False
  | .error e=>E e s'
 refine Qv (kdl_extend (R:=R) (s:={s with heap:=s.heap.push (seqObj "list" #[] 0)}) (B4 (prog:=prog) (x:=x) (tk:=tk) (hs:=hs) (ep:=ep) (t:=t)) hh (h.at_ fun o e=>QB _ e) s.heap.objs.size (Q7 hlt) (Q7 hlt) (.ref s.heap.objs.size) 0 (QG _ rfl) (fun h' k acc c hk hS hacc=>?_) (by rw [QN]; omega)) (fun fin s' z=>z) fun _ _ z=>z
 show wpAny (model prog w) A (do
   let o ← load s.heap.objs.size
   match o.data with
   | .seq xs _=>pure xs.toList
   | _=>unsupported "internal:collect") Q E _
 refine Qt (QA hS ?_)
 have e1:acc.toList=[.str x tk]:=by
  apply bc;intro z_
  obtain ⟨l1,l2⟩:=hacc
  obtain ⟨l⟩:=acc
  apply z_;clear z_
  have l1:l.length=1:=l1
  cases l with
  | nil=>cases l1
  | cons v r=>
   cases r with
   | nil=>have:=l2 0 v rfl; rw [this]
   | cons u r=>cases l1
 show wpAny _ _ (pure acc.toList) Q E _
 rw [e1]
 exact Qu (q h' k fun b o e=>hk b o (Q8 (QO e)) (QB _ e))
end
theorem Rel.retab {c':Addr} {oc:Obj} {ps':Array Value} (R:Rel G X env σ s) (ha:s.heap.get? c'=none) (k:∀ b,b≠G.T→∀ o,s.heap.get? b=some o→s'.heap.get? b=some o) (ho:s'.heap.get? c'=some oc)
  (hT:s'.heap.get? G.T=some (B8 ps')) (hok:∀ F:Addr→Option Obj,F c'=some oc→G.TbOk F ps') (hos:s'.os=s.os) (hd:s'.drawn=s.drawn) (hg:G.Gn s'.gens) :
  Rel G {X with F:=fun b=>if b=c' then some oc else X.F b,tb:=ps'} env σ s'∧X.le σ.nx {X with F:=fun b=>if b=c' then some oc else X.F b,tb:=ps'}:=by
 have ne:∀ {b:Addr} {ob:Obj},s.heap.get? b=some ob→b≠c':=fun e q=>by rw [q,ha] at e; cases e
 have L:X.le σ.nx {X with F:=fun b=>if b=c' then some oc else X.F b,tb:=ps'}:=⟨fun _ _=>rfl,fun b ob e=>by
  show (if b=c' then some oc else X.F b)=_
  rw [QH (ne (R.sub _ _ e))]; exact e,fun _ _ _=>rfl⟩
 have Fo:∀ {b:Addr},b≠c'→X.F b=none→({X with F:=fun b=>if b=c' then some oc else X.F b,tb:=ps'}:Wd).F b=none:=fun {b} q e=>by
  show (if b=c' then some oc else X.F b)=_
  rw [QH q]; exact e
 have nT:∀ {b:Addr} {ob:Obj},X.F b=some ob→b≠G.T:=fun e q=>by rw [q,R.tab.2.1] at e; cases e
 apply bc;intro z_
 obtain ⟨oL,zL⟩:=R.loc.ltL
 apply z_;clear z_
 refine ⟨⟨fun b ob e=>?_,fun b ob e q=>L.F _ _ (R.base b ob e q),fun l o e=>⟨?_,(R.own l o e).2⟩,R.inj,R.big,fun l o e=>⟨(R.st l o e).1,?_⟩,⟨hT,?_,hok _ (QI rfl)⟩,?_,hos.trans R.os,hd.trans R.drawn,hg,fun a o e=>let ⟨z1,z2,z3,z4,z5,z6⟩:=R.hp a o e; ⟨k a z6 _ z1,Fo (ne z1) z2,z3,z4,z5,z6⟩⟩,L⟩
 ·have e:(if b=c' then some oc else X.F b)=some ob:=e
  by_cases q:b=c'
  ·rw [QI q] at e; cases e; rw [q]; exact ho
  ·rw [QH q] at e; exact k b (nT e) _ (R.sub _ _ e)
 ·apply bc;intro z_
  obtain ⟨ob,z⟩:=R.there e
  apply z_;clear z_
  exact Fo (ne z) (R.own l o e).1
 ·apply bc;intro z_
  obtain ⟨ob,z⟩:=(R.st l o e).2.there
  apply z_;clear z_
  exact (R.st l o e).2.go L (QF _) ((k _ (R.own l o e).2 _ z).trans z.symm)
 ·exact Fo (ne R.tab.1) R.tab.2.1
 ·refine R.loc.go L (QF _) ((k _ R.loc.freeL.2.2 _ zL).trans zL.symm) (fun x c e=>?_) ⟨Fo (ne zL) R.loc.freeL.1,R.loc.freeL.2.1⟩ fun w x c e=>⟨?_,(R.loc.freeC w x c e).2.1⟩
  ·apply bc;intro z_
   obtain ⟨oc',zc⟩:=R.loc.ltC e
   apply z_;clear z_
   refine (k _ (fun w=>?_) _ zc).trans zc.symm
   by_cases q:env.frame=some env.locals
   ·exact (R.loc.freeC q x c e).2.2.2 w
   ·apply bc;intro z_
    obtain ⟨o',z⟩:=R.loc.frzC q x c e
    apply z_;clear z_
    exact nT z w
  ·apply bc;intro z_
   obtain ⟨oc',zc⟩:=R.loc.ltC e
   apply z_;clear z_
   exact Fo (ne zc) (R.loc.freeC w x c e).1
structure LamOk (G:Glob) (c:Nat) (pos:Pos) (qual:Str):Prop where
 hC:∀ h:Heap,G.K.In h→CodeHd h c G.T
 out:∀ (F:Addr→Option Obj) (ps:Array Value),G.TbOk F ps→ps=#[]∨∃ c' o vs t,ps=#[rawInt pos.line,rawInt pos.col,.ref c']∧F c'=some o∧o.cls=.type "code"∧o.data=.fields vs∧vs[1]?=some (.str qual t)
 in_:∀ (F:Addr→Option Obj) (c':Addr) (o:Obj) (vs:Array Value) (t:Tok),F c'=some o→o.cls=.type "code"→o.data=.fields vs→vs[1]?=some (.str qual t)→G.TbOk F #[rawInt pos.line,rawInt pos.col,.ref c']
noncomputable abbrev kE (qual:Str) (params:Arguments) (body:PySem.Expr) (scope:Scope) (pm cv:Value):Obj:={cls:=.type "function",data:=.func (kla_fn "<lambda>" qual params body scope [] pm cv .none)}
noncomputable def LamAt (G:Glob) (X:Wd) (f:Addr) (qual:Str) (params:Arguments) (body:PySem.Expr) (scope:Scope):Prop:=∃ pm c' oc vs t,X.F f=some (kE qual params body scope pm (.ref c'))∧X.F c'=some oc∧oc.data=.fields vs∧vs[1]?=some (.str qual t)
theorem wT {params:Arguments} {body:PySem.Expr} {scope:Scope} {pos:Pos} {Q:Value→Shared→Prop} (ok:G.Ok) (hc:sc.code≠0) (L:LamOk G sc.code pos (sc.qual++"<lambda>")) (hdef:∀ env,defaultsOf params env=([],[])) (hcl:∀ env,closureFor scope env=pure [])
  (he:EOk sc env) (R:Rel G X env σ s) (q:∀ f s' X',Rel G X' env σ s'→X.le σ.nx X'→LamAt G X' f (sc.qual++"<lambda>") params body scope→Q (.ref f) s') :
  wpAny (model G.prog G.w) A (eval (.Lambda params body scope pos) env) Q bh s:=by
 apply bc;intro z_
 obtain ⟨ec,eq⟩:=he.code hc
 apply z_;clear z_
 refine kla_eval (hdef env) ?_
 rw [eq]
 apply bc;intro z_
 obtain ⟨mg,hmg,hb⟩:=ok.lam
 have keep:∀ b o,G.hb.get? b=some o→b≠G.T→s.heap.get? b=some o:=fun b o e h=>R.sub _ _ (R.base b o e h)
 have hgs:s.heap.Ns mainGlobals mg:=by
  obtain ⟨o,es,ep,e,r⟩:=hmg
  exact ⟨o,es,ep,keep _ _ e ok.T3.symm,r⟩
 obtain ⟨bm,ob,b1,b2,b3,b4,b5,b6⟩:=hb
 apply z_;clear z_
 have hbs:=keep _ _ b5 b4
 have C:=L.hC s.heap (R.K ok)
 have hP:=R.tab.1
 rw [makeFunction_eq]
 simp only [List.zip_nil_right,List.filterMap_nil,List.isEmpty_nil,if_true,pure_bind]
 unfold makeTail
 rw [hcl,he.globals]
 refine Qt (Qu ?_)
 simp only [List.isEmpty_nil,if_true]
 refine Qt (Qu ?_)
 rcases L.out _ _ R.tab.2.2 with e0 | ⟨c',oc,vs,t,e0,e1,e2,e3,e4⟩
 ·rw [e0] at hP
  refine Qt (wpAny_functionCodeX ec (C.code hP trivial) (C.tab hP) rfl fun c' h' tk hx hge hlt _ hrec htb hnew=>?_)
  apply bc;intro z_
  obtain ⟨c₂,oc,vs,t,e2,g1,g2,g3⟩:=hrec
  cases e2
  obtain ⟨P',_,_,⟨oc',vs',z1,z2,_⟩,_⟩:=hnew
  apply z_;clear z_
  rw [g1] at z1; cases z1
  have hg':=hgs.extBut hx ok.T3.symm
  refine Qt (wpAny_builtinsFor hg' b1 b2 (hx _ _ b4 hbs) b6.1 b6.2.1 b6.2.2 ?_)
  refine Qt (wpAny_nsGet hg' ?_)
  refine Qt (Qu (wpAny_newObj_type ?_ (by size_fits)))
  apply bc;intro z_
  obtain ⟨R1,L1⟩:=R.retab (s':={s with heap:=h',toks:=tk}) (c':=c') (oc:=oc) (ps':=#[rawInt pos.line,rawInt pos.col,.ref c']) (Heap.get?_none_of_le hge) (fun b hb o e=>hx b o hb e) g1 (by
   have:=htb.2; simpa [B8] using this) (fun F hF=>L.in_ F c' oc vs t hF z2 g2 g3) rfl rfl R.gens
  obtain ⟨R2,L2⟩:=R1.still (s':={s with heap:=h'.push (kE (sc.qual++"<lambda>") params body scope ((mg "__name__").getD .none) (.ref c')),toks:=tk}) (o:=kE (sc.qual++"<lambda>") params body scope ((mg "__name__").getD .none) (.ref c')) (aH (h:=h')) (fun _ _ e=>QB _ e) (QG _ rfl) rfl rfl R.gens ok
  apply z_;clear z_
  exact q _ _ _ R2 (L1.trans L2 (QF _)) ⟨_,c',oc,vs,t,QI rfl,L2.F _ _ (QI rfl),g2,g3⟩
 ·rw [e0] at hP
  refine Qt (wpAny_functionCode_hit (c':=.ref c') ec (C.code hP trivial) (by simp [codeAmong,rawInt]) ?_)
  refine Qt (wpAny_builtinsFor hgs b1 b2 hbs b6.1 b6.2.1 b6.2.2 ?_)
  refine Qt (wpAny_nsGet hgs ?_)
  refine Qt (Qu (wpAny_newObj_type ?_ (by size_fits)))
  apply bc;intro z_
  obtain ⟨R2,L2⟩:=R.still (s':={s with heap:=s.heap.push (kE (sc.qual++"<lambda>") params body scope ((mg "__name__").getD .none) (.ref c'))}) (o:=kE (sc.qual++"<lambda>") params body scope ((mg "__name__").getD .none) (.ref c')) aH (fun _ _ e=>QB _ e) (QG _ rfl) rfl rfl R.gens ok
  apply z_;clear z_
  exact q _ _ _ R2 L2 ⟨_,c',oc,vs,t,QI rfl,L2.F _ _ e1,e3,e4⟩
theorem wR {qual:Str} {params:Arguments} {body:PySem.Expr} {scope:Scope} {f:Addr} {d:DE} {x:Str} {v:V} {val:Value} {K:V→St→Prop} (ok:G.Ok) (h:SE G lv sc' body d) (hcode:sc'.code=0) (hfn:sc'.fn=true) (hnm:sc'.names=scope.names) (hnd:(sc'.names.map (·.1)).Nodup)
  (hk:scope.kind=.function) (hgen:scope.isGenerator=false) (hco:scope.isCoroutine=false) (hcell:∀ p∈scope.names,p.2≠.cell) (hx:sc'.names[0]?=some (x,.local))
  (hbind:∀ pm c' val,bindArgs (kla_fn "<lambda>" qual params body scope [] pm c' .none) ⟨[val],[]⟩=pure [(x,val)])
  (F:LamAt G X f qual params body scope) (hd:d ⟨[(0,v)],σ.st,σ.nx⟩ K) (ha:AOk (lv+1) A) (R:Rel G X env σ s) (W:RepV X σ.nx v val) :
  wpAny (model G.prog G.w) A (call (.ref f) [val]) (Post G X env σ.nx (fun u σ'=>∃ lo',K u ⟨lo',σ'.st,σ'.nx⟩∧σ'.lo=σ.lo)) bh s:=by
 apply bc;intro z_
 obtain ⟨pm,c',oc,vs,t,hf,hc',hdat,hv1⟩:=F
 apply z_;clear z_
 refine wpAny_call ?_
 have hroom:A.depth<recursionLimit:=by have:=ha.depth; omega
 refine kla_callFunE hroom (R.sub _ _ hf) rfl hco hgen rfl ⟨c',oc,vs,t,rfl,R.sub _ _ hc',hdat,hv1⟩ ?_
 rw [hbind]
 refine Qu ?_
 refine wpAny_newFunctionEnv_cells hk (fun p hp=>?_) fun env' he' s2 y=>?_
 ·simp only [List.mem_singleton] at hp
  subst hp
  have:=dN hnd hx
  rw [hnm] at this
  exact .inl this
 ·apply bc;intro z_
  obtain ⟨⟨hsame,hns,hkeep,hfresh⟩,hcl,hapart,habove⟩:=y
  apply z_;clear z_
  have R2:=R.enter (s1:=s2) (env':=env') (lo:=[(0,v)]) ok hsame hkeep hns hfresh hcl hapart habove (by rw [he']; rfl) (fun i u e=>by
   rw [am] at e
   by_cases q:i=0
   ·rw [QI q] at e; cases e
    subst q
    refine ⟨x,.local,val,by rw [he']; show scope.names[0]?=_; rw [← hnm]; exact hx,W,.inl ⟨rfl,?_⟩⟩
    have hkd:env'.kindOf x=some .local:=by rw [he']; show scope.names.lookup x=_; rw [← hnm]; exact dN hnd hx
    exact ff hkd (by simp) (by simp)
   ·rw [QH q] at e; cases e)
  have hE:EOk sc' env':=by
   refine ⟨by rw [he']; exact hnm.symm,by rw [he']; exact hk,by rw [he']; rfl,by rw [he']; rfl,hnd,fun _=>by rw [he']; rfl,fun z hz=>?_,fun w=>absurd hcode w⟩
   exact absurd (jJ hz) (by rw [hnm]; exact fun m=>hcell _ m rfl)
  have hA:AOk lv (A.deeper env'):=ha.up 1 3 rfl rfl rfl (by decide) (by decide)
  refine ⟨(R.nolimit ok).keeps hkeep,kla_codeExpr ?_⟩
  refine Qv (h ⟨[(0,v)],σ.st,σ.nx⟩ _ hd (A.deeper env') env' _ s2 hA hE R2) (fun u s3 y_=>?_) fun _ _ z=>z.elim
  apply bc;intro z_
  obtain ⟨fv,σ3,X3,q3,L3,n3,R3,W3⟩:=y_
  obtain ⟨R4,L4,hS⟩:=R.leave ok R3 L3 n3
  apply z_;clear z_
  exact ⟨fv,⟨σ.lo,σ3.st,σ3.nx⟩,_,⟨σ3.lo,q3,rfl⟩,L4,n3,R4,W3.drop hS⟩
theorem AOk.in1 (h:AOk (lv+1) A):AOk lv A.in1:=h.up 0 1 rfl rfl rfl (by decide) (by decide)
theorem LamAt.up {f:Addr} {qual:Str} {params:Arguments} {body:PySem.Expr} {scope:Scope} (F:LamAt G X f qual params body scope) (L:X.le n X'):LamAt G X' f qual params body scope:=by
 apply bc;intro z_
 obtain ⟨pm,c',oc,vs,t,e1,e2,r⟩:=F
 apply z_;clear z_
 exact ⟨pm,c',oc,vs,t,L.F _ _ e1,L.F _ _ e2,r⟩
noncomputable def pX (l:Nat) (σ:St):Bool:=match aj l σ.st with | some .cold=>true | _=>false
theorem oz {l:Nat} (h:pX l σ=true):aj l σ.st=some .cold:=by
 unfold pX at h
 split at h
 ·assumption
 ·first | exact nS h | exact nB h | cases h
noncomputable def zg (σ:St) (k:List Nat) (σ2:St) (Q:V→St→Prop):Prop:=onS (eA (σ.nx+1) σ2) fun xs=>onNil xs (onT (pX σ.nx σ2) (Q (.loc σ.nx) ⟨σ.lo,gE σ.nx (.list [.str k]) (gE (σ.nx+1) (.list []) σ2.st),σ2.nx⟩))
theorem mB {k:List Nat} {Q:V→St→Prop} (h:zg σ k σ2 Q):(aj (σ.nx+1) σ2.st=some (.list [])∧aj σ.nx σ2.st=some .cold)∧Q (.loc σ.nx) ⟨σ.lo,gE σ.nx (.list [.str k]) (gE (σ.nx+1) (.list []) σ2.st),σ2.nx⟩:=by
 apply bc;intro z_
 obtain ⟨xs,h1,h⟩:=onS.out h
 obtain ⟨rfl,h⟩:=onNil.out h
 obtain ⟨h2,h⟩:=onT.out h
 apply z_;clear z_
 exact ⟨⟨bS h1,oz h2⟩,h⟩
noncomputable def Df (dl:DE) (v:V) (σ:St) (Q:V→St→Prop):Prop:=iT v fun l=>onS (lk l σ) fun k=>onS k fun k=>dl ⟨[(0,.str k)],(σ.nx+1,.list [])::(σ.nx,.cold)::σ.st,σ.nx+2⟩ fun _ σ2=>zg σ k σ2 Q
theorem zi {f D:Addr} {x:List Nat} {tk:Tok} {qual:Str} {params:Arguments} {body:PySem.Expr} {scope:Scope} {d:DE} {y:Str} {K:V→St→Prop} {Q:PySem.Fin→Shared→Prop} (ok:G.Ok) (h:SE G lv sc' body d) (hcode:sc'.code=0) (hfn:sc'.fn=true) (hnm:sc'.names=scope.names) (hnd:(sc'.names.map (·.1)).Nodup)
  (hk:scope.kind=.function) (hgen:scope.isGenerator=false) (hco:scope.isCoroutine=false) (hcell:∀ p∈scope.names,p.2≠.cell) (hx:sc'.names[0]?=some (y,.local))
  (hbind:∀ pm c' val,bindArgs (kla_fn "<lambda>" qual params body scope [] pm c' .none) ⟨[val],[]⟩=pure [(y,val)])
  (F:LamAt G X f qual params body scope) (ha:AOk (lv+1) A) (R:Rel G X env σ s) (hD0:s.heap.get? D=none) (hbig:mainGlobals<D)
  (hd:d ⟨[(0,.str x)],(σ.nx+1,.list [])::(σ.nx,.cold)::σ.st,σ.nx+2⟩ K)
  {h1:Heap} (hD:h1.get? D=some (seqObj "list" #[.str ⟨x.toArray⟩ tk] 0)) (keep:∀ b o,s.heap.get? b=some o→h1.get? b=some o)
  (q:∀ (s':Shared) (u:V) (σ2:St) (X':Wd),K u σ2→aj (σ.nx+1) σ2.st=some (.list [])→aj σ.nx σ2.st=some .cold→X.le σ.nx X'→σ.nx+2≤σ2.nx→X'.ρ σ.nx=D→Rel G X' env ⟨σ.lo,gE σ.nx (.list [.str x]) (gE (σ.nx+1) (.list []) σ2.st),σ2.nx⟩ s'→Q (.done (.ret .none)) s')
  (hK:∀ (u:V) (σ2:St),K u σ2→aj (σ.nx+1) σ2.st=some (.list [])∧aj σ.nx σ2.st=some .cold) :
  wpAny (model G.prog G.w) A (ksk_tree D (.ref f) false) Q bh {s with heap:=h1}:=by
 have u1:(h1.update D (Obj.mapSeq fun _=>(#[]:Array Value))).get? D=some (seqObj "list" #[] 1):=by
  rw [Heap.get?_update_self _ hD (by rfl)]; rfl
 have ot:∀ b o,s.heap.get? b=some o→(h1.update D (Obj.mapSeq fun _=>(#[]:Array Value))).get? b=some o:=fun b o e=>by
  have hb:b≠D:=fun z=>by rw [z,hD0] at e; cases e
  rw [QX _ _ (Ne.symm hb)]; exact keep b o e
 unfold ksk_tree
 refine Qt (listItems_at hD rfl ?_)
 refine Qt (listUpdate_at hD rfl ?_ (by rw [QN]; simp) (Q3 _))
 generalize h1.update D (Obj.mapSeq fun _=>(#[]:Array Value))=hA at u1 ot ⊢
 refine Qt (seqEpoch_at u1 rfl ?_)
 refine Qt (wpAny_newTuple ?_ (by rw [QN]; simp))
 refine Qt (wpAny_newList ?_ (Q3 _))
 refine Qw ?_
 apply bc;intro z_
 obtain ⟨R1,L1⟩:=R.anew (o:=.cold) (a:=D) (s':={s with heap:=hA}) hD0 hbig ot (fun _ _=>u1) rfl rfl R.gens
 apply z_;clear z_
 have R1':=R1.push (seqObj "tuple" #[.str ⟨x.toArray⟩ tk] 0) s.toks
 dsimp only at R1'
 generalize hA.push (seqObj "tuple" #[.str ⟨x.toArray⟩ tk] 0)=hB at R1' ⊢
 apply bc;intro z_
 obtain ⟨R2,L2⟩:=R1'.anew (o:=.list []) (a:=hB.objs.size) (s':={s with heap:=hB.push (seqObj "list" #[] 0)}) (aH (h:=hB)) (R1'.size ok) (fun _ _ e=>QB _ e)
  (fun X' _=>⟨_,[],QG _ rfl,⟨rfl,rfl,⟨0,rfl⟩,rfl⟩,.nil⟩) rfl rfl R.gens
 apply z_;clear z_
 generalize hB.push (seqObj "list" #[] 0)=hC at R2 ⊢
 generalize hB.objs.size=kS at R2 L2 ⊢
 have L12:=L1.trans L2 (Q0 _)
 have F2:=F.up L12
 unfold ksk_rest
 refine Qt (Ra ?_)
 rw [← Array.forIn_toList]
 show wpAny _ _ (forIn [Value.str ⟨x.toArray⟩ tk] PUnit.unit _ >>= _) _ _ _
 rw [List.forIn_cons]
 refine Qt (Qt (Qt (wpAny_attempt (Qv (wR (v:=.str x) (K:=K) ok h hcode hfn hnm hnd hk hgen hco hcell hx hbind F2 hd ha R2 (.str x tk)) (fun kv s3 z=>?_) fun _ _ z=>z.elim))))
 apply bc;intro z_
 obtain ⟨u,σ3,X3,⟨lo',hKu,hlo⟩,L3,n3,R3,W3⟩:=z
 obtain ⟨hk1,hk2⟩:=hK _ _ hKu
 dsimp only at hk1 hk2
 have hρ1:X3.ρ (σ.nx+1)=kS:=(L3.ρ (σ.nx+1) (QK _)).trans (QI rfl)
 have hρ0:X3.ρ σ.nx=D:=by
  rw [L3.ρ σ.nx (Q4 (QK _))]
  show (if σ.nx=σ.nx+1 then _ else if σ.nx=σ.nx then D else _)=D
  rw [QH (Q8 (QK _)),QI rfl]
 obtain ⟨_,ok1,vals1,g1,l1,w1⟩:=R3.st _ _ hk1
 obtain ⟨_,gD⟩:=R3.st _ _ hk2
 cases w1
 rw [hρ1] at g1
 rw [hρ0] at gD
 have L13:=L12.trans L3 (QC (Q0 _) (Q0 _))
 have hne:D≠kS:=fun z=>by
  exact absurd (R3.inj _ _ _ _ hk2 hk1 (by rw [hρ0,hρ1,z])) (Q8 (QK _))
 obtain ⟨c1,d1,dt1,sl1⟩:=ok1
 obtain ⟨a1,a2,⟨ep,a3⟩,a4⟩:=l1
 apply z_;clear z_
 dsimp only at a1 a2 a3 a4
 subst a1 a2 a3 a4
 have g1:s3.heap.get? kS=some (seqObj "list" #[] ep):=g1
 have g2:=get?_update_seq g1 (·.push kv)
 have g3:=get?_update_seq g2 (fun _=>(#[]:Array Value))
 have gD1:((s3.heap.update kS (Obj.mapSeq (·.push kv))).update kS (Obj.mapSeq fun _=>(#[]:Array Value))).get? D=some (seqObj "list" #[] 1):=by
  rw [QX _ _ (Ne.symm hne),QX _ _ (Ne.symm hne)]; exact gD
 have gD2:=get?_update_seq gD1 (fun _=>(#[.str ⟨x.toArray⟩ tk]:Array Value))
 refine Qt (listUpdate_at g1 rfl ?_ (Q3 _) (by rw [QN]; simp))
 refine Qu ?_
 dsimp only
 rw [List.forIn_nil]
 refine Qu ?_
 refine Qt (listItems_at g2 rfl ?_)
 unfold ksk_end
 dsimp only
 rw [QH QM]
 have hz:((#[]:Array Value).push kv).zip #[Value.str ⟨x.toArray⟩ tk]=#[(kv,Value.str ⟨x.toArray⟩ tk)]:=by simp
 rw [hz]
 simp only [Bool.false_eq_true,if_false]
 have hlt2:#[Value.str ⟨x.toArray⟩ tk].size<2:=by show 1<2; omega
 rw [QI hlt2]
 refine Qt (Qu ?_)
 rw [QI hlt2,StateT.run_pure]
 refine Qt (Qu ?_)
 dsimp only
 unfold ksk_tail
 have hm:Array.map (fun p:Value×Value=>p.2) (arrOf (SortSt.mk' general' #[(kv,Value.str ⟨x.toArray⟩ tk)] #[] 7 none))=#[Value.str ⟨x.toArray⟩ tk]:=by
  show Array.map _ #[(kv,Value.str ⟨x.toArray⟩ tk)]=_
  simp
 rw [hm]
 dsimp only
 simp only [Bool.false_eq_true,if_false]
 refine Qt (listUpdate_at g2 rfl ?_ (by rw [QN]; simp) (Q3 _))
 refine Qt (wpAny_letGo ?_)
 refine Qt (seqEpoch_at gD1 rfl ?_)
 refine Qt (listUpdate_at gD1 rfl ?_ (Q3 _) (by rw [QN]; simp))
 rw [QH (by simp)]
 refine Qu ?_
 have R4:=R3.upd (σ:=⟨σ3.lo,σ3.st,σ3.nx⟩) (o:=.list []) (s':={s3 with heap:=(s3.heap.update kS (Obj.mapSeq (·.push kv))).update kS (Obj.mapSeq fun _=>(#[]:Array Value))}) hk1 (fun b hb o e=>by
  rw [hρ1] at hb
  rw [QX _ _ (Ne.symm hb),QX _ _ (Ne.symm hb)]; exact e) (by rw [hρ1]; exact ⟨_,[],g3,⟨rfl,rfl,⟨_,rfl⟩,rfl⟩,.nil⟩) rfl rfl R3.gens
 have hk2':aj σ.nx (gE (σ.nx+1) (.list []) σ3.st)=some .cold:=by rw [eB,QH (Q8 (QK _))]; exact hk2
 have R5:=R4.upd (o:=.list [.str x]) (s':={s3 with heap:=((s3.heap.update kS (Obj.mapSeq (·.push kv))).update kS (Obj.mapSeq fun _=>(#[]:Array Value))).update D (Obj.mapSeq fun _=>(#[Value.str ⟨x.toArray⟩ tk]:Array Value))}) hk2' (fun b hb o e=>by
  rw [hρ0] at hb
  rw [QX _ _ (Ne.symm hb)]; exact e) (by rw [hρ0]; exact ⟨_,[.str ⟨x.toArray⟩ tk],gD2,⟨rfl,rfl,⟨_,rfl⟩,rfl⟩,.cons (.str _ _) .nil⟩) rfl rfl R3.gens
 have hlo':σ3.lo=σ.lo:=hlo
 exact q _ u ⟨lo',σ3.st,σ3.nx⟩ X3 hKu hk1 hk2 L13 n3 hρ0 (by rw [← hlo']; exact R5)
structure LamSc (sc':Sc) (params:Arguments) (scope:Scope) (y:Str):Prop where
 code:sc'.code=0
 fn:sc'.fn=true
 names:sc'.names=scope.names
 nd:(sc'.names.map (·.1)).Nodup
 kind:scope.kind=.function
 gen:scope.isGenerator=false
 co:scope.isCoroutine=false
 cell:∀ p∈scope.names,p.2≠.cell
 x:sc'.names[0]?=some (y,.local)
 bind:∀ (qual:Str) (body:PySem.Expr) (pm c' val:Value),bindArgs (kla_fn "<lambda>" qual params body scope [] pm c' .none) ⟨[val],[]⟩=pure [(y,val)]
 dfl:∀ env,defaultsOf params env=([],[])
 clo:∀ env,closureFor scope env=pure []
theorem sY {x:Str} {i:Nat} {np p kp lpos:Pos} {a:PySem.Expr} {params:Arguments} {body:PySem.Expr} {scope:Scope} {y:Str} {d dl:DE} (ok:G.Ok) (hx:sc.names[i]?=some (x,.globalImplicit)) (b:Bltin G x (.builtin "sorted"))
  (hc:sc.code≠0) (LO:LamOk G sc.code lpos (sc.qual++"<lambda>")) (LS:LamSc sc' params scope y) (h:SE G (lv+3) sc a d) (hb:SE G lv sc' body dl)
  (h1:∀ env pos,(backTo pos (starEach [a] env)).any (·.1)=false) (h2:∀ env pos,(backToKw pos (keywordEach [⟨some (Str.ofString "key"),.Lambda params body scope lpos,kp⟩] env)).all (·.1.isSome)=true)
  (h3:∀ env pos,(backToKw pos (keywordEach [⟨some (Str.ofString "key"),.Lambda params body scope lpos,kp⟩] env)).filterMap (·.1)=[Str.ofString "key"]) (hst:∀ env r,starEach (a::r) env=(false,eval a env)::starEach r env) :
  SE G (lv+3) sc (.Call (.Name x np) [a] [⟨some (Str.ofString "key"),.Lambda params body scope lpos,kp⟩] p) (fun σ Q=>d σ fun v σ1=>Df dl v σ1 Q):=fun σ Q hd A env X s ha he R=>by
 refine wpAny_Call_ofName (wpAny_Name (eo ok he R hx b.hg b.hn b.hb ?_) b.hdb)
 refine b9 (h1 env _) (h2 env _) ?_
 refine Qv (mH h ab hst σ (fun vs σ2=>nV vs fun v=>Df dl v σ2 Q) hd A env X s p ha he R) (fun vals s1 y_=>?_) fun _ _ z=>z
 apply bc;intro z_
 obtain ⟨vs,σ1,X1,q1,L1,n1,R1,W1⟩:=y_
 apply z_;clear z_
 refine W1.on1_ q1 fun v val W q1=>?_
 refine kws_cons (wT ok hc LO LS.dfl LS.clo he R1 fun f s2 X2 R2 L2 F=>?_)
 refine Qu ?_
 rw [h3,List.nil_append]
 refine ⟨fun Q' k=>Qu (k _ (by decide)),(W.mono L2 (QF _)).loc_ q1 fun l q1=>?_⟩
 apply bc;intro z_
 obtain ⟨k',hk,q1⟩:=onS.out q1
 obtain ⟨k,rfl,q1⟩:=onS.out q1
 apply z_;clear z_
 show wpAny _ _ (call (.builtin "sorted") [.ref (X2.ρ l)] [(Str.ofString "key",.ref f)]) _ _ _
 apply bc;intro z_
 obtain ⟨_,ob,hob,g1,hs2,tk2,ep2,t2,g2,g3,g4,g5⟩:=R2.st _ _ (gq hk)
 apply z_;clear z_
 refine call_function_entry_kw kind_sorted plain_sorted entry_sorted (ksk_s1 _ _) ?_
 unfold Builtin.«sorted»
 refine Qt (m:=checkCount "sorted" 1 1 _) (Qu ?_)
 refine Qt (oA (s:=s2) ha.handled (⟨ob,hob,g1.1,g2,g3,g4⟩:Set1 G.w s2.heap (X2.ρ l) ⟨k.toArray⟩ tk2 hs2 ep2 t2) fun h' tk' hk'=>?_)
 have R3:=R2.heap (t:=tk') hk'
 refine Qt (wpAny_newList ?_ (by rw [QN]; simp))
 refine Qt (Qw (wpAny_call_entry_kw slot_list_sort ⟨_,QG _ rfl,rfl⟩ entry_list_sort ?body (ksk_l1 _ _)))
 case body=>
  rw [ksk_t1]
  refine zi (s:={s2 with heap:=h',toks:=tk'}) (lv:=lv) (K:=fun _ σ2=>zg σ1 k σ2 Q) ok hb LS.code LS.fn LS.names LS.nd LS.kind LS.gen LS.co LS.cell LS.x (LS.bind _ _) F (AOk.in1 (AOk.in1 ha)) R3 (aH (h:=h')) (R3.size ok) q1 (QG _ rfl) (fun _ _ e=>QB _ e) (fun s' u σ2 X' hK hk1 hk2 L' n' hρ R'=>?_) (fun u σ2 hK=>(mB hK).1)
  have n':σ1.nx<σ2.nx:=QZ (Q4 (QK _)) n'
  exact ⟨_,rfl,Qu ⟨_,rfl,_,_,X',(mB hK).2,(L1.trans L2 n1).trans L' n1,QC n1 (Nat.le_of_lt n'),R',.loc_at n' hρ⟩⟩
noncomputable def qa (k:List Nat) (v:V):List (List Nat×V)→List (List Nat×V)
 | []=>[(k,v)]
 | (x,u)::r=>match ly x k with
  | true=>(x,v)::r
  | false=>(x,u)::qa k v r
theorem oY {k:Str} {v:Value}:∀ {kvs:List (Str×Value)},k ∉ kvs.map (·.1)→kvs.map (fun kv=>if kv.1=k then (kv.1,v) else kv)=kvs
 | [],_=>rfl
 | (x,u)::r,h=>by
  simp only [List.map_cons,List.mem_cons,not_or] at h
  rw [List.map_cons,QH (Ne.symm h.1),oY h.2]
theorem PairsAre.store {k:List Nat} {v:V} {val:Value} (W:RepV X n v val):∀ {kvs:List (List Nat×V)} {kvals:List (Str×Value)},PairsAre X n kvs kvals→(kvals.map (·.1)).Nodup→PairsAre X n (qa k v kvs) (stored kvals ⟨k.toArray⟩ val)
 | [],[],h,_=>⟨rfl,W,trivial⟩
 | (x,u)::r,(y,uval)::r',h,nd=>by
  apply bc;intro z_
  obtain ⟨rfl,hu,hr⟩:=h
  apply z_;clear z_
  simp only [List.map_cons,List.nodup_cons] at nd
  by_cases e:x=k
  ·subst e
   have e1:ly x x=true:=by rw [dZ]; simp
   have e2:stored (((⟨x.toArray⟩:Str),uval)::r') ⟨x.toArray⟩ val=(⟨x.toArray⟩,val)::r':=by
    unfold stored
    rw [QI (by simp)]
    rw [List.map_cons,QI rfl,oY nd.1]
   rw [e2]
   show PairsAre X n (match ly x x with | true=>(x,v)::r | false=>(x,u)::qa x v r) _
   rw [e1]
   exact ⟨rfl,W,hr⟩
  ·have e1:ly x k=false:=by rw [dZ]; simp [e]
   have ne:(⟨x.toArray⟩:Str)≠⟨k.toArray⟩:=fun h=>e (by simpa using congrArg (fun z:Str=>z.cps.toList) h)
   have e2:stored (((⟨x.toArray⟩:Str),uval)::r') ⟨k.toArray⟩ val=(⟨x.toArray⟩,uval)::stored r' ⟨k.toArray⟩ val:=by
    unfold stored
    rw [List.any_cons,List.map_cons,QH ne,QR ne,Bool.false_or]
    split <;> rfl
   rw [e2]
   show PairsAre X n (match ly x k with | true=>(x,v)::r | false=>(x,u)::qa k v r) _
   rw [e1]
   exact ⟨rfl,hu,PairsAre.store W hr nd.2⟩
 | [],_::_,h,_=>h.elim
 | _::_,[],h,_=>h.elim
noncomputable def rS (l:Nat) (k v:V) (σ:St) (Q:St→Prop):Prop:=onS (kq l σ) fun kvs=>bv k fun x=>onT (Nat.ble kvs.length 1000) (Q (gr l (.dict (qa x v kvs)) σ))
theorem Au {l:Nat} {k v:V} {kval val:Value} {Q:St→Prop} {Q':Unit→Shared→Prop} (h:rS l k v σ Q) (R:Rel G X env σ s) (Wk:RepV X σ.nx k kval) (W:RepV X σ.nx v val)
  (q:∀ σ' s',Q σ'→σ'.nx=σ.nx→Rel G X env σ' s'→Q' () s'):wpAny (model G.prog G.w) A (dictSet (X.ρ l) kval val) Q' bh s:=by
 apply bc;intro z_
 obtain ⟨kvs,hl,h⟩:=onS.out h
 apply z_;clear z_
 have hl:=eR hl
 refine Wk.str_ h fun x t h=>?_
 apply bc;intro z_
 obtain ⟨hz,h⟩:=onT.out h
 obtain ⟨_,kvals,hD,hP⟩:=R.st l _ hl
 apply z_;clear z_
 have hnd:(kvals.map (·.1)).Nodup:=let ⟨_,_,_,_,_,_,_,_,z⟩:=hD; z
 refine wpAny_dictSet_pairs (knd:=PySem.strKind G.prog G.w) (k:=⟨x.toArray⟩) (strKind_is _ _ _ _) hD (fun h' hD' hs=>?_) (by rw [gC hP,QN]; have:=QD hz; omega)
 exact q _ _ h rfl (R.upd (o:=.dict (qa x v kvs)) (s':={s with heap:=h',toks:=s.toks+1}) hl (fun b hb o e=>(hs.2 b hb).trans e) ⟨_,hD',hP.store W hnd⟩ rfl rfl R.gens)
theorem z8 {kx vx:PySem.Expr} {pk:Pos} {l:Nat} {dk dv:DE} (hk:SE G lv sc kx dk) (hv:SE G lv sc vx dv):uW G lv sc (fun acc env=>(match acc with
   | .ref D=>(do
      let kv ← eval kx env
      let vv ← holding [kv] (eval vx env)
      standAt pk
      holding [kv,vv] (dictSet D kv vv))
   | _=>pure ())) l (fun σ Q=>dk σ fun k σ1=>dv σ1 fun v σ2=>rS l k v σ2 Q):=fun σ Q hd A env X s ha he R hl=>by
 refine Qt (hk.run hd ha he R fun kval s1 k σ1 X1 k1 L1 n1 R1 W1=>?_)
 refine Qt (Qw (hv.run k1 ha he R1 fun val s2 v σ2 X2 k2 L2 n2 R2 W2=>?_))
 refine Qt (Qx (Qw ?_))
 have hρ:X2.ρ l=X.ρ l:=(L2.ρ l (QZ hl n1)).trans (L1.ρ l hl)
 rw [← hρ]
 exact Au k2 R2 (W1.mono L2 n2) W2 fun σ' s' q e R'=>⟨σ',X2,q,L1.trans L2 n1,by rw [e]; exact QC n1 n2,R'⟩
theorem uw {kx vx target iter:PySem.Expr} {ifs:List PySem.Expr} {scope:Scope} {pos:Pos} {dt:DT} {dif:DB} {dk dv:DE} (N:Nat) (htg:tg=true→fK target=true) (ht:ST G lv sc' target dt) (hif:oj G lv sc' ifs dif) (hk:SE G lv sc' kx dk) (hv:SE G lv sc' vx dv) :
  lM G lv sc' (.DictComp kx vx [⟨target,iter,ifs,0⟩] scope pos) tg (fun l cur=>fY cur dt dif (fun σ Q=>dk σ fun k σ1=>dv σ1 fun v σ2=>rS l k v σ2 Q) N 0):=by
 intro A env X0 Xb X S it n0 nb l cur I σ s Q R' acc ha he T hX hN hbS hl hacc hQ hd L hn R f i
 subst hacc
 have loop:codeAny (model G.prog G.w) A (.compLoop (.DictComp kx vx [⟨target,iter,ifs,0⟩] scope pos) 0 it (.ref (Xb.ρ l)) env) R' s:=
  gv (e:=.DictComp kx vx [⟨target,iter,ifs,0⟩] scope pos) (depth:=0) (q:=iter.pos) (t:=fun acc env=>(match acc with
   | .ref D=>(do
      let kv ← eval kx env
      let vv ← holding [kv] (eval vx env)
      standAt {kx.pos with endLine:=vx.pos.endLine,endCol:=vx.pos.endCol}
      holding [kv,vv] (dictSet D kv vv))
   | _=>pure ())) ha he T htg ht hif (z8 hk hv) (nJ (by rfl)) (fun Q E s h=>h) (by rfl) hX hN hbS hl rfl hQ N 0 σ X s hd L hn R f i
 exact codeAny_compStart_dict loop (Qv (T.self A 0 s _ ha.handled i loop) (fun _ _ z=>z) fun _ _ z=>z.elim)
theorem pR {kx vx target iter:PySem.Expr} {ifs:List PySem.Expr} {rest:List Comprehension} {scope:Scope} {pos p:Pos} {fv:List (Nat×Nat)} {di:DI} {loop:Nat→(Nat→St→Option (Option V))→DM} {i:Nat} {y:Str} {py:Pos} (ok:G.Ok) (C:CompOk sc sc' scope fv) (hi:SI G lv sc tg iter di)
  (hs:∀ env x,foldedSetIterable iter env x=pure x) (hl:lM G lv sc' (.DictComp kx vx (⟨target,iter,ifs,0⟩::rest) scope pos) tg loop) (hy:sc.names[i]?=some (y,NameKind.local))
  (hsw:∀ env,EOk sc env→swapsWith (.DictComp kx vx (⟨target,iter,ifs,0⟩::rest) scope pos) (some (.Name y py)) p.line env=pure true) :
  SS G lv sc (.Assign [.Name y py] (.DictComp kx vx (⟨target,iter,ifs,0⟩::rest) scope pos) p) (fun σ Q=>di σ fun cur σ1=>wX fv loop cur (.dict []) σ1 fun v σ2=>Q .next (dm i v σ2)):=fun σ Q hd A env X s ha he R=>by
 apply bc;intro z_
 obtain ⟨cl,e0,c1,c2,c3⟩:=mS C he R
 apply z_;clear z_
 rw [exec_Assign_Name_used _ _ _ _ (hsw env he)]
 refine Qt (Qx (Qt ?_))
 show wpAny _ _ (do let _ ← comprehension _ scope env _ newDict _ _ (some (assign (.Name y py) env))) _ _ _
 refine Qt ?_
 refine wpAny_comprehension_free rfl (hs env) e0 C.kind C.locals (Qv (hi σ _ hd A env X s ha he R) (fun x s1 h1=>Qv h1 (fun it s2 h2=>?_) fun _ _ z=>z) fun _ _ z=>z)
 apply bc;intro z_
 obtain ⟨cur,σ1,X0,X1,S,I,k1,L0,L1,n1,R1,f1,i1,T⟩:=h2
 apply z_;clear z_
 unfold newDict
 refine wpAny_newObj_type ?_ (by size_fits)
 refine jd (o:=.dict []) (tk:=s2.toks) ok C ha he R1 f1 i1 T L1 rfl (fun X' h L hg=>⟨[],⟨_,#[],0,hg,⟨rfl,rfl,rfl⟩,rfl,fun e he=>by simp at he,.nil,List.nodup_nil⟩,trivial⟩) c1 c2 c3 fun cenv s4 Xb X4 hE R4 f4 i4 L04 hbS Lb hρ back=>?_
 refine hl A _ X0 Xb X4 S it σ1.nx (σ1.nx+1) σ1.nx cur I _ s4 _ _ _ ha hE T L04 (Q0 _) hbS (QK _) (by rw [hρ]) (fun σ' X' s' q L' n' R'=>?_) k1 Lb (QF _) R4 f4 i4
 apply bc;intro z_
 obtain ⟨X5,L5,R5,W5,hm,hne,chg⟩:=back σ' X' s' L' n' R'
 obtain ⟨m,hm⟩:=hm
 apply z_;clear z_
 refine wpAny_assign_Name (iY hy he R5 W5 fun s6 R6 hk=>?_)
 refine ⟨m,jr hm (hk _ hne),fun h' hs'=>?_⟩
 refine Qu (Qu ?_)
 exact ⟨.next,_,X5,q,L0.trans L5 n1,QC n1 (QC (Q0 _) n'),chg _ s6 h' rfl R6 hs',.next⟩
theorem Dz {o i:PySem.Expr} {p:Pos} {do_ di:DE} (ok:G.Ok) (ho:SE G lv sc o do_) (hi:SE G lv sc i di) :
  ST G lv sc (.Subscript o i p) (fun v σ Q=>do_ σ fun ov σ1=>di σ1 fun iv σ2=>iT ov fun l=>rS l iv v σ2 Q):=fun v σ Q hd A env X s val ha he R W=>by
 refine kas_sub (ho.run hd ha he R fun ov s1 o1 σ1 X1 k1 L1 n1 R1 W1=>hi.run k1 ha he R1 fun iv s2 i2 σ2 X2 k2 L2 n2 R2 W2=>?_)
 refine (W1.mono L2 n2).loc_ k2 fun l k2=>?_
 apply bc;intro z_
 obtain ⟨kvs,hl,k2⟩:=onS.out k2
 apply z_;clear z_
 have hl:=eR hl
 refine W2.str_ k2 fun x t k2=>?_
 apply bc;intro z_
 obtain ⟨hz,k2⟩:=onT.out k2
 obtain ⟨_,kvals,hD,hP⟩:=R2.st l _ hl
 apply z_;clear z_
 have hnd:(kvals.map (·.1)).Nodup:=let ⟨_,_,_,_,_,_,_,_,z⟩:=hD; z
 refine wpAny_setItem_pairs (knd:=PySem.strKind G.prog G.w) (k:=⟨x.toArray⟩) (strKind_is _ _ _ _) hD (fun h' hD' hs=>?_) (by rw [gC hP,QN]; have:=QD hz; omega)
 exact ⟨_,X2,k2,L1.trans L2 n1,QC n1 n2,R2.upd (o:=.dict (qa x v kvs)) (s':={s2 with heap:=h',toks:=s2.toks+1}) hl (fun b hb o e=>(hs.2 b hb).trans e) ⟨_,hD',hP.store (W.mono (L1.trans L2 n1) (QC n1 n2)) hnd⟩ rfl rfl R2.gens⟩
noncomputable def bI (M:Model) (A:Around) (Φ:End→Shared→Prop) (c:Code) (t:Sem PySem.Fin) (fs:List Frame) (s:Shared):Prop:=
 ∀ Γ p,Γ.code=c→Γ.Woken A→∃ e s',Runs M Γ p t fs s e s'∧Φ e s'
section
variable {M:Model} {A:Around} {Φ:End→Shared→Prop} {c:Code} {fs:List Frame} {s:Shared}
theorem fG {α:Type} {m:Sem α} {K:α→Sem PySem.Fin} {H:Value→Sem PySem.Fin} {gd:Bool→Bool} {lv:List Value→List Value}
  (h:wpAny M (A.over c fs) m (fun a s'=>bI M A Φ c (K a) fs s') (fun x s'=>bI M A Φ c (H x) fs s') s):bI M A Φ c (m.wrap K H gd lv) fs s:=by
 rintro Γ p rfl hΓ
 exact runs_wrap_of_wp K H gd lv m (h (Γ.over fs) p (hΓ.over fs)) (fun a p' s' h'=>h' Γ p' rfl hΓ) (fun x p' s' h'=>h' Γ p' rfl hΓ)
theorem fN {α β:Type} {m:Sem α} {K:α→Sem β} {K':β→Sem PySem.Fin} {H':Value→Sem PySem.Fin} {gd:Bool→Bool} {lv:List Value→List Value}
  (h:wpAny M (A.over c fs) m (fun a s'=>bI M A Φ c ((K a).wrap K' H' gd lv) fs s') (fun x s'=>bI M A Φ c (H' x) fs s') s):bI M A Φ c ((m >>= K).wrap K' H' gd lv) fs s:=by
 rw [Sem.bind_eq_wrap',Sem.wrap_wrap]; exact fG h
theorem cf {α:Type} {m:Sem α} {K:α→Sem PySem.Fin}
  (h:wpAny M (A.over c fs) m (fun a s'=>bI M A Φ c (K a) fs s') (fun x s'=>bI M A Φ c (.raise x) fs s') s):bI M A Φ c (m >>= K) fs s:=by
 rw [Sem.bind_eq_wrap']; exact fG h
theorem zj {l:List Value} {k:Unit→Sem PySem.Fin} (h:bI M A Φ c (k ()) fs s):bI M A Φ c (.point l k) fs s:=
 fG (m:=point) (K:=k) (H:=.raise) (gd:=id) (lv:=fun _=>l) (wpAny_point h)
theorem sG {c':Code} {h:Option Value} {g:Bool} {l:List Value} {k:Result→Sem PySem.Fin} (hc:∀ p,bI M A Φ c' (M.den c') (.ret k h g l c p []::fs) s) :
  bI M A Φ c (.call c' h g l k) fs s:=by
 rintro Γ p rfl hΓ
 apply bc;intro z_
 obtain ⟨e,s',hr,he⟩:=hc p (Γ.goto c') p rfl (hΓ.goto c')
 apply z_;clear z_
 exact ⟨e,s',runs_call_seg hr,he⟩
theorem sH {k:Result→Sem PySem.Fin} {h:Option Value} {g:Bool} {l:List Value} {c₁:Code} {p₁:Pos} {kp:List Value} (r:Result) (hk:bI M A Φ c₁ (k r) fs s):bI M A Φ c (leafOf r) (.ret k h g l c₁ p₁ kp::fs) s:=by
 rintro Γ p rfl hΓ
 apply bc;intro z_
 obtain ⟨e,s',hr,he⟩:=hk (Γ.goto c₁) p₁ rfl (hΓ.goto c₁)
 apply z_;clear z_
 exact ⟨e,s',Runs.pop r hr,he⟩
theorem iW {c':Code} (hq:c'.quiet=true) (hc:bI M A Φ c' (M.den c') fs s):bI M A Φ c (.pure (.again c')) fs s:=by
 rintro Γ p rfl hΓ
 apply bc;intro z_
 obtain ⟨e,s',hr,he⟩:=hc (Γ.goto c') p rfl (hΓ.goto c')
 apply z_;clear z_
 exact ⟨e,s',Runs.head (c₁:=c') (fun _ _ x=>.again hq x) hr,he⟩
theorem Ka (r:Result) (h:Φ (.ret r) s):bI M A Φ c (leafOf r) [] s:=by
 rintro Γ p rfl _
 exact ⟨.ret r,s,Runs.leaf r,h⟩
theorem zk {v:Value} {g:Bool} {l:List Value} {k:Resume→Sem PySem.Fin} (hfs:splitAtGen fs=none) (h:∀ p,Φ (.susp v g l k c p fs) s):bI M A Φ c (.yield v g l k) fs s:=by
 rintro Γ p rfl _
 exact ⟨_,s,Runs.yield' fs hfs,h p⟩
end
noncomputable def oh (M:Model) (A:Around) (gs:GenState) (s:Shared) (Φ:End→Shared→Prop):Prop:=match gs with
 | .fresh c=>bI M A Φ c (M.den c) [] s
 | .suspended k _ c _ fs _=>bI M A Φ c (k (.send .none)) fs s
 | _=>False
section
variable {M:Model} {A:Around} {E:Value→Shared→Prop} {s:Shared}
theorem BU {Φ:End→Shared→Prop} {g:Nat} {gs:GenState} {l:List Value} {α:Type} {k:GenResult→Sem α} {Q:α→Shared→Prop} (hg:s.gens[g]?=some gs) (hgo:oh M A gs (s.setGen g .running) Φ)
  (hq:∀ e s₁,Φ e s₁→e.quiet=true) (hQ:∀ e s₁,Φ e s₁→wpAny M A (k e.result) Q E (s₁.setGen g e.genState)):wpAny M A (.resume g (.send .none) l k) Q E s:=by
 intro Γ p hΓ
 rw [Sem.wp_resume]
 have hB:∀ c,(Γ.wake c p).Woken A:=fun c=>hΓ.wake c p
 cases gs with
 | fresh c=>
  apply bc;intro z_
  obtain ⟨e₁,s₁,hr,he⟩:=hgo (Γ.wake c p) p rfl (hB c)
  apply z_;clear z_
  exact ⟨_,_,by unfold Wakes; rw [hg]; exact ⟨e₁,s₁,hr,hq e₁ s₁ he,rfl,rfl⟩,hQ e₁ s₁ he Γ p hΓ⟩
 | suspended k₀ l₀ c₀ p₀ fs₀ cl=>
  apply bc;intro z_
  obtain ⟨e₁,s₁,hr,he⟩:=hgo (Γ.wake c₀ p) p₀ rfl (hB c₀)
  apply z_;clear z_
  exact ⟨_,_,by unfold Wakes; rw [hg]; exact ⟨e₁,s₁,hr,hq e₁ s₁ he,rfl,rfl⟩,hQ e₁ s₁ he Γ p hΓ⟩
 | running=>exact hgo.elim
 | finished=>exact hgo.elim
end
section
variable {prog:Program} {w:World} {A:Around} {E:Value→Shared→Prop} {s:Shared}
theorem xh {a:Addr} {g:Nat} {gs:GenState} {Φ:End→Shared→Prop} {Q:Option Value→Shared→Prop} (hh:A.handled=none) (hl:s.heap.NoLimit) (hroom:A.depth<recursionLimit)
  (hg:s.heap.IsGen a g) (hgs:s.gens[g]?=some gs) (hgo:oh (model prog w) A.in1 gs (s.setGen g .running) Φ) (hΦ:∀ e s₁,Φ e s₁→(e=.ret (.ok (.ret .none)))∨∃ v l k c p fs,e=.susp v false l k c p fs∧e.quiet=true)
  (hY:∀ v l k c p fs s₁,Φ (.susp v false l k c p fs) s₁→Q (some v) (s₁.setGen g (End.susp v false l k c p fs).genState))
  (hP:∀ s₁,Φ (.ret (.ok (.ret .none))) s₁→∀ h',(∀ b o,s₁.heap.get? b=some o→h'.get? b=some o)→Q none {s₁.setGen g .finished with heap:=h'}) :
  wpAny (model prog w) A (pyNext (.ref a)) Q E s:=by
 unfold pyNext
 refine Qt (wpAny_attempt (wpAny_callSpecial?_slot (name:=Str.ofString "__next__") hg.typeIs slot_gen_next
  (Qz slot_gen_next hg.typeIs entry_gen_next ?_ (args_gen_next _))))
 show wpAny _ _ (Builtin.Generator.genWake (.ref a) (.send .none)) _ _ s
 unfold Builtin.Generator.genWake
 refine Qt (Qw (wpAny_genNumber hg (Qt (wpAny_genState hgs ?_))))
 cases gs with
 | running=>exact hgo.elim
 | finished=>exact hgo.elim
 | _=>
  refine Qt (wpAny_roomToWake hl hroom ?_)
  show wpAny _ _ (.resume g (.send .none) [] _) _ _ s
  refine BU hgs hgo (fun e s₁ he=>?_) (fun e s₁ he=>?_)
  ·rcases hΦ e s₁ he with rfl | ⟨v,l,k,c,p,fs,rfl,hq⟩
   ·rfl
   ·exact hq
  ·rcases hΦ e s₁ he with rfl | ⟨v,l,k,c,p,fs,rfl,hq⟩
   ·show wpAny _ _ (newExc (.type "StopIteration") [] >>= _) _ _ _
    refine Qt ?_
    simp only [newExc,newTuple]
    refine Qt (wpAny_newObj_type ?_ (by size_fits))
    refine Qt (m:=firstArgMember _ _) (Qy (a:=Value.none) (by first | rfl | (simp only [firstArgMember]; rfl)) ?_)
    refine wpAny_newObj_type ?_ (by size_fits)
    simp only [raiseNew]
    refine Qt (Qt (wpAny_handled ?_))
    rw [show A.in1.handled=none from hh]
    refine wpAny_throw ?_
    refine Qt (wpAny_isInstance (T:="StopIteration") (b:=true) ⟨_,QG _ rfl,rfl⟩ isSubtype_stop ?_)
    exact Qu (hP s₁ he _ fun b o hb=>QB _ (QB _ hb))
   ·exact Qu ⟨v,rfl,Qu (hY v l k c p fs s₁ he)⟩
end
theorem vT:entryFor table "proto.yield_from"=some Builtin.«proto.yield_from»:=entryFor_of_tree (by kernel_rfl)
theorem vF:typeLookup (.type "list_iterator") (Str.ofString "close")=pure none:=by rw [typeLookup_type,builtinLookup_eq_fast]; kernel_rfl
noncomputable abbrev nY (it:Addr):Code:=.builtin "proto.yield_from" ⟨[.ref it,.bool false,.none],[]⟩
section
variable {prog:Program} {w:World} {A:Around} {E:Value→Shared→Prop} {s:Shared} {Φ:End→Shared→Prop} {fs:List Frame} {it l:Addr}
theorem LH {id:String} {args:Args} {b:Builtin} (hb:entryFor table id=some b):(model prog w).den (.builtin id args)=b args:=by
 show (match entryFor table id with | some b=>b args | none=>unsupported ((withoutEnding? id "#data").getD id))=_
 rw [hb]
theorem zH:(model prog w).den (nY it)=Builtin.«proto.yield_from» ⟨[.ref it,.bool false,.none],[]⟩:=LH vT
theorem pG {b:Bool} {Q:Unit→Shared→Prop} {i:Nat} (h:s.heap.IsListIter it l i) (q:Q () s):wpAny (model prog w) A (Builtin.Generator.sleptOver (.ref it) b) Q E s:=by
 apply bc;intro z_
 obtain ⟨o,ho,hc,hd⟩:=h
 apply z_;clear z_
 unfold Builtin.Generator.sleptOver
 refine Qt (QA ho ?_)
 rw [QI (by rw [hc]; decide)]
 exact Qu q
theorem sQ {i:Nat} {items:Array Value} {x:Value} (hit:s.heap.IsListIter it l i) (hl:s.heap.IsList l items) (hx:items[i]?=some x)
  (h:∀ h' tk l0 k p,h'.IsListIter it l (i+1)→Heap.SameBut it s.heap h'→(∀ (Φ':End→Shared→Prop) (s'':Shared) (j:Nat),s''.heap.IsListIter it l j→bI (model prog w) A Φ' (nY it) ((model prog w).den (nY it)) fs s''→bI (model prog w) A Φ' (nY it) (k (.send .none)) fs s'') →
   Φ (.susp x false l0 k (nY it) p fs) {s with heap:=h',toks:=tk}) (hfs:splitAtGen fs=none) :
  bI (model prog w) A Φ (nY it) ((model prog w).den (nY it)) fs s:=by
 rw [zH]
 unfold Builtin.«proto.yield_from»
 dsimp only
 refine cf (Qu ?_)
 refine cf (wpAny_attempt (Qw ?_))
 rw [QH QM,QI (by rfl)]
 refine Qt (Ra ?_)
 apply bc;intro z_
 obtain ⟨o,ho,hc,hd⟩:=id hit
 obtain ⟨ol,hol,_,nl,hdl⟩:=hl
 apply z_;clear z_
 refine Qt (wpAny_callSpecial?_slot (name:=Str.ofString "__next__") hit.typeIs slot_listiter_next
  (Qz slot_listiter_next hit.typeIs entry_listiter_next ?_ (args_listiter_next _)))
 show wpAny _ _ (field (.ref it) 0 >>= _) _ _ s
 refine Qt (wpAny_field ho hd (x:=.ref l) rfl ?_)
 show wpAny _ _ (if (Value.ref l==Value.none)=true then _ else _) _ _ s
 rw [QH (show ¬ ((Value.ref l==Value.none)=true) from QM)]
 show wpAny _ _ (field (.ref it) 1 >>= _) _ _ s
 refine Qt (wpAny_field ho hd (x:=.int i 0) rfl ?_)
 show wpAny _ _ (seqItems? (.ref l) >>= _) _ _ s
 refine Qt (wpAny_seqItems hol hdl ?_)
 simp only [Int.toNat_natCast,hx]
 refine Qt (wpAny_setField ho hd (by simp) (Qu ⟨x,rfl,Qu ?_⟩))
 have hit':(s.heap.update it (Obj.mapFields (·.setIfInBounds 1 (rawInt ((i:Int)+1))))).IsListIter it l (i+1):=⟨_,Heap.get?_update_self _ ho (Obj.isFreed_of_fields (Obj.data_mapFields hd _)),(Obj.cls_mapFields ..).trans hc,by
  rw [Obj.data_mapFields hd]; simp [rawInt]⟩
 try dsimp only
 refine cf (wpAny_typeOf (T:="list_iterator") (s:={s with heap:=s.heap.update it (Obj.mapFields (·.setIfInBounds 1 (rawInt ((i:Int)+1))))}) hit'.typeIs ?_)
 try dsimp only
 refine cf (Qy vF ?_)
 refine cf (Qu ?_)
 refine cf (pG hit' ?_)
 show bI _ _ _ _ (.yield x false [] _) _ _
 refine zk hfs fun p=>?_
 refine h _ _ _ _ _ hit' (Heap.SameBut.update ..) fun Φ' s'' j hj hs''=>?_
 refine cf (Qu ?_)
 refine cf (pG hj ?_)
 try dsimp only
 refine cf (Qy (a:=Value.none) (by rfl) ?_)
 exact iW (Code.quiet_builtin _ (by decide +kernel)) hs''
theorem Ky {i:Nat} {items:Array Value} (hh:(A.over (nY it) fs).handled=none) (hit:s.heap.IsListIter it l i) (hl:s.heap.IsList l items) (hx:items[i]?=none)
  (h:∀ h',Heap.ExtBut it s.heap h'→bI (model prog w) A Φ (nY it) (leafOf (.ok (.ret .none))) fs {s with heap:=h'}) :
  bI (model prog w) A Φ (nY it) ((model prog w).den (nY it)) fs s:=by
 rw [zH]
 unfold Builtin.«proto.yield_from»
 dsimp only
 refine cf (Qu ?_)
 refine cf (wpAny_attempt (Qw ?_))
 rw [QH QM,QI (by rfl)]
 refine Qt (Ra ?_)
 apply bc;intro z_
 obtain ⟨o,ho,hc,hd⟩:=id hit
 obtain ⟨ol,hol,_,nl,hdl⟩:=hl
 apply z_;clear z_
 refine Qt (wpAny_callSpecial?_slot (name:=Str.ofString "__next__") hit.typeIs slot_listiter_next
  (Qz slot_listiter_next hit.typeIs entry_listiter_next ?_ (args_listiter_next _)))
 show wpAny _ _ (field (.ref it) 0 >>= _) _ _ s
 refine Qt (wpAny_field ho hd (x:=.ref l) rfl ?_)
 show wpAny _ _ (if (Value.ref l==Value.none)=true then _ else _) _ _ s
 rw [QH (show ¬ ((Value.ref l==Value.none)=true) from QM)]
 show wpAny _ _ (field (.ref it) 1 >>= _) _ _ s
 refine Qt (wpAny_field ho hd (x:=.int i 0) rfl ?_)
 show wpAny _ _ (seqItems? (.ref l) >>= _) _ _ s
 refine Qt (wpAny_seqItems hol hdl ?_)
 simp only [Int.toNat_natCast,hx]
 refine Qt (Ra (Qt (wpAny_setField ho hd (by simp) ?_)))
 show wpAny _ _ (newExc (.type "StopIteration") [] >>= _) _ _ _
 refine Qt ?_
 simp only [newExc,newTuple]
 refine Qt (wpAny_newObj_type ?_ (by size_fits))
 refine Qt (m:=firstArgMember _ _) (Qy (a:=Value.none) (by first | rfl | (simp only [firstArgMember]; rfl)) ?_)
 refine wpAny_newObj_type ?_ (by size_fits)
 simp only [raiseNew]
 refine Qt (wpAny_handled ?_)
 rw [show (A.over (nY it) fs).in1.handled=none from hh]
 refine Qt (Qu (wpAny_throw ?_))
 unfold Builtin.Generator.endsTheTurnAsAValue Builtin.Generator.isStopAndMetaclass
 refine cf ?_
 refine Qt ?_
 refine Qt ?_
 refine wpAny_typeOf (T:="StopIteration") ⟨_,QG _ rfl,rfl⟩ ?_
 refine Qt (Qy (a:=true) isSubtype_stop ?_)
 refine Qt (Qy (a:=.type "type") (by rfl) ?_)
 refine Qu (Qu ?_)
 rw [QI rfl,QH QM]
 refine cf (Ra ?_)
 refine cf (wpAny_field (QG _ rfl) rfl (x:=.none) (by rfl) ?_)
 exact h _ fun b o q e=>QB _ (QB _ (by rw [QX _ _ (Ne.symm q)]; exact e))
end
section
variable {prog:Program} {w:World} {A:Around} {s:Shared} {Φ:End→Shared→Prop} {fs:List Frame} {env:Env} {c:Code} {K:Flow→Sem PySem.Fin} {H:Value→Sem PySem.Fin} {gd:Bool→Bool} {lv:List Value→List Value}
theorem fb {st:PySem.Stmt} {rest:List PySem.Stmt} (h:bI (model prog w) A Φ c ((exec st env).wrap (fun f=>match f with | .next=>(execs rest env).wrap K H gd lv | f=>K f) H gd lv) fs s) :
  bI (model prog w) A Φ c ((execs (st::rest) env).wrap K H gd lv) fs s:=by rw [execs_cons_wrap]; exact h
theorem B3 {body:List PySem.Stmt}
  (h:bI (model prog w) A Φ (.func body env) ((execs body env).wrap (fun f=>.pure (.done (.ret (match f with | .ret v=>v | _=>.none))))
   (fun e=>(leaving env e).wrap (fun _=>.raise e) .raise id id) id id) fs s) :
  bI (model prog w) A Φ (.func body env) ((model prog w).den (.func body env)) fs s:=by
 show bI _ A Φ _ (.point [] fun _=>((execs body env).onRaise (leaving env)) >>= _) fs s
 refine zj ?_
 rw [Sem.onRaise_eq_wrap,Sem.bind_eq_wrap',Sem.wrap_wrap]
 rw [Sem.wrap_congr (execs body env) _ _ (K':=fun f=>.pure (.done (.ret (match f with | .ret v=>v | _=>.none))))
  (H':=fun e=>(leaving env e).wrap (fun _=>.raise e) .raise id id) (fun f=>by cases f <;> rfl)
  (fun e=>by rw [Sem.bind_eq_wrap,Sem.wrap_wrap]; rfl)]
 exact h
noncomputable abbrev MO (c:Code) (p:Pos) (env:Env) (K:Flow→Sem PySem.Fin) (H:Value→Sem PySem.Fin) (gd:Bool→Bool) (lv:List Value→List Value):Frame:=
 .ret (fun r=>((match r with | .ok f=>(.pure f:Sem Flow) | .error e=>.raise e).onRaise fun (x:Value)=>do
    if (← field x 1)==Value.none then unsupported "frame.own-activation:exception-without-traceback"
    setFlight x env.frame).wrap K H gd lv) none (gd false) (lv []) c p []
theorem J9 {target iter:PySem.Expr} {body:List PySem.Stmt} {pos:Pos} (hs:∀ x,foldedSetIterable iter env x=pure x)
  (h:wpAny (model prog w) (A.over c fs) (eval iter env) (fun x s1=>wpAny (model prog w) (A.over c fs) (pyIter x) (fun it s2=>∀ p,bI (model prog w) A Φ (.forLoop target it body [] env) ((model prog w).den (.forLoop target it body [] env)) (MO c p env K H gd lv::fs) s2) bh s1) bh s) :
  bI (model prog w) A Φ c ((exec (.For target iter body [] pos) env).wrap K H gd lv) fs s:=by
 rw [exec_For]
 refine fN (Qx ?_)
 refine fN (Qv h (fun x s1 h1=>?_) fun _ _ z=>z.elim)
 rw [hs]
 refine fN (Qu ?_)
 refine fN (Qx ?_)
 refine fN (Qw (Qv h1 (fun it s2 h2=>?_) fun _ _ z=>z.elim))
 exact sG h2
theorem ln {target:PySem.Expr} {it:Value} {body:List PySem.Stmt}
  (h:wpAny (model prog w) (A.over (.forLoop target it body [] env) fs) (pyNext it) (fun r s1=>match r with
   | none=>bI (model prog w) A Φ (.forLoop target it body [] env) (.pure (.again (.block [] env))) fs s1
   | some v=>wpAny (model prog w) (A.over (.forLoop target it body [] env) fs) (letOwnedTupleGo target it v) (fun _ s2=>wpAny (model prog w) (A.over (.forLoop target it body [] env) fs) (assign target env v) (fun _ s3=>
     ∀ H',bI (model prog w) A Φ (.forLoop target it body [] env) ((execs body env).wrap (fun f=>match f with
      | .next | .cont=>.pure (.again (.forLoop target it body [] env))
      | .brk=>.pure (.done .next)
      | .ret v=>.pure (.done (.ret v))) H' id id) fs s3) bh s2) bh s1) bh s) :
  bI (model prog w) A Φ (.forLoop target it body [] env) ((model prog w).den (.forLoop target it body [] env)) fs s:=by
 show bI _ A Φ _ ((forTurn target it body [] env).onRaise (fun x=>do noteFrame x env; theTreesLotGoes x)) fs s
 unfold forTurn
 rw [Sem.onRaise_eq_wrap]
 refine fN (Qx ?_)
 refine fN (Q6 (Qv h (fun r s1 h1=>?_) fun _ _ z=>z.elim))
 cases r with
 | none=>exact h1
 | some v=>
  refine fN (Qv h1 (fun _ s2 h2=>?_) fun _ _ z=>z.elim)
  refine fN (Qv h2 (fun _ s3 h3=>?_) fun _ _ z=>z.elim)
  rw [Sem.bind_eq_wrap',Sem.wrap_wrap]
  refine cast (congrArg (fun t=>bI (model prog w) A Φ (.forLoop target it body [] env) t fs s3) (Sem.wrap_congr (execs body env) id id (fun f=>?_) (fun e=>rfl))) (h3 (fun e=>Sem.wrap .pure (fun e=>((do noteFrame e env; theTreesLotGoes e:Sem Unit).bind fun _=>.raise e)) id id (.raise e:Sem PySem.Fin)))
  cases f <;> rfl
end
structure Kept (ex:List Addr) (s s':Shared):Prop where
 heap:∀ b,b ∉ ex→∀ o,s.heap.get? b=some o→s'.heap.get? b=some o
 gens:s'.gens=s.gens
 os:s'.os=s.os
 drawn:s'.drawn=s.drawn
noncomputable def s5 (l:List Addr) (h h':Heap):Prop:=∀ b∈l,∀ o,h.get? b=some o→h'.get? b=some o
inductive SuspAt (ex:List Addr) (s:Shared) (v:Value) (P:List Addr→Heap→GenState→Prop) (e:End) (s':Shared):Prop
 | mk (kp:Kept ex s s') (l:List Value) (k:Resume→Sem PySem.Fin) (c:Code) (p:Pos) (fs:List Frame) (ex':List Addr) (ee:e=.susp v false l k c p fs) (hq:e.quiet=true) (hex:∀ b∈ex',b∈ex∨s.heap.get? b=none) (hth:∀ b∈ex',∃ o,s'.heap.get? b=some o) (r:P ex' s'.heap e.genState)
noncomputable def ie (M:Model) (A:Around) (fp:List Addr):List Value→List Addr→Heap→GenState→Prop
 | [],ex,h,gs=>∀ s,s5 (ex++fp) h s.heap→oh M A gs s (fun e s'=>e=.ret (.ok (.ret .none))∧Kept ex s s')
 | v::r,ex,h,gs=>∀ s,s5 (ex++fp) h s.heap→oh M A gs s (SuspAt ex s v (ie M A fp r))
noncomputable def rG (M:Model) (A:Around) (fp:List Addr) (vs:List Value) (ex:List Addr) (s:Shared) (e:End) (s':Shared):Prop:=match vs with
 | []=>e=.ret (.ok (.ret .none))∧Kept ex s s'
 | v::r=>SuspAt ex s v (ie M A fp r) e s'
theorem fq {M:Model} {A:Around} {fp:List Addr} {vs:List Value} {ex:List Addr} {h:Heap} {gs:GenState}:ie M A fp vs ex h gs ↔ ∀ s,s5 (ex++fp) h s.heap→oh M A gs s (rG M A fp vs ex s):=by
 cases vs <;> exact Iff.rfl
theorem Kept.refl {ex:List Addr} {s:Shared}:Kept ex s s:=⟨fun _ _ _ e=>e,rfl,rfl,rfl⟩
theorem Kept.step {ex:List Addr} {s0 s:Shared} {h:Heap} {t:Nat} {x:Addr} (k:Kept ex s0 s) (hx:x∈ex∨s0.heap.get? x=none) (hh:∀ b,b≠x→∀ o,s.heap.get? b=some o→h.get? b=some o):Kept ex s0 {s with heap:=h,toks:=t}:=
 ⟨fun b hb o e=>hh b (fun q=>hx.elim (fun z=>hb (q ▸ z)) (fun z=>by rw [q,z] at e; cases e)) o (k.heap b hb o e),k.gens,k.os,k.drawn⟩
theorem Kept.news {ex:List Addr} {s0 s:Shared} {h:Heap} {t:Nat} (k:Kept ex s0 s) (hh:∀ b o,s.heap.get? b=some o→h.get? b=some o):Kept ex s0 {s with heap:=h,toks:=t}:=
 ⟨fun b hb o e=>hh b o (k.heap b hb o e),k.gens,k.os,k.drawn⟩
section
variable {prog:Program} {w:World} {A:Around} {s:Shared} {fs:List Frame} {it l:Addr} {fp ex ex':List Addr}
theorem j3 {h h':Heap} {i:Nat} {S:List Addr} (hs:s5 S h h') (hi:it∈S) (x:h.IsListIter it l i):h'.IsListIter it l i:=x.at fun o e=>hs it hi o e
theorem r6 {h h':Heap} {S:List Addr} {items:Array Value} (hs:s5 S h h') (hi:l∈S) (x:h.IsList l items):h'.IsList l items:=x.at fun o e=>hs l hi o e
theorem Fh {items tail:List Value} {St:Heap→Prop} (hfs:splitAtGen fs=none) (hfg:fs.any Frame.guarded=false) (hh:(A.over (nY it) fs).handled=none)
  (hit:it∈ex') (hl:l∈fp) (hlt:l≠it)
  (hSt:∀ h h',s5 (ex'++fp) h h'→St h→St h') (hSt':∀ h h',(∀ b,b≠it→∀ o,h.get? b=some o→h'.get? b=some o)→St h→St h')
  (hend:∀ s0 s1,St s1.heap→Kept ex' s0 s1→(∀ b∈ex',b≠it→∃ o,s1.heap.get? b=some o)→bI (model prog w) A (rG (model prog w) A fp tail ex' s0) (nY it) (leafOf (.ok (.ret .none))) fs s1) :
  ∀ (r:List Value) (x:Value) (i:Nat),items.drop i=x::r→∀ ex s0 s,s.heap.IsListIter it l i→s.heap.IsList l items.toArray→St s.heap→Kept ex s0 s→(∀ b∈ex',b∈ex∨s0.heap.get? b=none)→(∀ b∈ex',∃ o,s.heap.get? b=some o) →
   bI (model prog w) A (rG (model prog w) A fp (x::r++tail) ex s0) (nY it) ((model prog w).den (nY it)) fs s:=by
 intro r
 induction r with
 | nil=>
  intro x i hd ex s0 s h1 h2 h3 k hex hthere
  have hx:items[i]?=some x:=by have:=congrArg (·[0]?) hd; simpa using this
  refine sQ h1 h2 (x:=x) (by simpa using hx) (fun h' tk l0 k0 p hi hs hback=>?_) hfs
  refine ⟨k.step (hex it hit) fun b q o e=>(hs.2 b q).trans e,l0,k0,nY it,p,fs,ex',rfl,by simp [End.quiet,hfg],hex,fun b hb=>?_,?_⟩
  ·by_cases q:b=it
   ·subst q; obtain ⟨o,z,_⟩:=hi; exact ⟨o,z⟩
   ·obtain ⟨o,z⟩:=hthere b hb; exact ⟨o,(hs.2 b q).trans z⟩
  ·rw [fq]
   intro s2 hsame
   refine hback _ s2 (i+1) (j3 hsame (QV _ hit) hi) ?_
   have hi2:=j3 hsame (QV _ hit) hi
   have hl2:=r6 hsame (QW _ hl) (h2.at fun o e=>(hs.2 _ hlt).trans e)
   have hn:items[i+1]?=none:=by
    have:=congrArg List.length hd
    rw [List.length_drop] at this
    rw [List.getElem?_eq_none_iff]; simp at this; omega
   refine Ky hh hi2 hl2 (by simpa using hn) fun h'' hx''=>?_
   refine hend s2 {s2 with heap:=h''} (hSt' _ _ (fun b q o e=>hx'' b o q e) (hSt _ _ hsame (hSt' _ _ (fun b q o e=>(hs.2 b q).trans e) h3))) (Kept.step (t:=s2.toks) .refl (.inl hit) fun b q o e=>hx'' b o q e) fun b hb q=>?_
   apply bc;intro z_
   obtain ⟨o,z⟩:=hthere b hb
   apply z_;clear z_
   exact ⟨o,hx'' b o q (hsame b (QV _ hb) o ((hs.2 b q).trans z))⟩
 | cons y r ih=>
  intro x i hd ex s0 s h1 h2 h3 k hex hthere
  have hx:items[i]?=some x:=by have:=congrArg (·[0]?) hd; simpa using this
  refine sQ h1 h2 (x:=x) (by simpa using hx) (fun h' tk l0 k0 p hi hs hback=>?_) hfs
  refine ⟨k.step (hex it hit) fun b q o e=>(hs.2 b q).trans e,l0,k0,nY it,p,fs,ex',rfl,by simp [End.quiet,hfg],hex,fun b hb=>?_,?_⟩
  ·by_cases q:b=it
   ·subst q; obtain ⟨o,z,_⟩:=hi; exact ⟨o,z⟩
   ·obtain ⟨o,z⟩:=hthere b hb; exact ⟨o,(hs.2 b q).trans z⟩
  ·show ie _ _ _ ((y::r)++tail) _ _ _
   rw [fq]
   intro s2 hsame
   refine hback _ s2 (i+1) (j3 hsame (QV _ hit) hi) ?_
   refine ih y (i+1) ?_ ex' s2 s2 (j3 hsame (QV _ hit) hi) (r6 hsame (QW _ hl) (h2.at fun o e=>(hs.2 _ hlt).trans e)) (hSt _ _ hsame (hSt' _ _ (fun b q o e=>(hs.2 b q).trans e) h3)) .refl (fun b hb=>.inl hb) fun b hb=>?_
   ·have:=congrArg (List.drop 1) hd
    simpa [List.drop_drop,Nat.add_comm] using this
   ·by_cases q:b=it
    ·subst q; obtain ⟨o,z,_⟩:=hi; exact ⟨o,hsame b (QV _ hb) o z⟩
    ·obtain ⟨o,z⟩:=hthere b hb; exact ⟨o,hsame b (QV _ hb) o ((hs.2 b q).trans z)⟩
end
noncomputable abbrev rD:=Addr×List Value
noncomputable def dp:List rD→List Value
 | []=>[]
 | p::r=>p.2++dp r
noncomputable def gR (ins:List rD):Array Value:=(ins.map fun p=>Value.ref p.1).toArray
noncomputable def Lists (a:Addr) (ins:List rD) (h:Heap):Prop:=h.IsList a (gR ins)∧∀ p∈ins,h.IsList p.1 p.2.toArray
theorem Lists.at {a:Addr} {ins:List rD} {h h':Heap} (x:Lists a ins h) (k:∀ b,(b=a∨∃ p∈ins,b=p.1)→∀ o,h.get? b=some o→h'.get? b=some o):Lists a ins h':=
 ⟨x.1.at fun o e=>k a (.inl rfl) o e,fun p hp=>(x.2 p hp).at fun o e=>k p.1 (.inr ⟨p,hp,rfl⟩) o e⟩
structure GSt (L RI a:Addr) (ins:List rD) (j:Int) (h:Heap):Prop where
 ns:∃ m,h.Ns L m
 ri:h.IsRevIter RI a j
 lists:Lists a ins h
theorem GSt.at {L RI a:Addr} {ins:List rD} {j:Int} {h h':Heap} (x:GSt L RI a ins j h) (k:∀ b,(b=L∨b=RI∨b=a∨∃ p∈ins,b=p.1)→∀ o,h.get? b=some o→h'.get? b=some o):GSt L RI a ins j h':=by
 apply bc;intro z_
 obtain ⟨⟨m,o,es,ep,ho,r⟩,h2,h3⟩:=x
 apply z_;clear z_
 exact ⟨⟨m,o,es,ep,k L (.inl rfl) o ho,r⟩,h2.at fun o e=>k RI (.inr (.inl rfl)) o e,h3.at fun b hb o e=>k b (.inr (.inr hb)) o e⟩
section
variable {prog:Program} {w:World} {A:Around} {s:Shared} {fp:List Addr} {env:Env} {c:Code} {xn:Str} {p5 p6 p7 p8 p9 p1:Pos}
noncomputable abbrev wq (xn:Str) (p5 p6 p7 p8 p9:Pos):List PySem.Stmt:=[.If (.Name xn p5) [.Expr (.YieldFrom (.Name xn p6) p7) p8] [] p9]
theorem AL {L RI a:Addr} {ins:List rD} {p:Pos} {K:Flow→Sem PySem.Fin} (hK:K .next=.pure (.done (.ret .none))) {H:Value→Sem PySem.Fin} {lv:List Value→List Value} (hh:A.handled=none) (hL:env.locals=L) (hkf:env.scope.kind=.function) (hk:env.kindOf xn=some .local) (hdb:dc xn) (hint:interactive env=false)
  (hsw:swapsWith (.YieldFrom (.Name xn p6) p7) none p8.line env=pure false)
  (hfa:a∈fp) (hfi:∀ q∈ins,q.1∈fp) (hdis:∀ b∈fp,b≠L∧b≠RI) (hLR:L≠RI) (hsz:∀ q∈ins,q.2.length≤1000) :
  ∀ (rem:List rD) (rest:List rD),ins=rem.reverse++rest→∀ ex s0 s,GSt L RI a ins ((rem.length:Int) - 1) s.heap→Kept ex s0 s→(∀ b∈[L,RI],b∈ex∨s0.heap.get? b=none) →
   bI (model prog w) A (rG (model prog w) A fp (dp rem) ex s0) (.forLoop (.Name xn p1) (.ref RI) (wq xn p5 p6 p7 p8 p9) [] env) ((model prog w).den (.forLoop (.Name xn p1) (.ref RI) (wq xn p5 p6 p7 p8 p9) [] env)) [MO c p env K H id lv] s:=by
 intro rem
 induction rem with
 | nil=>
  intro rest hins ex s0 s h1 k hex
  refine ln ?_
  refine wpAny_pyNext_rev_end hh h1.ri fun h' hx=>?_
  dsimp only
  refine iW (by rfl) ?_
  show bI _ _ _ _ ((execs [] env).onRaise _ >>= _) _ _
  refine cf (Q6 (wpAny_execs_nil ?_))
  show bI _ _ _ _ (leafOf (.ok .next)) _ _
  refine sH _ ?_
  show bI _ _ _ _ (K .next) _ _
  rw [hK]
  show bI _ _ _ _ (leafOf (.ok (.ret .none))) _ _
  exact Ka _ ⟨rfl,k.step (hex RI (by simp)) fun b q o e=>hx b o q e⟩
 | cons q r ih=>
  intro rest hins ex s0 s h1 k hex
  refine ln ?_
  have hx:(gR ins)[r.length]?=some (.ref q.1):=by
   unfold gR; rw [hins]; simp
  have h1r:=h1.ri
  rw [show (((q::r).length:Nat):Int) - 1=(r.length:Int) from by simp] at h1r
  refine wpAny_pyNext_rev_item h1r h1.lists.1 hx fun h' hr hs=>?_
  dsimp only
  refine Qu ?_
  apply bc;intro z_
  obtain ⟨m,hm⟩:=h1.ns
  apply z_;clear z_
  have hm':h'.Ns env.locals m:=by rw [hL]; exact jr hm (hs.2 L hLR)
  refine wpAny_assign_Name (wpAny_storeName_local hk hm' (fun h2 hn2 hs2=>?_) (by rw [hkf]; rfl))
  intro H'
  rw [hL] at hn2 hs2
  have hqi:q∈ins:=by rw [hins]; simp
  have G2:GSt L RI a ins ((r.length:Int) - 1) h2:=by
   refine ⟨⟨_,hn2⟩,hr.at fun o e=>(hs2.2 RI hLR.symm).trans e,h1.lists.at fun b hb o e=>?_⟩
   have hb':b∈fp:=by
    rcases hb with rfl | ⟨q',hq',rfl⟩
    ·exact hfa
    ·exact hfi q' hq'
   rw [hs2.2 b (hdis b hb').1,hs.2 b (hdis b hb').2]; exact e
  have k2:Kept ex s0 {s with heap:=h2,toks:=s.toks+1}:=(k.step (t:=s.toks) (h:=h') (hex RI (by simp)) (fun b q o e=>(hs.2 b q).trans e)).step (hex L (by simp)) (fun b q o e=>(hs2.2 b q).trans e)
  have hv:(fun x=>if x=xn then some (Value.ref q.1) else m x) xn=some (.ref q.1):=QI rfl
  refine fb ?_
  rw [exec_If]
  refine fN (Qx ?_)
  rw [show isTrue (PySem.Expr.Name xn p5) env (eval (.Name xn p5) env)=(do let v ← eval (.Name xn p5) env; standAt p5; holding [v] (truthy v)) from rfl]
  refine fN ?_
  refine Qt (wpAny_Name (wpAny_loadName_local hkf hk (by rw [hL]; exact hn2) hv ?_) hdb)
  refine Qt (Qx (Qw ?_))
  have hzq:=hsz q hqi
  refine wpAny_truthy_list (G2.lists.2 q hqi) (by simp; omega) ?_
  cases hq2:q.2 with
  | nil=>
   rw [QH (by simp)]
   show bI _ _ _ _ (.pure (.again _)) _ _
   refine iW (by rfl) ?_
   rw [show dp (q::r)=dp r from by show q.2++dp r=dp r; rw [hq2]; rfl]
   refine ih (q::rest) (by rw [hins]; simp) ex s0 _ G2 (k2.news fun _ _ e=>e) hex
  | cons x xs=>
   rw [QI (by simp)]
   refine fb ?_
   rw [exec_Expr env _ p8 hint hsw,arm_eval_YieldFrom]
   refine fN (Qx ?_)
   rw [Sem.bind_eq_wrap',Sem.bind_eq_wrap',Sem.wrap_wrap,Sem.wrap_wrap]
   refine fG (wpAny_Name (wpAny_loadName_local hkf hk (by rw [hL]; exact hn2) hv ?_) hdb)
   rw [Sem.bind_eq_wrap',Sem.wrap_wrap]
   refine fG (Qx ?_)
   unfold yieldFrom
   have G3:=G2.lists.2 q hqi
   rw [Sem.bind_eq_wrap',Sem.wrap_wrap]
   refine fG (wpAny_typeOf (T:="list") G3.typeIs ?_)
   rw [QH (by decide)]
   rw [Sem.bind_eq_wrap',Sem.wrap_wrap]
   refine fG (Qw (wpAny_pyIter_list G3 ?_))
   refine sG fun p'=>?_
   have hI:∀ b o,h2.get? b=some o→b≠h2.objs.size:=fun b o e w=>by rw [w,aH] at e; cases e
   apply bc;intro z_
   obtain ⟨m2,o2,_,_,ho2,_⟩:=G2.ns
   obtain ⟨oR,hoR,_⟩:=G2.ri
   obtain ⟨oq,hoq,_⟩:=id G3
   apply z_;clear z_
   have hLi:L≠h2.objs.size:=hI L _ ho2
   have hRi:RI≠h2.objs.size:=hI RI _ hoR
   have hqI:q.1≠h2.objs.size:=hI q.1 _ hoq
   have hfpI:∀ b,(b=L∨b=RI∨b=a∨∃ p∈ins,b=p.1)→b∈[L,RI,h2.objs.size]++fp:=fun b hb=>by
    rcases hb with rfl | rfl | rfl | ⟨p,hp,rfl⟩
    ·simp
    ·simp
    ·exact QW _ hfa
    ·exact QW _ (hfi p hp)
   rw [show dp (q::r)=(x::xs)++dp r from by show q.2++dp r=_; rw [hq2]]
   refine Fh (prog:=prog) (w:=w) (A:=A) (fp:=fp) (it:=h2.objs.size) (l:=q.1) (items:=q.2) (tail:=dp r) (ex':=[L,RI,h2.objs.size])
    (St:=fun h=>GSt L RI a ins ((r.length:Int) - 1) h)
    ?_ ?_ ?_ (by simp) (hfi q hqi) hqI (fun h h3 hs x=>x.at fun b hb o e=>hs b (hfpI b hb) o e)
    (fun h h3 hs x=>x.at fun b hb o e=>hs b (fun w=>?_) o e) (fun t0 t1 g1 kk hth=>?_) xs x 0 (by simpa using hq2) ex s0 _ ?_ ?_ ?_ ?_ ?_ ?_
   ·rfl
   ·rfl
   ·exact hh
   ·rcases hb with rfl | rfl | rfl | ⟨p,hp,rfl⟩
    ·exact hLi w
    ·exact hRi w
    ·exact hI _ _ G2.lists.1.choose_spec.1 w
    ·exact hI _ _ (G2.lists.2 p hp).choose_spec.1 w
   ·refine sH _ ?_
    show bI _ _ _ _ (.pure (.again _)) _ _
    refine iW (by rfl) ?_
    refine ih (q::rest) (by rw [hins]; simp) _ _ _ g1 kk (fun b hb=>.inl ?_)
    simp only [List.mem_cons,List.not_mem_nil,or_false] at hb
    rcases hb with rfl | rfl <;> simp
   ·exact ⟨_,QG _ rfl,rfl,rfl⟩
   ·exact G3.at fun o e=>QB _ e
   ·exact G2.at fun b hb o e=>QB _ e
   ·exact k2.news fun b o e=>QB _ e
   ·intro b hb
    simp only [List.mem_cons,List.not_mem_nil,or_false] at hb
    rcases hb with rfl | rfl | rfl
    ·exact hex _ (by simp)
    ·exact hex _ (by simp)
    ·by_cases hm:h2.objs.size∈ex
     ·exact .inl hm
     ·refine .inr ?_
      cases e:s0.heap.get? h2.objs.size with
      | none=>rfl
      | some o=>exact absurd rfl (hI _ _ (k2.heap _ hm o e))
   ·intro b hb
    simp only [List.mem_cons,List.not_mem_nil,or_false] at hb
    rcases hb with rfl | rfl | rfl
    ·exact ⟨_,QB _ ho2⟩
    ·exact ⟨_,QB _ hoR⟩
    ·exact ⟨_,QG _ rfl⟩
end
section
variable {prog:Program} {w:World} {A:Around} {s:Shared} {fp:List Addr} {env:Env} {c:Code} {xn xr xs:Str} {p1 p2 p3 p4 p5 p6 p7 p8 p9 p10:Pos}
noncomputable abbrev m6 (xn xr xs:Str) (p1 p2 p3 p4 p5 p6 p7 p8 p9 p10:Pos):List PySem.Stmt:=[.For (.Name xn p1) (.Call (.Name xr p2) [.Name xs p3] [] p4) (wq xn p5 p6 p7 p8 p9) [] p10]
theorem to {L a:Addr} {ins:List rD} {m:Str→Option Value} {h:Heap} (hh:A.handled=none) (hL:env.locals=L) (hkf:env.scope.kind=.function) (hk:env.kindOf xn=some .local) (hkr:env.kindOf xr=some .local) (hks:env.kindOf xs=some .local) (hdb:dc xn) (hdr:dc xr) (hds:dc xs) (hint:interactive env=false)
  (hsw:swapsWith (.YieldFrom (.Name xn p6) p7) none p8.line env=pure false) (hset:∀ x,foldedSetIterable (.Call (.Name xr p2) [.Name xs p3] [] p4) env x=pure x)
  (hst:∀ r,starEach (PySem.Expr.Name xs p3::r) env=(false,eval (.Name xs p3) env)::starEach r env) (h1:∀ pos,(backTo pos (starEach [PySem.Expr.Name xs p3] env)).any (·.1)=false)
  (hns:h.Ns L m) (hmr:m xr=some (.type "reversed")) (hms:m xs=some (.ref a)) (hl:Lists a ins h)
  (hfa:a∈fp) (hfi:∀ q∈ins,q.1∈fp) (hfL:∀ b∈fp,b≠L) (hex:∀ b∈fp,∃ o,h.get? b=some o) (hsz:∀ q∈ins,q.2.length≤1000) :
  ie (model prog w) A fp (dp ins.reverse) [L] h (.fresh (.func (m6 xn xr xs p1 p2 p3 p4 p5 p6 p7 p8 p9 p10) env)):=by
 rw [fq]
 intro s hsame
 show bI _ _ _ _ _ _ _
 have hns':s.heap.Ns env.locals m:=by
  rw [hL]
  apply bc;intro z_
  obtain ⟨o,es,ep,ho,r⟩:=hns
  apply z_;clear z_
  exact ⟨o,es,ep,hsame L (by simp) o ho,r⟩
 have hl':Lists a ins s.heap:=hl.at fun b hb o e=>hsame b (QW _ (by
  rcases hb with rfl | ⟨q,hq,rfl⟩
  ·exact hfa
  ·exact hfi q hq)) o e
 refine B3 ?_
 refine fb ?_
 refine J9 hset ?_
 refine wpAny_Call_ofName (wpAny_Name (wpAny_loadName_local hkf hkr hns' hmr ?_) hdr)
 refine b9 (h1 _) (by rfl) ?_
 rw [hst []]
 show wpAny _ _ (spliced ((false,eval (.Name xs p3) env)::[])) _ _ _
 refine spliced_cons (wpAny_Name (wpAny_loadName_local hkf hks hns' hms ?_) hds)
 refine spliced_nil ?_
 refine Qu ?_
 refine ⟨fun Q' k=>Qu (k _ (by decide)),?_⟩
 show wpAny _ _ (call (.type "reversed") [.ref a]) _ _ _
 refine call_reversed_list hl'.1 ?_
 have hIx:(s.heap.push (revObj a (((gR ins).size:Int) - 1))).IsRevIter s.heap.objs.size a (((gR ins).size:Int) - 1):=⟨_,QG _ rfl,rfl,rfl⟩
 refine wpAny_pyIter_revIter (it:=s.heap.objs.size) (l:=a) (i:=((gR ins).size:Int) - 1) hIx fun p=>?_
 have hI:∀ b o,s.heap.get? b=some o→b≠s.heap.objs.size:=fun b o e w=>by rw [w,aH] at e; cases e
 have hLI:L≠s.heap.objs.size:=by
  apply bc;intro z_
  obtain ⟨o,es,ep,ho,r⟩:=hns'
  apply z_;clear z_
  rw [hL] at ho
  exact hI _ _ ho
 refine AL (fp:=fp) (L:=L) (RI:=s.heap.objs.size) (a:=a) (ins:=ins) (by rfl) hh hL hkf hk hdb hint hsw hfa hfi (fun b hb=>⟨hfL b hb,?_⟩) hLI hsz ins.reverse [] (by simp) [L] s _ ?_ ?_ ?_
 ·apply bc;intro z_
  obtain ⟨o,ho⟩:=hex b hb
  apply z_;clear z_
  exact hI b o (hsame b (QW _ hb) o ho)
 ·refine ⟨⟨m,?_⟩,?_,?_⟩
  ·rw [hL] at hns'
   apply bc;intro z_
   obtain ⟨o,es,ep,ho,r⟩:=hns'
   apply z_;clear z_
   exact ⟨o,es,ep,QB _ ho,r⟩
  ·have:(gR ins).size=ins.length:=by unfold gR; simp
   rw [this] at hIx
   rw [List.length_reverse]
   rw [this]
   exact hIx
  ·exact hl'.at fun b _ o e=>QB _ e
 ·exact Kept.refl.news (t:=s.toks) fun b o e=>QB _ e
 ·intro b hb
  simp only [List.mem_cons,List.not_mem_nil,or_false] at hb
  rcases hb with rfl | rfl
  ·exact .inl (by simp)
  ·exact .inr aH
end
noncomputable def Glob.pv (G:Glob) (gn:Array GenState→Prop) (hp:Addr→Option Obj):Glob:={G with Gn:=gn,Hp:=hp}
theorem Glob.Ok.pv (ok:G.Ok) (gn:Array GenState→Prop) (hp:Addr→Option Obj):(G.pv gn hp).Ok:=
 ⟨ok.K,ok.KT,ok.nolimit,ok.T1,ok.T2,ok.T3,ok.b,ok.main,ok.boot,ok.tbmono,ok.annd,ok.anlen,ok.ws,ok.lam⟩
theorem RepO.pv {gn:Array GenState→Prop} {hp:Addr→Option Obj} {h:Heap} {a:Addr} {o:AO} (r:RepO G X n h a o):RepO (G.pv gn hp) X n h a o:=by cases o <;> exact r
theorem RepO.vp {gn:Array GenState→Prop} {hp:Addr→Option Obj} {h:Heap} {a:Addr} {o:AO} (r:RepO (G.pv gn hp) X n h a o):RepO G X n h a o:=by cases o <;> exact r
theorem LocOk.pv {gn:Array GenState→Prop} {hp:Addr→Option Obj} {st:List (Nat×AO)} {lo:List (Nat×V)} {h:Heap} (r:LocOk G X n st env lo h):LocOk (G.pv gn hp) X n st env lo h:=⟨r.ns,r.freeL,r.freeC,r.frzC,r.apart⟩
theorem LocOk.vp {gn:Array GenState→Prop} {hp:Addr→Option Obj} {st:List (Nat×AO)} {lo:List (Nat×V)} {h:Heap} (r:LocOk (G.pv gn hp) X n st env lo h):LocOk G X n st env lo h:=⟨r.ns,r.freeL,r.freeC,r.frzC,r.apart⟩
theorem Rel.priv {gn':Array GenState→Prop} {hp':Addr→Option Obj} {st':List (Nat×AO)} (R:Rel G X env σ s) (k:∀ b,G.Hp b=none→∀ o,s.heap.get? b=some o→s'.heap.get? b=some o) (ho:s'.os=s.os) (hd:s'.drawn=s.drawn) (hg:gn' s'.gens)
  (hst:∀ l o,aj l st'=some o→aj l σ.st=some o)
  (hp:∀ a o,hp' a=some o→s'.heap.get? a=some o∧((∃ o',G.Hp a=some o')∨s.heap.get? a=none∨∃ l o',aj l σ.st=some o'∧X.ρ l=a∧∀ o'',aj l st'≠some o'')) :
  Rel (G.pv gn' hp') X env {σ with st:=st'} s':=by
 apply bc;intro z_
 obtain ⟨h1,h2,h3,h4,hb,h5,h6,h7,h8,h9,h10,h11⟩:=R
 apply z_;clear z_
 have nF:∀ {a o},X.F a=some o→G.Hp a=none:=fun {a o} e=>by
  cases q:G.Hp a with
  | none=>rfl
  | some o'=>rw [(h11 a o' q).2.1] at e; cases e
 have nρ:∀ {l o},aj l σ.st=some o→G.Hp (X.ρ l)=none:=fun {l o} e=>by
  cases q:G.Hp (X.ρ l) with
  | none=>rfl
  | some o'=>exact absurd rfl ((h11 _ o' q).2.2.1 l o e)
 have nL:G.Hp env.locals=none:=by
  cases q:G.Hp env.locals with
  | none=>rfl
  | some o'=>exact absurd rfl (h11 _ o' q).2.2.2.1
 have nC:∀ {x c},env.cells.lookup x=some c→G.Hp c=none:=fun {x c} e=>by
  cases q:G.Hp c with
  | none=>rfl
  | some o'=>exact absurd rfl ((h11 _ o' q).2.2.2.2.1 x c e)
 have nT:G.Hp G.T=none:=by
  cases q:G.Hp G.T with
  | none=>rfl
  | some o'=>exact absurd rfl (h11 _ o' q).2.2.2.2.2
 refine ⟨fun a o e=>k _ (nF e) _ (h1 a o e),h2,fun l o e=>h3 l o (hst _ _ e),fun l l' o o' e e'=>h4 l l' _ _ (hst _ _ e) (hst _ _ e'),fun l o e=>hb l o (hst _ _ e),fun l o e=>⟨(h5 l o (hst _ _ e)).1,?_⟩,⟨k _ nT _ h6.1,h6.2⟩,?_,ho.trans h8,hd.trans h9,hg,fun a o e=>?_⟩
 ·apply bc;intro z_
  obtain ⟨ob,z⟩:=(h5 l o (hst _ _ e)).2.there
  apply z_;clear z_
  exact ((h5 l o (hst _ _ e)).2.go .refl (QF _) ((k _ (nρ (hst _ _ e)) _ z).trans z.symm)).pv
 ·apply bc;intro z_
  obtain ⟨oL,zL⟩:=h7.ltL
  apply z_;clear z_
  refine (h7.go (st':=st') .refl (QF _) ((k _ nL _ zL).trans zL.symm) (fun x c e=>let ⟨o,z⟩:=h7.ltC e; (k _ (nC e) _ z).trans z.symm) ⟨h7.freeL.1,fun l o e=>h7.freeL.2.1 l o (hst _ _ e)⟩ (fun w x c b=>⟨(h7.freeC w x c b).1,fun l o e=>(h7.freeC w x c b).2.1 l o (hst _ _ e)⟩)).pv
 ·apply bc;intro z_
  obtain ⟨z,hc⟩:=hp a o e
  apply z_;clear z_
  rcases hc with ⟨o',q⟩ | q | ⟨l,o',q,rfl,hne⟩
  ·apply bc;intro z_
   obtain ⟨_,a2,a3,a4,a5,a6⟩:=h11 a o' q
   apply z_;clear z_
   exact ⟨z,a2,fun l o e=>a3 l o (hst _ _ e),a4,a5,a6⟩
  ·have fr:∀ {b:Addr} {ob:Obj},s.heap.get? b=some ob→b≠a:=fun e w=>by rw [w,q] at e; cases e
   refine ⟨z,?_,fun l o e w=>?_,fun w=>?_,fun x c e w=>?_,fun w=>?_⟩
   ·cases r:X.F a with
    | none=>rfl
    | some ob=>exact absurd rfl (fr (h1 _ _ r))
   ·apply bc;intro z_
    obtain ⟨ob,r⟩:=(h5 l o (hst _ _ e)).2.there
    apply z_;clear z_
    exact fr r w
   ·apply bc;intro z_
    obtain ⟨oL,zL⟩:=h7.ltL
    apply z_;clear z_
    exact fr zL w.symm
   ·apply bc;intro z_
    obtain ⟨oc,zc⟩:=h7.ltC e
    apply z_;clear z_
    exact fr zc w
   ·exact fr h6.1 w.symm
  ·refine ⟨z,(h3 l o' q).1,fun l' o'' e2 w=>?_,fun w=>h7.freeL.2.1 l o' q w,fun x c e w=>?_,(h3 l o' q).2⟩
   ·have:=h4 l' l _ _ (hst _ _ e2) q w
    rw [this] at e2
    exact hne _ e2
   ·by_cases hf:env.frame=some env.locals
    ·exact (h7.freeC hf x c e).2.1 l o' q w.symm
    ·apply bc;intro z_
     obtain ⟨oc,zc⟩:=h7.frzC hf x c e
     apply z_;clear z_
     rw [w,(h3 l o' q).1] at zc; cases zc
theorem oU {α:Type} {k:Nat}:∀ {a b:List (Nat×α)},aj k (a++b)=match aj k a with | some v=>some v | none=>aj k b
 | [],b=>rfl
 | (m,v)::r,b=>by
  rw [List.cons_append,am,am]
  by_cases q:k=m
  ·rw [QI q,QI q]
  ·rw [QH q,QH q]; exact oU
set_option tactic.hygienic true in
theorem Rel.shows {gn:Array GenState→Prop} {hp:Addr→Option Obj} {KS:List (Nat×AO)} (R:Rel (G.pv gn hp) X env σ s) (hH:∀ a o,G.Hp a=some o→hp a=some o) (hg:G.Gn s.gens)
  (hK:∀ l o,aj l KS=some o→l<σ.nx∧RepO G X σ.nx s.heap (X.ρ l) o∧(∃ o',hp (X.ρ l)=some o')∧mainGlobals<X.ρ l∧G.Hp (X.ρ l)=none)
  (hi:∀ l l' o o',aj l KS=some o→aj l' KS=some o'→X.ρ l=X.ρ l'→l=l'):Rel G X env {σ with st:=KS++σ.st} s:=by
 apply bc;intro z_
 obtain ⟨h1,h2,h3,h4,hb,h5,h6,h7,h8,h9,h10,h11⟩:=R
 apply z_;clear z_
 have cs:∀ {l o},aj l (KS++σ.st)=some o→aj l KS=some o∨aj l σ.st=some o:=fun {l o} e=>by
  rw [oU] at e
  split at e
  ·cases e; rename_i w; exact .inl w
  ·exact .inr e
 have hpv:∀ {l o},aj l KS=some o→∃ o',X.F (X.ρ l)=none∧(∀ l' o'',aj l' σ.st=some o''→X.ρ l'≠X.ρ l)∧X.ρ l≠env.locals∧(∀ x c,env.cells.lookup x=some c→c≠X.ρ l)∧X.ρ l≠G.T:=fun {l o} e=>by
  apply bc;intro z_
  obtain ⟨_,_,⟨o',z⟩,_⟩:=hK l o e
  obtain ⟨_,r⟩:=h11 _ _ z
  apply z_;clear z_
  exact ⟨o',r⟩
 refine ⟨h1,h2,fun l o e=>?_,fun l l' o o' e e' w=>?_,fun l o e=>?_,fun l o e=>?_,h6,?_,h8,h9,hg,fun a o e=>?_⟩
 ·rcases cs e with e | e
  ·obtain ⟨_,a1,_,_,_,a5⟩:=hpv e; exact ⟨a1,a5⟩
  ·exact h3 l o e
 ·rcases cs e with e | e <;> rcases cs e' with e' | e'
  ·exact hi _ _ _ _ e e' w
  ·obtain ⟨_,_,a2,_⟩:=hpv e; exact absurd w.symm (a2 _ _ e')
  ·obtain ⟨_,_,a2,_⟩:=hpv e'; exact absurd w (a2 _ _ e)
  ·exact h4 _ _ _ _ e e' w
 ·rcases cs e with e | e
  ·exact (hK l o e).2.2.2.1
  ·exact hb l o e
 ·rcases cs e with e | e
  ·exact ⟨(hK l o e).1,(hK l o e).2.1⟩
  ·exact ⟨(h5 l o e).1,(h5 l o e).2.vp⟩
 ·refine (h7.go (st':=KS++σ.st) .refl (QF _) rfl (fun _ _ _=>rfl) ⟨h7.freeL.1,fun l o e=>?_⟩ (fun w x c b=>⟨(h7.freeC w x c b).1,fun l o e=>?_⟩)).vp
  ·rcases cs e with e | e
   ·obtain ⟨_,_,_,a3,_⟩:=hpv e; exact a3
   ·exact h7.freeL.2.1 l o e
  ·rcases cs e with e | e
   ·obtain ⟨_,_,_,_,a4,_⟩:=hpv e; exact (a4 x c b).symm
   ·exact (h7.freeC w x c b).2.1 l o e
 ·apply bc;intro z_
  obtain ⟨z1,z2,z3,r⟩:=h11 a o (hH a o e)
  apply z_;clear z_
  refine ⟨z1,z2,fun l o' e' w=>?_,r⟩
  rcases cs e' with e' | e'
  ·have:=(hK l o' e').2.2.2.2
   rw [w,e] at this; cases this
  ·exact z3 l o' e' w
noncomputable def qH (dt:DT) (db:DS):List V→DS
 | []=>fun σ Q=>Q .next σ
 | v::r=>fun σ Q=>dt v σ fun σ1=>db σ1 fun fl σ2=>match fl with
  | .next=>qH dt db r σ2 Q
  | .cont=>qH dt db r σ2 Q
  | .brk=>Q .next σ2
  | .ret v=>Q (.ret v) σ2
noncomputable def f6 (G:Glob) (pl:List Addr) (h:Heap):Addr→Option Obj:=fun a=>if a∈pl then h.get? a else G.Hp a
noncomputable def AllBare:Array GenState→Prop:=fun gs=>∀ x∈gs,x.bare=true
theorem AllBare.set {gs:Array GenState} {g:Nat} {x:GenState} (h:AllBare gs) (hx:x.bare=true):AllBare (gs.setIfInBounds g x):=fun y hy=>by
 rcases Array.mem_or_eq_of_mem_setIfInBounds hy with h' | h'
 ·exact h y h'
 ·rw [h']; exact hx
structure GJ (G:Glob) (A:Around) (env:Env) (X0:Wd) (n0:Nat) (href:Heap) (fp:List Addr) (ag g:Nat) (rest:List V) (X:Wd) (σ:St) (s:Shared) (vals:List Value) (ex:List Addr) (gs:GenState):Prop where
 W:RepVs X σ.nx rest vals
 R:Rel (G.pv (·=s.gens) (f6 G (ag::(ex++fp)) s.heap)) X env σ s
 L:X0.le n0 X
 n:n0≤σ.nx
 ig:s.heap.IsGen ag g
 hgs:s.gens[g]?=some gs
 rd:ie (model G.prog G.w) A.in1 fp vals ex s.heap gs
 there:∀ b∈ag::(ex++fp),∃ o,s.heap.get? b=some o
 agex:ag ∉ ex
 bare:AllBare s.gens
 hfp:∀ b∈fp,b ∉ ex∧∃ o,href.get? b=some o∧s.heap.get? b=some o
 ap:∀ b∈ag::(ex++fp),G.Hp b=none
theorem l8 {pl:List Addr} {h:Heap} (there:∀ b∈pl,∃ o,h.get? b=some o) {b:Addr} (e:f6 G pl h b=none):b ∉ pl:=fun q=>by
 unfold f6 at e
 rw [QI q] at e
 obtain ⟨o,z⟩:=there b q
 rw [z] at e; cases e
set_option tactic.hygienic true in
theorem gy {pl:List Addr} {h:Heap} {b:Addr} {o:Obj} (e:f6 G pl h b=some o):(b∈pl∧h.get? b=some o)∨(b ∉ pl∧G.Hp b=some o):=by
 unfold f6 at e
 split at e
 ·rename_i q; exact .inl ⟨q,e⟩
 ·rename_i q; exact .inr ⟨q,e⟩
theorem iM {pl:List Addr} {h:Heap} (there:∀ b∈pl,∃ o,h.get? b=some o) {b:Addr} (q:b∈pl):∃ o,f6 G pl h b=some o:=by
 unfold f6
 rw [QI q]; exact there b q
theorem f7 {pl:List Addr} {h:Heap} (ap:∀ b∈pl,G.Hp b=none) {b:Addr} {o:Obj} (q:G.Hp b=some o):f6 G pl h b=some o∧b ∉ pl:=by
 have:b ∉ pl:=fun w=>by rw [ap b w] at q; cases q
 unfold f6
 rw [QH this]; exact ⟨q,this⟩
theorem Mz {ag:Addr} {ex fp:List Addr} {P:Addr→Prop} (h1:P ag) (h2:∀ b∈ex,P b) (h3:∀ b∈fp,P b):∀ b∈ag::(ex++fp),P b:=List.forall_mem_cons.mpr ⟨h1,fun b hb=>(List.mem_append.mp hb).elim (h2 b) (h3 b)⟩
theorem q9 {M:Model} {fp:List Addr} {vs:List Value} {ex:List Addr} {h h':Heap} {gs:GenState} (k:∀ b∈ex++fp,∀ o,h.get? b=some o→h'.get? b=some o) (r:ie M A fp vs ex h gs):ie M A fp vs ex h' gs:=by
 rw [fq] at r ⊢
 intro s hs
 exact r s fun b hb o e=>hs b hb o (k b hb o e)
theorem jv {gn gn':Array GenState→Prop} {hp hp':Addr→Option Obj} (R:Rel ((G.pv gn hp).pv gn' hp') X env σ s):Rel (G.pv gn' hp') X env σ s:=by
 obtain ⟨h1,h2,h3,h4,hb,h5,h6,h7,h8,h9,h10,h11⟩:=R
 exact ⟨h1,h2,h3,h4,hb,fun l o e=>⟨(h5 l o e).1,((h5 l o e).2.vp.vp).pv⟩,h6,h7.vp.vp.pv,h8,h9,h10,h11⟩
inductive GenEnds (G:Glob) (X0:Wd) (env:Env) (n0:Nat) (href:Heap) (fp:List Addr) (Q:Fl→St→Prop) (f:Flow) (s':Shared):Prop
 | mk (fl:Fl) (σ':St) (X':Wd) (gn:Array GenState→Prop) (hp:Addr→Option Obj) (q:Q fl σ') (L:X0.le n0 X') (hn:n0≤σ'.nx) (R:Rel (G.pv gn hp) X' env σ' s') (W:RepF X' σ'.nx fl f) (bare:AllBare s'.gens) (hfp:∀ b∈fp,∃ o,href.get? b=some o∧hp b=some o) (hG:∀ a o,G.Hp a=some o→hp a=some o)
inductive GenAt (G:Glob) (A:Around) (env:Env) (X0:Wd) (n0:Nat) (href:Heap) (fp:List Addr) (ag g:Nat) (dt:DT) (db:DS) (Q:Fl→St→Prop) (k:Nat) (s:Shared):Prop
 | mk (rest:List V) (σ:St) (X:Wd) (vals:List Value) (ex:List Addr) (gs:GenState) (e:k=rest.length) (hl:qH dt db rest σ Q) (J:GJ G A env X0 n0 href fp ag g rest X σ s vals ex gs)
theorem qI {ag g:Nat} {fp:List Addr} {href:Heap} {target:PySem.Expr} {body:List PySem.Stmt} {dt:DT} {db:DS} {R':Result→Shared→Prop} {Q:Fl→St→Prop} (ok:G.Ok)
  (ha:AOk lv A) (he:EOk sc env) (ht:∀ gn hp,ST (G.pv gn hp) lv sc target dt) (hb:∀ gn hp,i8 (G.pv gn hp) lv sc body db)
  (hQ:∀ f s',GenEnds G X0 env n0 href fp Q f s'→R' (.ok f) s') :
  ∀ (rest:List V) (σ:St) (X:Wd) (s:Shared) (vals:List Value) (ex:List Addr) (gs:GenState),qH dt db rest σ Q→GJ G A env X0 n0 href fp ag g rest X σ s vals ex gs →
   codeAny (model G.prog G.w) A (.forLoop target (.ref ag) body [] env) R' s:=by
 intro rest σ X s vals ex gs hl J
 refine codeAny_forLoop_any (GenAt G A env X0 n0 href fp ag g dt db Q) ?_ rest.length ⟨rest,σ,X,vals,ex,gs,rfl,hl,J⟩
 rintro k s ⟨rest,σ,X,vals,ex,gs,rfl,hl,J⟩
 apply bc;intro z_
 obtain ⟨W,R,L,hn,ig,hgs,rd,there,agex,bare,hfp,ap⟩:=J
 apply z_;clear z_
 have hG:∀ a o,G.Hp a=some o→s.heap.get? a=some o∧a ∉ ex:=fun a o q=>⟨(R.hp a o (f7 ap q).1).1,fun w=>(f7 (h:=s.heap) ap q).2 (QE _ (QV _ w))⟩
 have hR:=(fq.mp rd) (s.setGen g .running) (fun b hb o e=>e)
 refine xh ha.handled (R.nolimit (ok.pv _ _)) (by have:=ha.depth; omega) ig hgs hR ?hPhi ?hY ?hP
 case hPhi=>
  intro e s1 h
  cases vals with
  | nil=>exact .inl h.1
  | cons v r=>
   apply bc;intro z_
   obtain ⟨_,l,k,c,p,fs,ex',rfl,hq,_⟩:=h
   apply z_;clear z_
   exact .inr ⟨v,l,k,c,p,fs,rfl,hq⟩
 case hP=>
  intro s1 h h' hk
  cases vals with
  | cons v r=>obtain ⟨_,l,k,c,p,fs,ex',e,_⟩:=h; cases e
  | nil=>
   cases W
   apply bc;intro z_
   obtain ⟨_,kp⟩:=h
   apply z_;clear z_
   refine wpAny_execs_nil (hQ _ _ ?_)
   have R2:=R.priv (s':={s1.setGen g .finished with heap:=h'}) (gn':=AllBare) (hp':=f6 G fp h') (st':=σ.st)
    (fun b hb o e=>hk _ _ (kp.heap b (fun q=>l8 there hb (QE _ (QV _ q))) o e)) kp.os kp.drawn
    (by show AllBare (s1.gens.setIfInBounds g .finished); rw [kp.gens]; exact (bare.set rfl).set rfl) (fun _ _ e=>e)
    (fun a o e=>(gy e).elim (fun q=>⟨q.2,.inl (iM there (QE _ (QW _ q.1)))⟩) fun q=>⟨hk _ _ (kp.heap a (hG a o q.2).2 o (hG a o q.2).1),.inl ⟨_,(f7 ap q.2).1⟩⟩)
   refine ⟨.next,σ,X,_,_,hl,L,hn,jv R2,.next,?_,fun b hb=>?_,fun a o q=>(f7 (fun b hb=>ap b (QE _ (QW _ hb))) q).1⟩
   ·show AllBare (s1.gens.setIfInBounds g .finished); rw [kp.gens]; exact (bare.set rfl).set rfl
   ·apply bc;intro z_
    obtain ⟨q,o,e1,e2⟩:=hfp b hb
    apply z_;clear z_
    refine ⟨o,e1,?_⟩
    unfold f6
    rw [QI hb]
    exact hk _ _ (kp.heap b q o e2)
 case hY=>
  intro v l k0 c p fs s1 h
  cases vals with
  | nil=>cases h.1
  | cons v' r=>
   apply bc;intro z_
   obtain ⟨kp,l',k',c',p',fs',ex',e,hq,hex,hth,hrd⟩:=h
   apply z_;clear z_
   cases e
   cases W with
   | @cons va _ rs _ Wv Wr=>
   have hgn:(s1.setGen g (End.susp v false l k0 c p fs).genState).gens=s1.gens.setIfInBounds g (End.susp v false l k0 c p fs).genState:=rfl
   have b1:AllBare (s1.setGen g (End.susp v false l k0 c p fs).genState).gens:=by
    rw [hgn,kp.gens]
    exact (bare.set rfl).set (End.bare_of_quiet hq)
   have hfp':∀ b∈fp,b ∉ ex'∧∃ o,href.get? b=some o∧s1.heap.get? b=some o:=fun b hb=>by
    apply bc;intro z_
    obtain ⟨q,o,e1,e2⟩:=hfp b hb
    apply z_;clear z_
    refine ⟨fun w=>(hex b w).elim q fun z=>?_,o,e1,kp.heap b q o e2⟩
    have z:s.heap.get? b=none:=z
    rw [e2] at z; cases z
   have iga:∃ o,s.heap.get? ag=some o:=there ag (QL ..)
   have ig1:s1.heap.IsGen ag g:=by
    apply bc;intro z_
    obtain ⟨o,nm,qn,ho,r⟩:=ig
    apply z_;clear z_
    exact ⟨o,nm,qn,kp.heap ag agex o ho,r⟩
   have agex':ag ∉ ex':=fun w=>(hex ag w).elim agex fun z=>by
    apply bc;intro z_
    obtain ⟨o,e⟩:=iga
    apply z_;clear z_
    have z:s.heap.get? ag=none:=z
    rw [e] at z; cases z
   have there1:∀ b∈ag::(ex'++fp),∃ o,s1.heap.get? b=some o:=Mz (let ⟨o,_,_,ho,_⟩:=ig1; ⟨o,ho⟩) hth fun b hb=>let ⟨_,o,_,e2⟩:=hfp' b hb; ⟨o,e2⟩
   have R2:=jv (R.priv (s':=s1.setGen g (End.susp v false l k0 c p fs).genState) (gn':=(·=(s1.setGen g (End.susp v false l k0 c p fs).genState).gens)) (hp':=f6 G (ag::(ex'++fp)) s1.heap) (st':=σ.st)
    (fun b hb o e=>kp.heap b (fun q=>l8 there hb (QE _ (QV _ q))) o e) kp.os kp.drawn rfl (fun _ _ e=>e)
    (fun a o e=>(gy e).elim (fun q=>⟨q.2,by
     rcases List.mem_cons.mp q.1 with rfl | w
     ·exact .inl (iM there (QL ..))
     ·rcases List.mem_append.mp w with w | w
      ·rcases hex a w with w | w
       ·exact .inl (iM there (QE _ (QV _ w)))
       ·exact .inr (.inl w)
      ·exact .inl (iM there (QE _ (QW _ w)))⟩) fun q=>⟨kp.heap a (hG a o q.2).2 o (hG a o q.2).1,.inl ⟨_,(f7 ap q.2).1⟩⟩))
   have ap1:∀ b∈ag::(ex'++fp),G.Hp b=none:=Mz (ap _ (QL ..)) (fun b w=>(hex b w).elim (fun w=>ap b (QE _ (QV _ w))) fun (z:s.heap.get? b=none)=>by
     cases q:G.Hp b with
     | none=>rfl
     | some o=>rw [(hG b o q).1] at z; cases z) fun b w=>ap b (QE _ (QW _ w))
   apply bc;intro z_
   obtain ⟨og,nm,qn,hog,hcg,_⟩:=id ig1
   apply z_;clear z_
   dsimp only
   refine Qv (oM (s:=s1.setGen g (End.susp v false l k0 c p fs).genState) (Q:=fun _ s''=>s''=s1.setGen g (End.susp v false l k0 c p fs).genState) (G:=G) hog hcg rfl rfl) (fun _ s2 e=>?_) fun _ _ z=>z.elim
   subst e
   unfold qH at hl
   refine Qv (ht (·=(s1.setGen g (End.susp v false l k0 c p fs).genState).gens) (f6 G (ag::(ex'++fp)) s1.heap) va σ _ hl A env X _ v ha he R2 Wv) (fun _ s2 y_=>?_) fun _ _ z=>z.elim
   apply bc;intro z_
   obtain ⟨σ2,X2,q2,L2,n2,R2'⟩:=y_
   apply z_;clear z_
   refine Qv (hb (·=(s1.setGen g (End.susp v false l k0 c p fs).genState).gens) (f6 G (ag::(ex'++fp)) s1.heap) σ2 _ q2 A env X2 s2 ha he R2') (fun f s3 y_=>?_) fun _ _ z=>z.elim
   apply bc;intro z_
   obtain ⟨fl,σ3,X3,q3,L3,n3,R3,W3⟩:=y_
   apply z_;clear z_
   have keep3:∀ b∈ag::(ex'++fp),∀ o,s1.heap.get? b=some o→s3.heap.get? b=some o:=fun b hb o e=>(R3.hp b o (by show f6 _ _ _ _=_; unfold f6; rw [QI hb]; exact e)).1
   have L23:=L2.trans L3 n2
   have n23:=QC n2 n3
   have g3:s3.gens=s1.gens.setIfInBounds g (End.susp v false l k0 c p fs).genState:=R3.gens
   have go:qH dt db rs σ3 Q→∃ m,m<(va::rs).length∧GenAt G A env X0 n0 href fp ag g dt db Q m s3:=fun q=>by
    refine ⟨rs.length,QK _,rs,σ3,X3,r,ex',_,rfl,q,⟨Wr.mono L23 n23,?_,L.trans L23 hn,QC hn n23,?_,?_,q9 (fun b hb o e=>keep3 b (QE _ hb) o e) hrd,fun b hb=>?_,agex',?_,fun b hb=>?_,ap1⟩⟩
    ·exact jv (R3.priv (s':=s3) (st':=σ3.st) (fun _ _ _ e=>e) rfl rfl rfl (fun _ _ e=>e) fun a o e=>(gy e).elim (fun q=>⟨q.2,.inl (iM there1 q.1)⟩) fun q=>⟨(R3.hp a o (f7 ap1 q.2).1).1,.inl ⟨_,(f7 ap1 q.2).1⟩⟩)
    ·apply bc;intro z_
     obtain ⟨o,nm,qn,ho,r⟩:=ig1
     apply z_;clear z_
     exact ⟨o,nm,qn,keep3 _ (QL ..) o ho,r⟩
    ·rw [g3,kp.gens]
     have hlt:g<s.gens.size:=by
      rcases Nat.lt_or_ge g s.gens.size with z | z
      ·exact z
      ·rw [Array.getElem?_eq_none z] at hgs; cases hgs
     have:g<(s.setGen g .running).gens.size:=by show g<(s.gens.setIfInBounds g _).size; simpa using hlt
     simp [this]
    ·obtain ⟨o,e⟩:=there1 b hb; exact ⟨o,keep3 b hb o e⟩
    ·rw [g3]; exact b1
    ·apply bc;intro z_
     obtain ⟨q,o,e1,e2⟩:=hfp' b hb
     apply z_;clear z_
     exact ⟨q,o,e1,keep3 b (QE _ (QW _ hb)) o e2⟩
   have out:∀ {fl:Fl} {f:Flow},Q fl σ3→RepF X3 σ3.nx fl f→GenEnds G X0 env n0 href fp Q f s3:=fun q w=>by
    refine ⟨_,σ3,X3,_,_,q,L.trans L23 hn,QC hn n23,R3,w,?_,fun b hb=>?_,fun a o q=>(f7 ap1 q).1⟩
    ·rw [g3]; exact b1
    ·apply bc;intro z_
     obtain ⟨_,o,e1,e2⟩:=hfp' b hb
     apply z_;clear z_
     refine ⟨o,e1,?_⟩
     unfold f6
     rw [QI (QE _ (QW _ hb))]; exact e2
   cases W3 with
   | next=>exact go q3
   | cont=>exact go q3
   | brk=>exact hQ _ _ (out q3 .next)
   | ret v val W=>exact hQ _ _ (out q3 (.ret v val W))
structure GenFn (G:Glob) (f:Addr) (fd:FuncData) (x0 xn xr xs:Str) (p1 p2 p3 p4 p5 p6 p7 p8 p9 p10:Pos):Prop where
 at_:∃ o,G.K.lookup f=some o∧o.data=.func fd
 body:fd.body=.stmts (m6 xn xr xs p1 p2 p3 p4 p5 p6 p7 p8 p9 p10)
 clo:fd.closure=[]
 gl:fd.globals=mainGlobals
 bi:fd.builtins=builtinsNs
 co:fd.scope.isCoroutine=false
 gen:fd.scope.isGenerator=true
 kind:fd.scope.kind=.function
 code:∃ c oc vs t,fd.code=.ref c∧G.K.lookup c=some oc∧oc.data=.fields vs∧vs[1]?=some (.str fd.qualname t)
 k0:fd.scope.names.lookup x0=some .local
 kn:fd.scope.names.lookup xn=some .local
 kr:fd.scope.names.lookup xr=some .local
 ks:fd.scope.names.lookup xs=some .local
 dn:dc xn
 dr:dc xr
 ds:dc xs
 ne:[x0,xs,xr].Nodup
 bind:∀ h sv av,G.K.In h→Looks (model G.prog G.w) h (bindArgs fd ⟨[sv,av],[]⟩) [(x0,sv),(xs,av),(xr,.type "reversed")]
structure GenMade (G:Glob) (A:Around) (a:Addr) (s:Shared) (ag:Addr) (s':Shared) (gs:GenState) (L:Addr):Prop where
 keep:∀ b o,s.heap.get? b=some o→s'.heap.get? b=some o
 os:s'.os=s.os
 drawn:s'.drawn=s.drawn
 gens:s'.gens=s.gens.push gs
 agn:s.heap.get? ag=none
 Ln:s.heap.get? L=none
 Lag:L≠ag
 Lat:∃ o,s'.heap.get? L=some o
 ig:s'.heap.IsGen ag s.gens.size
 bare:gs.bare=true
 rd:∀ (ins:List rD) (fp:List Addr),Lists a ins s.heap→a∈fp→(∀ q∈ins,q.1∈fp)→(∀ b∈fp,∃ o,s.heap.get? b=some o)→(∀ q∈ins,q.2.length≤1000)→ie (model G.prog G.w) A.in1 fp (dp ins.reverse) [L] s'.heap gs
theorem ww {f:Addr} {fd:FuncData} {x0 xn xr xs:Str} {p1 p2 p3 p4 p5 p6 p7 p8 p9 p10:Pos} {sv:Value} {a:Addr} (ok:G.Ok) (F:GenFn G f fd x0 xn xr xs p1 p2 p3 p4 p5 p6 p7 p8 p9 p10) (ha:AOk lv A) (R:Rel G X env σ s) (A':Around) (hA':A'.handled=none) :
  codeAny (model G.prog G.w) A (.call (.ref f) ⟨[sv,.ref a],[]⟩) (fun r s'=>∃ ag gs L,r=.ok (.ret (.ref ag))∧GenMade G A' a s ag s' gs L) s:=by
 apply bc;intro z_
 obtain ⟨⟨o,ho,hdat⟩,hbody,hclo,hgl,hbi,hco,hgen,hkd,⟨c,oc,cvs,t,hc1,hc2,hc3,hc4⟩,k0,kn,kr,ks,dn,dr,ds,ne,hb⟩:=F
 apply z_;clear z_
 have hroom:A.depth<recursionLimit:=by have:=ha.depth; omega
 refine codeAny_call_generator hroom (R.K ok _ _ ho) hdat hco hgen hbody ⟨c,oc,cvs,t,hc1,R.K ok _ _ hc2,hc3,hc4⟩ ?_
 refine (hb s.heap sv (.ref a) (R.K ok)).here ?_
 rw [hclo,hgl,hbi]
 refine wpAny_newFunctionEnv_cells hkd (fun p hp=>?_) fun env' he' s2 x=>?_
 ·simp only [List.mem_cons,List.not_mem_nil,or_false] at hp
  rcases hp with rfl | rfl | rfl
  ·exact .inl k0
  ·exact .inl ks
  ·exact .inl kr
 ·apply bc;intro z_
  obtain ⟨⟨hsame,hns,hkeep,hfresh⟩,hcell,hapart,habove⟩:=x
  apply z_;clear z_
  have hE:∀ x,env'.kindOf x=fd.scope.names.lookup x:=fun x=>by rw [he']; rfl
  have hm0:bindL env'.kindOf [(x0,sv),(xs,.ref a),(xr,.type "reversed")] (fun _=>none) xs=some (.ref a):=ff (by rw [hE]; exact ks) (by simpa using ne) (by simp)
  have hm1:bindL env'.kindOf [(x0,sv),(xs,.ref a),(xr,.type "reversed")] (fun _=>none) xr=some (.type "reversed"):=ff (by rw [hE]; exact kr) (by simpa using ne) (by simp)
  have h2L:∃ o,s2.heap.get? env'.locals=some o:=let ⟨o,_,_,ho,_⟩:=hns; ⟨o,ho⟩
  have Ln:s.heap.get? env'.locals=none:=by
   cases q:s.heap.get? env'.locals with
   | none=>rfl
   | some o=>exact absurd (QO q) (QT hfresh)
  refine ⟨(R.nolimit ok).keeps hkeep,_,.fresh (.func (m6 xn xr xs p1 p2 p3 p4 p5 p6 p7 p8 p9 p10) env'),env'.locals,rfl,?_⟩
  apply bc;intro z_
  obtain ⟨h2,tk2,rfl⟩:=hsame
  apply z_;clear z_
  have k2:∀ b o,s.heap.get? b=some o→(h2.push {cls:=.type "generator",data:=.fields #[.int s.gens.size 0,.str fd.name tk2,.str fd.qualname (tk2+1)]}).get? b=some o:=fun b o e=>QB _ (hkeep b o e)
  refine ⟨k2,rfl,rfl,rfl,?_,Ln,?_,?_,⟨_,_,_,QG _ rfl,rfl,rfl,rfl⟩,rfl,?_⟩
  ·cases q:s.heap.get? h2.objs.size with
   | none=>rfl
   | some o=>have:=hkeep _ _ q; rw [aH] at this; cases this
  ·intro w
   apply bc;intro z_
   obtain ⟨o,e⟩:=h2L
   apply z_;clear z_
   rw [w] at e
   have:h2.get? h2.objs.size=some o:=e
   rw [aH] at this; cases this
  ·apply bc;intro z_
   obtain ⟨o,e⟩:=h2L
   apply z_;clear z_
   exact ⟨o,QB _ e⟩
  ·intro ins fp hl hfa hfi hex hsz
   refine to (env:=env') (L:=env'.locals) (a:=a) (ins:=ins) (m:=bindL env'.kindOf [(x0,sv),(xs,.ref a),(xr,.type "reversed")] (fun _=>none)) hA' rfl (by rw [he']; exact hkd) (by rw [hE]; exact kn) (by rw [hE]; exact kr) (by rw [hE]; exact ks) dn dr ds ?_ (by rfl) (fun _=>by rfl) (fun _=>by rfl) (fun _=>by rfl) ?_ hm1 hm0 (hl.at fun b _ o e=>k2 b o e) hfa hfi (fun b hb w=>?_) (fun b hb=>?_) hsz
   ·unfold interactive
    rw [show env'.scope.kind=.function from by rw [he']; exact hkd]; rfl
   ·apply bc;intro z_
    obtain ⟨o,es,ep,ho,r⟩:=hns
    apply z_;clear z_
    exact ⟨o,es,ep,QB _ ho,r⟩
   ·apply bc;intro z_
    obtain ⟨o,e⟩:=hex b hb
    apply z_;clear z_
    rw [w,Ln] at e; cases e
   ·apply bc;intro z_
    obtain ⟨o,e⟩:=hex b hb
    apply z_;clear z_
    exact ⟨o,k2 b o e⟩
noncomputable def ti:List (Nat×AO)→List (Nat×AO)→List (Nat×AO)
 | [],st=>st
 | (l,_)::r,st=>vQ l (ti r st)
theorem jj {k:Nat} {o:AO}:∀ {ks st:List (Nat×AO)},aj k (ti ks st)=some o→aj k st=some o∧aj k ks=none
 | [],st,h=>⟨h,rfl⟩
 | (l,a)::r,st,h=>by
  unfold ti at h
  rw [iP] at h
  by_cases q:k=l
  ·rw [QI q] at h; cases h
  ·rw [QH q] at h
   obtain ⟨h1,h2⟩:=jj h
   exact ⟨h1,by rw [am,QH q]; exact h2⟩
noncomputable def Fr:List V→List (Nat×AO)→(List V→List (Nat×AO)→Prop)→Prop
 | [],_,K=>K [] []
 | v::r,st,K=>iT v fun l=>onS (eA l ⟨[],st,0⟩) fun ws=>onT (Nat.ble ws.length 1000) (Fr r st fun flat ks=>K (flat++ws) ((l,.list ws)::ks))
theorem tj {a b:List rD}:dp (a++b)=dp a++dp b:=by
 induction a with
 | nil=>rfl
 | cons p r ih=>show p.2++dp (r++b)=(p.2++dp r)++dp b; rw [ih,List.append_assoc]
inductive InnIs (X:Wd) (n:Nat) (h:Heap) (st:List (Nat×AO)) (ovals:List Value) (K:List V→List (Nat×AO)→Prop):Prop
 | mk (flat:List V) (ks:List (Nat×AO)) (ins:List rD) (k:K flat ks) (e:ovals=ins.map (fun p:rD=>Value.ref p.1)) (h1:∀ p∈ins,h.IsList p.1 p.2.toArray∧p.2.length≤1000) (h2:RepVs X n flat (dp ins.reverse)) (h3:∀ l o,aj l ks=some o→aj l st=some o)
  (h4:∀ p∈ins,∃ l o,aj l ks=some o∧X.ρ l=p.1) (h5:∀ l o,aj l ks=some o→∃ p∈ins,X.ρ l=p.1)
theorem AQ {h:Heap} {st:List (Nat×AO)} (hst:∀ l o,aj l st=some o→RepO G X n h (X.ρ l) o) {lv:List V}:∀ {ovals:List Value} {K:List V→List (Nat×AO)→Prop},Fr lv st K→RepVs X n lv ovals→InnIs X n h st ovals K:=by
 induction lv with
 | nil=>intro ovals K hd W; cases W; exact ⟨[],[],[],hd,rfl,(fun _ h=>nomatch h),.nil,(fun _ _ h=>nomatch h),(fun _ h=>nomatch h),(fun _ _ h=>nomatch h)⟩
 | cons v r ih=>
  intro ovals K hd W
  cases W with
  | @cons _ val _ vals' W1 W2=>
  cases v with
  | loc l=>
   apply bc;intro z_
   obtain ⟨ws,hl,hd⟩:=onS.out hd
   have hl:aj l st=some (.list ws):=bS hl
   obtain ⟨hz,hd⟩:=onT.out hd
   obtain ⟨flat,ks,ins,k,rfl,h1,h2,h3,h4,h5⟩:=ih hd W2
   cases (W1.inv:val=.ref (X.ρ l))
   obtain ⟨o,vals,g1,g2,g3⟩:=hst l _ hl
   apply z_;clear z_
   refine ⟨_,_,(X.ρ l,vals)::ins,k,rfl,List.forall_mem_cons.mpr ⟨⟨g2.isList g1,by rw [g3.length]; exact QD hz⟩,h1⟩,?_,fun k o e=>?_,List.forall_mem_cons.mpr ⟨⟨l,_,by rw [am,QI rfl],rfl⟩,fun p hp=>?_⟩,fun k o e=>?_⟩
   ·rw [List.reverse_cons,tj]
    exact h2.append (by show RepVs X n ws (vals++[]); rw [List.append_nil]; exact g3)
   ·rw [am] at e
    by_cases q:k=l
    ·rw [QI q] at e; cases e; rw [q]; exact hl
    ·rw [QH q] at e; exact h3 k o e
   ·apply bc;intro z_
    obtain ⟨k,o,e1,e2⟩:=h4 p hp
    apply z_;clear z_
    by_cases q:k=l
    ·exact ⟨l,_,by rw [am,QI rfl],q ▸ e2⟩
    ·exact ⟨k,o,by rw [am,QH q]; exact e1,e2⟩
   ·rw [am] at e
    by_cases q:k=l
    ·exact ⟨_,QL ..,by rw [q]⟩
    ·rw [QH q] at e
     apply bc;intro z_
     obtain ⟨p,hp,z⟩:=h5 k o e
     apply z_;clear z_
     exact ⟨p,QE _ hp,z⟩
  | _=>exact hd.elim
noncomputable def OP (dt:DT) (db:DS) (v:V) (σ:St) (Q:Fl→St→Prop):Prop:=iT v fun l=>onS (eA l σ) fun lv=>Fr lv σ.st fun flat ks=>qH dt db flat {σ with st:=ti ((l,.list lv)::ks) σ.st} fun fl σ3=>Q fl {σ3 with st:=((l,.list lv)::ks)++σ3.st}
theorem Li {target arg o:PySem.Expr} {name:Str} {ap cp p:Pos} {body:List PySem.Stmt} {do_ da:DE} {dt:DT} {db:DS} {C0 j:Nat} {f:Addr} {fd:FuncData} {x0 xn xr xs:Str} {p1 p2 p3 p4 p5 p6 p7 p8 p9 p10:Pos}
  (ok:G.Ok) (hGn:G.Gn=AllBare) (hC:ClsOk G.K C0) (hj:G.an[j]?=some name) (hf:findIn G.K (.ref C0) name=some (some (.ref f))) (hty:typeIn G.K (.ref f)=some (.type "function")) (F:GenFn G f fd x0 xn xr xs p1 p2 p3 p4 p5 p6 p7 p8 p9 p10)
  (ho:SE G lv sc o do_) (hA:SE G lv sc arg da) (hb:∀ env,attributeBase o name env (eval o env)=eval o env) (hl:(ap.endLine==cp.line)=true)
  (hfew:∀ env pos,methodCallForm 1 (backTo pos (starEach [arg] env)) (backToKw pos (keywordEach [] env))=true) (h1:∀ env pos,(backTo pos (starEach [arg] env)).any (·.1)=false) (hst:∀ env r,starEach (arg::r) env=(false,eval arg env)::starEach r env)
  (hs:∀ env x,foldedSetIterable (.Call (.Attribute o name ap) [arg] [] cp) env x=pure x)
  (ht:∀ gn hp,ST (G.pv gn hp) lv sc target dt) (hB:∀ gn hp,i8 (G.pv gn hp) lv sc body db) :
  SS G lv sc (.For target (.Call (.Attribute o name ap) [arg] [] cp) body [] p) (fun σ Q=>do_ σ fun ov σ1=>lG C0 ov σ1 fun _ at_=>noS (aj j at_) (da σ1 fun v σ2=>OP dt db v σ2 Q)):=fun σ Q hd A env X s ha he R=>by
 refine wpAny_For ?_ (hs env)
 rw [arm_eval_Call,hb]
 refine Qt (ho.run hd ha he R fun ov s0 v σ0 X0 k0 L0 n0 R0 W0=>Qt (Qx ?_))
 apply bc;intro z_
 obtain ⟨l0,a0,at_,od,m,rfl,hl0,rfl,hF,hk,I,g1,g2,g3,ho',hlk,k1⟩:=eT k0 R0 W0
 apply z_;clear z_
 obtain ⟨q,k1⟩:=noS.out k1
 ·have hsh:=g3 j name hj
  rw [q] at hsh
  have hpos:methodCallPos true o env ap cp=pure cp:=by unfold methodCallPos; simp [hl]
  unfold methodCall
  rw [show [arg].length+([]:List Keyword).length=1 from rfl,hfew]
  refine Qt (Qw (method_fn (R0.K ok) I hC.hga hC.hk hf hty (by unfold shadowIn; have:=hsh; dsimp only at this ⊢; rw [hlk,this]; rfl) ?_))
  refine Qt (Qy hpos ?_)
  refine b9 (h1 env _) (by rfl) ?_
  rw [hst]
  show wpAny _ _ (spliced ((false,eval arg env)::[])) _ _ _
  refine spliced_cons (hA.run k1 ha he R0 fun va s1 v σ1 X1 q1 L1 n1 R1 W1=>?_)
  refine spliced_nil (Qu ?_)
  refine ⟨fun Q' k=>?_,?_⟩
  ·apply bc;intro z_
   obtain ⟨⟨o,ho,hdat⟩,_⟩:=F
   apply z_;clear z_
   unfold keeperOf
   refine Qt (QA (R1.K ok _ _ ho) ?_)
   rw [hdat]
   exact Qu (k .frame (by decide))
  ·refine W1.loc_ q1 fun l q1=>?_
   apply bc;intro z_
   obtain ⟨lvs,hlk2,q1⟩:=onS.out q1
   apply z_;clear z_
   have hlk2:=bS hlk2
   ·apply bc;intro z_
    obtain ⟨hln,oo,ovals,ho1,ho2,ho3⟩:=R1.st l _ hlk2
    obtain ⟨flat,ks,ins,kk,e,hi1,hi2,hi3,hi4,hi5⟩:=AQ (h:=s1.heap) (X:=X1) (n:=σ1.nx) (fun l o e=>(R1.st l o e).2) q1 ho3
    apply z_;clear z_
    refine wpAny_call (codeAny_mono (ww (sv:=.ref a0) (a:=X1.ρ l) ok F ha R1 A ha.handled) fun r s2 y_=>?_)
    apply bc;intro z_
    obtain ⟨ag,gs,L,er,M⟩:=y_
    apply z_;clear z_
    subst er
    refine wpAny_pyIter_gen M.ig ?_
    have hLs:Lists (X1.ρ l) ins s1.heap:=⟨by
     have:=ho2.isList ho1
     rw [e] at this; exact this,fun p hp=>(hi1 p hp).1⟩
    have hfpx:∀ b∈X1.ρ l::ins.map (·.1),∃ k o,aj k ((l,AO.list lvs)::ks)=some o∧aj k σ1.st=some o∧X1.ρ k=b:=fun b hb=>by
     rcases List.mem_cons.mp hb with rfl | hb
     ·exact ⟨l,_,by rw [am,QI rfl],hlk2,rfl⟩
     ·apply bc;intro z_
      obtain ⟨p,hp,rfl⟩:=List.mem_map.mp hb
      obtain ⟨k,o,e1,e2⟩:=hi4 p hp
      apply z_;clear z_
      by_cases z:k=l
      ·exact ⟨l,_,by rw [am,QI rfl],hlk2,z ▸ e2⟩
      ·exact ⟨k,o,by rw [am,QH z]; exact e1,hi3 k o e1,e2⟩
    have hKS:∀ k o,aj k ((l,AO.list lvs)::ks)=some o→aj k σ1.st=some o∧X1.ρ k∈X1.ρ l::ins.map (·.1):=fun k o e=>by
     rw [am] at e
     by_cases z:k=l
     ·rw [QI z] at e; cases e; subst z; exact ⟨hlk2,QL ..⟩
     ·rw [QH z] at e
      apply bc;intro z_
      obtain ⟨p,hp,w⟩:=hi5 k o e
      apply z_;clear z_
      exact ⟨hi3 k o e,QE _ (List.mem_map.mpr ⟨p,hp,w.symm⟩)⟩
    have hfpe:∀ b∈X1.ρ l::ins.map (·.1),∃ o,s1.heap.get? b=some o:=fun b hb=>by
     apply bc;intro z_
     obtain ⟨k,o,_,e2,rfl⟩:=hfpx b hb
     apply z_;clear z_
     exact R1.there e2
    have there:∀ b∈ag::([L]++(X1.ρ l::ins.map (·.1))),∃ o,s2.heap.get? b=some o:=fun b hb=>by
     rcases List.mem_cons.mp hb with rfl | hb
     ·obtain ⟨o,_,_,ho,_⟩:=M.ig; exact ⟨o,ho⟩
     ·rcases List.mem_append.mp hb with hb | hb
      ·simp only [List.mem_cons,List.not_mem_nil,or_false] at hb
       subst hb; exact M.Lat
      ·obtain ⟨o,z⟩:=hfpe b hb; exact ⟨o,M.keep _ _ z⟩
    have nρ:∀ {k o},aj k σ1.st=some o→G.Hp (X1.ρ k)=none:=fun {k o} e=>by
     cases q:G.Hp (X1.ρ k) with
     | none=>rfl
     | some o'=>exact absurd rfl ((R1.hp _ o' q).2.2.1 k o e)
    have nN:∀ {b:Addr},s1.heap.get? b=none→G.Hp b=none:=fun {b} e=>by
     cases q:G.Hp b with
     | none=>rfl
     | some o'=>rw [(R1.hp _ o' q).1] at e; cases e
    have bare1:AllBare s1.gens:=by have:=R1.gens; rw [hGn] at this; exact this
    have bare2:AllBare s2.gens:=by
     rw [M.gens]
     intro x hx
     rcases Array.mem_push.mp hx with hx | hx
     ·exact bare1 x hx
     ·rw [hx]; exact M.bare
    refine qI (A:=A) (G:=G) (X0:=X1) (n0:=σ1.nx) (ag:=ag) (g:=s1.gens.size) (fp:=X1.ρ l::ins.map (·.1)) (href:=s1.heap) ok ha he ht hB (Q:=fun fl σ3=>Q fl {σ3 with st:=((l,.list lvs)::ks)++σ3.st}) (fun f s3 hE=>?_) flat {σ1 with st:=ti ((l,.list lvs)::ks) σ1.st} X1 s2 (dp ins.reverse) [L] gs kk ?_
    ·apply bc;intro z_
     obtain ⟨fl,σ3,X3,gn,hp,q3,L3,n3,R3,W3,b3,f3,hh3⟩:=hE
     apply z_;clear z_
     refine ⟨fl,_,X3,q3,(L0.trans L1 n0).trans L3 (QC n0 n1),QC (QC n0 n1) n3,R3.shows hh3 (by rw [hGn]; exact b3) (fun k o e=>?_) (fun k k' o o' e e' w=>?_),W3⟩
     ·apply bc;intro z_
      obtain ⟨z1,z2⟩:=hKS k o e
      obtain ⟨z3,z4⟩:=R1.st k o z1
      have hρ:X3.ρ k=X1.ρ k:=L3.ρ k z3
      obtain ⟨ob,y1,y2⟩:=f3 _ z2
      apply z_;clear z_
      rw [hρ]
      exact ⟨QZ z3 n3,z4.go L3 n3 (((R3.hp _ ob y2).1).trans y1.symm),⟨ob,y2⟩,R1.big k o z1,nρ z1⟩
     ·apply bc;intro z_
      obtain ⟨z1,_⟩:=hKS k o e
      obtain ⟨z1',_⟩:=hKS k' o' e'
      apply z_;clear z_
      rw [L3.ρ k (R1.st k o z1).1,L3.ρ k' (R1.st k' o' z1').1] at w
      exact R1.inj _ _ _ _ z1 z1' w
    ·refine ⟨hi2,?_,.refl,QF _,M.ig,?_,M.rd ins _ hLs (QL ..) (fun p hp=>QE _ (List.mem_map.mpr ⟨p,hp,rfl⟩)) hfpe (fun p hp=>(hi1 p hp).2),there,?_,bare2,fun b hb=>?_,fun b hb=>?_⟩
     ·refine R1.priv (st':=ti ((l,.list lvs)::ks) σ1.st) (fun b _ o e=>M.keep b o e) M.os M.drawn rfl (fun k o e=>(jj e).1) fun b o e=>(gy e).elim (fun q=>⟨q.2,?_⟩) fun q=>⟨M.keep _ _ (R1.hp b o q.2).1,.inl ⟨_,q.2⟩⟩
      rcases List.mem_cons.mp q.1 with rfl | hb
      ·exact .inr (.inl M.agn)
      ·rcases List.mem_append.mp hb with hb | hb
       ·simp only [List.mem_cons,List.not_mem_nil,or_false] at hb
        subst hb; exact .inr (.inl M.Ln)
       ·apply bc;intro z_
        obtain ⟨k,o,e1,e2,rfl⟩:=hfpx b hb
        apply z_;clear z_
        refine .inr (.inr ⟨k,o,e2,rfl,fun o'' e3=>?_⟩)
        have:=(jj e3).2
        rw [e1] at this; cases this
     ·rw [M.gens]; simp
     ·intro w
      simp only [List.mem_cons,List.not_mem_nil,or_false] at w
      exact M.Lag w.symm
     ·apply bc;intro z_
      obtain ⟨o,z⟩:=hfpe b hb
      apply z_;clear z_
      refine ⟨fun w=>?_,o,z,M.keep _ _ z⟩
      simp only [List.mem_cons,List.not_mem_nil,or_false] at w
      rw [w,M.Ln] at z; cases z
     ·rcases List.mem_cons.mp hb with rfl | hb
      ·exact nN M.agn
      ·rcases List.mem_append.mp hb with hb | hb
       ·simp only [List.mem_cons,List.not_mem_nil,or_false] at hb
        subst hb; exact nN M.Ln
       ·apply bc;intro z_
        obtain ⟨k,o,e1,e2,rfl⟩:=hfpx b hb
        apply z_;clear z_
        exact nρ e2
open Classical in
set_option tactic.hygienic true in
theorem FN.mono {f:Addr} {ks:List Str} {D D':List V→List V→DE} (h:FN G lv f ks D) (m:∀ vs kvs σ Q,D' vs kvs σ Q→D vs kvs σ Q):FN G lv f ks D':=
 ⟨h.1,fun vs kvs σ Q hd=>h.2 vs kvs σ Q (m vs kvs σ Q hd)⟩
set_option tactic.hygienic true in
noncomputable abbrev Mp:=List (Nat×Nat)
noncomputable def C1 (n0:Nat) (mp:Mp):Nat:=@List.rec (Nat×Nat) (fun _=>Nat) n0 (fun p _ _=>Nat.succ p.2) mp
noncomputable def lD (n0 l:Nat) (mp:Mp):Mp:=@Bool.rec (fun _=>Mp) (@Option.rec Nat (fun _=>Mp) ((l,C1 n0 mp)::mp) (fun _=>mp) (aj l mp)) mp (Nat.ble (Nat.succ l) n0)
noncomputable def fD (n0:Nat) (mp:Mp) (l:Nat):Option Nat:=@Bool.rec (fun _=>Option Nat) (aj l mp) (some l) (Nat.ble (Nat.succ l) n0)
noncomputable def A0 (n0:Nat) (v:V):Mp→Mp:=@V.rec (fun _=>Mp→Mp) (fun _=>Mp→Mp) id (fun _=>id) (fun _=>id) (fun _=>id) (fun _=>id) (fun _=>id) (fun _=>id) (fun l=>lD n0 l) (fun _ l=>lD n0 l) (fun _ ih=>ih) (fun _ ih=>ih) (fun l=>lD n0 l) (fun _ _ l=>lD n0 l) id (fun _ _ ih=>ih) id (fun _ _ a b mp=>b (a mp)) v
noncomputable def CX (n0:Nat) (vs:List V):Mp→Mp:=@List.rec V (fun _=>Mp→Mp) id (fun v _ b mp=>b (A0 n0 v mp)) vs
noncomputable def AZ {α:Type} (n0:Nat) (vs:List (α×V)):Mp→Mp:=@List.rec (α×V) (fun _=>Mp→Mp) id (fun v _ b mp=>b (A0 n0 v.2 mp)) vs
noncomputable def Fx (n0:Nat) (o:AO):Mp→Mp:=@AO.rec (fun _=>Mp→Mp) (fun vs=>CX n0 vs) (fun at_=>AZ n0 at_) (fun kvs=>AZ n0 kvs) (fun _=>id) id (fun _=>id) (fun _=>id) id o
noncomputable def Fy (n0:Nat) (st:List (Nat×AO)):Mp→Mp:=@List.rec (Nat×AO) (fun _=>Mp→Mp) id (fun p _ b mp=>b (@Bool.rec (fun _=>Mp) mp (Fx n0 p.2 mp) (Nat.ble (Nat.succ p.1) n0))) st
noncomputable def rc (f:Nat→Option Nat) (v:V):V:=@V.rec (fun _=>V) (fun _=>List V) .non .boo .int .str .byt .ty .gl (fun l=>@Option.rec Nat (fun _=>V) .junk .loc (f l)) (fun C l=>@Option.rec Nat (fun _=>V) .junk (.obj C) (f l)) (fun _ ih=>.tup ih) (fun _ ih=>.fro ih)
 (fun l=>@Option.rec Nat (fun _=>V) .junk .bm (f l)) (fun fn C l=>@Option.rec Nat (fun _=>V) .junk (.pm fn C) (f l)) .junk (fun C _ ih=>.fob C ih) [] (fun _ _ a b=>a::b) v
noncomputable def pq (f:Nat→Option Nat) (vs:List V):List V:=@List.rec V (fun _=>List V) [] (fun v _ b=>rc f v::b) vs
theorem gF {f:Nat→Option Nat}:∀ {vs:List V},@V.rec_1 (fun _=>V) (fun _=>List V) .non .boo .int .str .byt .ty .gl (fun l=>@Option.rec Nat (fun _=>V) .junk .loc (f l)) (fun C l=>@Option.rec Nat (fun _=>V) .junk (.obj C) (f l)) (fun _ ih=>.tup ih) (fun _ ih=>.fro ih)
 (fun l=>@Option.rec Nat (fun _=>V) .junk .bm (f l)) (fun fn C l=>@Option.rec Nat (fun _=>V) .junk (.pm fn C) (f l)) .junk (fun C _ ih=>.fob C ih) [] (fun _ _ a b=>a::b) vs=pq f vs
 | []=>rfl
 | v::r=>congrArg (fun b=>rc f v::b) (gF (vs:=r))
noncomputable def pp {α:Type} (f:Nat→Option Nat) (vs:List (α×V)):List (α×V):=@List.rec (α×V) (fun _=>List (α×V)) [] (fun p _ b=>(p.1,rc f p.2)::b) vs
noncomputable def tU (f:Nat→Option Nat) (o:AO):AO:=@AO.rec (fun _=>AO) (fun vs=>.list (pq f vs)) (fun at_=>.ns (pp f at_)) (fun kvs=>.dict (pp f kvs)) .set .cold .set1 .wds .own o
noncomputable def tq (k:Nat) (o:AO) (l:List (Nat×AO)):List (Nat×AO):=@List.rec (Nat×AO) (fun _=>List (Nat×AO)) [(k,o)] (fun p r ih=>@Prod.rec Nat AO (fun _=>List (Nat×AO)) (fun j q=>@Bool.rec (fun _=>List (Nat×AO)) ((j,q)::ih) ((k,o)::(j,q)::r) (Nat.ble k j)) p) l
theorem mh {k m:Nat} {o:AO}:∀ {l:List (Nat×AO)},aj m (tq k o l)=if m=k then some o else aj m l
 | []=>am
 | (j,q)::r=>by
  show aj m (@Bool.rec (fun _=>List (Nat×AO)) ((j,q)::tq k o r) ((k,o)::(j,q)::r) (Nat.ble k j))=_
  cases e:Nat.ble k j with
  | true=>exact am
  | false=>
   show aj m ((j,q)::tq k o r)=_
   rw [am,am,mh]
   by_cases h:m=k
   ·subst h
    rw [QI rfl,QI rfl,QH]
    intro w; subst w; rw [QQ (QF _)] at e; cases e
   ·rw [QH h,QH h]
noncomputable def yh (f:Nat→Option Nat) (st:List (Nat×AO)):List (Nat×AO):=@List.rec (Nat×AO) (fun _=>List (Nat×AO)) [] (fun p _ b=>@Option.rec Nat (fun _=>List (Nat×AO)) b (fun k=>tq k (tU f p.2) b) (f p.1)) st
noncomputable def wr (n0:Nat) (σ:St):Mp:=Fy n0 σ.st (AZ n0 σ.lo [])
noncomputable def Fe (n0:Nat) (σ:St) (mp:Mp):St:=⟨pp (fD n0 mp) σ.lo,yh (fD n0 mp) σ.st,C1 n0 mp⟩
noncomputable def Ob (n0:Nat) (σ:St):St:=Fe n0 σ (wr n0 σ)
inductive MpOk (n0:Nat):Mp→Prop
 | nil:MpOk n0 []
 | cons {l:Nat} {r:Mp} (h:MpOk n0 r) (hl:n0≤l) (hn:aj l r=none):MpOk n0 ((l,C1 n0 r)::r)
theorem MpOk.ins {mp:Mp} (h:MpOk n0 mp) (l:Nat):MpOk n0 (lD n0 l mp):=by
 unfold lD
 cases q:Nat.ble (Nat.succ l) n0 with
 | true=>exact h
 | false=>
  show MpOk n0 (@Option.rec Nat (fun _=>Mp) _ _ (aj l mp))
  cases r:aj l mp with
  | some _=>exact h
  | none=>
   refine .cons h ?_ r
   rcases Nat.lt_or_ge l n0 with z | z
   ·have:=QQ (Nat.succ_le_of_lt z); rw [this] at q; cases q
   ·exact z
noncomputable abbrev ka (n0:Nat) (f:Mp→Mp):Prop:=∀ mp,MpOk n0 mp→MpOk n0 (f mp)
theorem r9 (v:V):ka n0 (A0 n0 v):=@V.rec (fun v=>ka n0 (A0 n0 v)) (fun vs=>ka n0 (@V.rec_1 (fun _=>Mp→Mp) (fun _=>Mp→Mp) id (fun _=>id) (fun _=>id) (fun _=>id) (fun _=>id) (fun _=>id) (fun _=>id) (fun l=>lD n0 l) (fun _ l=>lD n0 l) (fun _ ih=>ih) (fun _ ih=>ih) (fun l=>lD n0 l) (fun _ _ l=>lD n0 l) id (fun _ _ ih=>ih) id (fun _ _ a b mp=>b (a mp)) vs))
 (fun _ h=>h) (fun _ _ h=>h) (fun _ _ h=>h) (fun _ _ h=>h) (fun _ _ h=>h) (fun _ _ h=>h) (fun _ _ h=>h) (fun l _ h=>h.ins l) (fun _ l _ h=>h.ins l) (fun _ ih=>ih) (fun _ ih=>ih) (fun l _ h=>h.ins l) (fun _ _ l _ h=>h.ins l) (fun _ h=>h) (fun _ _ ih=>ih) (fun _ h=>h) (fun _ _ a b mp h=>b _ (a _ h)) v
theorem oQ:∀ (vs:List V),ka n0 (CX n0 vs)
 | [],_,h=>h
 | v::r,_,h=>oQ r _ (r9 v _ h)
theorem j1 {α:Type}:∀ (vs:List (α×V)),ka n0 (AZ n0 vs)
 | [],_,h=>h
 | v::r,_,h=>j1 r _ (r9 v.2 _ h)
theorem AS (o:AO):ka n0 (Fx n0 o):=by
 cases o with
 | list vs=>exact oQ vs
 | ns at_=>exact j1 at_
 | dict kvs=>exact j1 kvs
 | set _=>exact fun _ h=>h
 | cold=>exact fun _ h=>h
 | set1 _=>exact fun _ h=>h
 | wds _=>exact fun _ h=>h
 | own=>exact fun _ h=>h
theorem na:∀ (st:List (Nat×AO)),ka n0 (Fy n0 st)
 | [],_,h=>h
 | p::r,mp,h=>by
  show MpOk n0 (Fy n0 r (@Bool.rec (fun _=>Mp) mp (Fx n0 p.2 mp) (Nat.ble (Nat.succ p.1) n0)))
  cases Nat.ble (Nat.succ p.1) n0 with
  | true=>exact na r _ (AS p.2 _ h)
  | false=>exact na r _ h
theorem AK:MpOk n0 (wr n0 σ):=na _ _ (j1 _ _ .nil)
theorem MpOk.ge {mp:Mp} (h:MpOk n0 mp):n0≤C1 n0 mp:=by
 induction h with
 | nil=>exact QF _
 | cons h _ _ ih=>exact Nat.le_succ_of_le ih
set_option tactic.hygienic true in
theorem MpOk.out {mp:Mp} (h:MpOk n0 mp):∀ {l k:Nat},aj l mp=some k→n0≤l∧n0≤k∧k<C1 n0 mp:=by
 induction h with
 | nil=>intro l k e; cases e
 | cons h hl hn ih=>
  intro l k e
  rw [am] at e
  split at e
  ·rename_i q; cases e; subst q; exact ⟨hl,h.ge,QK _⟩
  ·obtain ⟨a,b,c⟩:=ih e
   exact ⟨a,b,Q4 c⟩
set_option tactic.hygienic true in
theorem lf {mp:Mp} {l k:Nat} (e:fD n0 mp l=some k):(l<n0∧k=l)∨(n0≤l∧aj l mp=some k):=by
 unfold fD at e
 cases q:Nat.ble (Nat.succ l) n0 with
 | true=>rw [q] at e; cases e; exact .inl ⟨QD q,rfl⟩
 | false=>
  rw [q] at e
  refine .inr ⟨?_,e⟩
  rcases Nat.lt_or_ge l n0 with z | z
  ·have:=QQ (Nat.succ_le_of_lt z); rw [this] at q; cases q
  ·exact z
theorem BS {mp:Mp} (h:MpOk n0 mp) {l k:Nat} (e:fD n0 mp l=some k):k<C1 n0 mp:=by
 rcases lf e with ⟨a,b⟩ | ⟨a,b⟩
 ·have:=h.ge; omega
 ·exact (h.out b).2.2
theorem jk {f:Nat→Option Nat} {i:Nat}:∀ {lo:List (Nat×V)},aj i (pp f lo)=(aj i lo).map (rc f)
 | []=>rfl
 | (j,v)::r=>by
  show aj i ((j,rc f v)::pp f r)=_
  rw [am,am,jk]
  split <;> rfl
set_option tactic.hygienic true in
theorem jl {mp:Mp} (h:MpOk n0 mp) {k:Nat} {o:AO}:∀ {st:List (Nat×AO)},aj k (yh (fD n0 mp) st)=some o→∃ l o',aj l st=some o'∧fD n0 mp l=some k∧o=tU (fD n0 mp) o'
 | [],e=>by cases e
 | (j,o0)::r,e=>by
  have e:aj k (@Option.rec Nat (fun _=>List (Nat×AO)) (yh (fD n0 mp) r) (fun k=>tq k (tU (fD n0 mp) o0) (yh (fD n0 mp) r)) (fD n0 mp j))=some o:=e
  cases q:fD n0 mp j with
  | none=>
   rw [q] at e
   apply bc;intro z_
   obtain ⟨l,o',h1,h2,h3⟩:=jl h e
   apply z_;clear z_
   refine ⟨l,o',?_,h2,h3⟩
   rw [am,QH]; exact h1
   intro w; rw [w,q] at h2; cases h2
  | some m=>
   rw [q] at e
   have e:aj k (tq m (tU (fD n0 mp) o0) (yh (fD n0 mp) r))=some o:=e
   rw [mh] at e
   split at e
   ·rename_i w; cases e
    exact ⟨j,o0,by rw [am,QI rfl],by rw [q,w],rfl⟩
   ·rename_i w
    apply bc;intro z_
    obtain ⟨l,o',h1,h2,h3⟩:=jl h e
    apply z_;clear z_
    refine ⟨l,o',?_,h2,h3⟩
    rw [am,QH]; exact h1
    intro z; rw [z,q] at h2; cases h2; exact w rfl
theorem pr {f:Nat→Option Nat}:∀ {ss:List (List Nat)},pq f (ss.map V.str)=ss.map V.str
 | []=>rfl
 | s::r=>congrArg (fun b=>V.str s::b) (pr (ss:=r))
section
variable {f:Nat→Option Nat}
theorem j6 {C:Nat→V} {l:Nat} {val:Value} (hf:∀ l k,f l=some k→k<n'∧X'.ρ k=X.ρ l) (hj:RepV X' n' .junk val) (hk:∀ k,k<n'→X'.ρ k=X.ρ l→RepV X' n' (C k) val):RepV X' n' (@Option.rec Nat (fun _=>V) .junk C (f l)) val:=by
 cases q:f l with
 | none=>exact hj
 | some k=>exact hk k (hf l k q).1 (hf l k q).2
theorem RepV.ren (hF:X'.F=X.F) (hP:X'.P=X.P) (hf:∀ l k,f l=some k→k<n'∧X'.ρ k=X.ρ l) {v:V} {val:Value} (W:RepV X n v val):RepV X' n' (rc f v) val:=
 @RepV.rec X n (fun v val _=>RepV X' n' (rc f v) val) (fun vs vals _=>RepVs X' n' (pq f vs) vals) .non .boo .int .str .byt .ty .gl
  (fun l h=>j6 hf (.junk _) fun k a b=>b ▸ .loc k a)
  (fun C l a h o=>j6 hf (.junk _) fun k c b=>.obj C k a c (by rw [hF,b]; exact o))
  (fun vs vals a o h ho hs ih=>by
   show RepV X' n' (.tup (V.rec_1 _ _ _ _ _ _ _ _ _ _ _ _ _ _ _ _ _ vs)) _
   rw [gF]
   exact .tup _ vals a o (by rw [hF]; exact h) ho ih)
  (fun vs vals a o h ho hs ih=>by
   show RepV X' n' (.fro (V.rec_1 _ _ _ _ _ _ _ _ _ _ _ _ _ _ _ _ _ vs)) _
   rw [gF]
   exact .fro _ vals a o (by rw [hF]; exact h) ho ih)
  (fun l a h o=>j6 hf (.junk _) fun k c b=>.bm k a c (by rw [hF,b]; exact o))
  (fun fn C l a b h o ob=>j6 hf (.junk _) fun k c w=>.pm fn C k a b c (by rw [hF]; exact o) (by rw [hF,w]; exact ob))
  .junk
  (fun C a d od vs vals h hd hPP ho hs ih=>by
   show RepV X' n' (.fob C (V.rec_1 _ _ _ _ _ _ _ _ _ _ _ _ _ _ _ _ _ vs)) _
   rw [gF]
   exact .fob C a d od _ vals (by rw [hF]; exact h) (by rw [hF]; exact hd) (by rw [hP]; exact hPP) ho ih)
  .nil (fun _ _ h hs=>.cons h hs) v val W
theorem RepVs.ren (hF:X'.F=X.F) (hP:X'.P=X.P) (hf:∀ l k,f l=some k→k<n'∧X'.ρ k=X.ρ l) {vs:List V}:∀ {vals:List Value},RepVs X n vs vals→RepVs X' n' (pq f vs) vals:=by
 induction vs with
 | nil=>intro vals W; cases W; exact .nil
 | cons v r ih=>intro vals W; cases W with | cons a b=>exact .cons (a.ren hF hP hf) (ih b)
theorem PairsAre.ren (hF:X'.F=X.F) (hP:X'.P=X.P) (hf:∀ l k,f l=some k→k<n'∧X'.ρ k=X.ρ l):∀ {kvs:List (List Nat×V)} {kvals:List (Str×Value)},PairsAre X n kvs kvals→PairsAre X' n' (pp f kvs) kvals
 | [],[],_=>trivial
 | _::_,_::_,h=>⟨h.1,h.2.1.ren hF hP hf,PairsAre.ren hF hP hf h.2.2⟩
 | [],_::_,h=>h.elim
 | _::_,[],h=>h.elim
theorem RepO.ren {h:Heap} {a:Addr} {o:AO} (hF:X'.F=X.F) (hP:X'.P=X.P) (hf:∀ l k,f l=some k→k<n'∧X'.ρ k=X.ρ l) (r:RepO G X n h a o):RepO G X' n' h a (tU f o):=by
 cases o with
 | list vs=>obtain ⟨o,vals,h1,h2,h3⟩:=r; exact ⟨o,vals,h1,h2,h3.ren hF hP hf⟩
 | ns at_=>
  apply bc;intro z_
  obtain ⟨m,h1,h1',h2⟩:=r
  apply z_;clear z_
  refine ⟨m,h1,h1',fun i x hx=>?_⟩
  have:=h2 i x hx
  show match aj i (pp f at_) with
   | some v=>_
   | none=>_
  rw [jk]
  cases q:aj i at_ with
  | none=>rw [q] at this; exact this
  | some v=>rw [q] at this; obtain ⟨val,a,b⟩:=this; exact ⟨val,a,b.ren hF hP hf⟩
 | dict kvs=>obtain ⟨kvals,h1,h2⟩:=r; exact ⟨kvals,h1,h2.ren hF hP hf⟩
 | set ks=>exact r
 | cold=>exact r
 | set1 k=>exact r
 | wds ss=>
  apply bc;intro z_
  obtain ⟨o,vals,h1,h2,h3⟩:=r
  apply z_;clear z_
  refine ⟨o,vals,h1,h2,?_⟩
  have:=h3.ren hF hP hf
  rw [pr] at this
  exact this
 | own=>exact r
end
noncomputable def PB (mp:Mp):Mp:=mp.map fun p=>(p.2,p.1)
set_option tactic.hygienic true in
theorem w3 {mp:Mp} (h:MpOk n0 mp):∀ {l k:Nat},aj l mp=some k→aj k (PB mp)=some l:=by
 induction h with
 | nil=>intro l k e; cases e
 | @cons j r h hl hn ih=>
  intro l k e
  rw [am] at e
  show aj k ((C1 n0 r,j)::PB r)=_
  rw [am]
  split at e
  ·rename_i q; cases e; rw [QI rfl,q]
  ·rw [QH (fun w=>by have:=(h.out e).2.2; omega)]; exact ih e
theorem Rel.gc (R:Rel G X env σ s) (n0:Nat):∃ X',X.le n0 X'∧X'.F=X.F∧n0≤(Ob n0 σ).nx∧Rel G X' env (Ob n0 σ) s:=by
 have hm:MpOk n0 (wr n0 σ):=AK
 unfold Ob
 generalize wr n0 σ=mp at hm
 let ρ':Nat→Addr:=fun k=>if k<n0 then X.ρ k else match aj k (PB mp) with | some l=>X.ρ l | none=>X.ρ k
 have hf:∀ l k,fD n0 mp l=some k→k<C1 n0 mp∧ρ' k=X.ρ l:=fun l k e=>⟨BS hm e,by
  show (if k<n0 then X.ρ k else _)=_
  rcases lf e with ⟨a,b⟩ | ⟨a,b⟩
  ·rw [b,QI a]
  ·have:=(hm.out b).2.1
   rw [QH (by omega),w3 hm b]⟩
 have L:X.le n0 {X with ρ:=ρ'}:=⟨fun l hl=>QI hl,fun _ _ e=>e,fun _ _ _=>rfl⟩
 refine ⟨{X with ρ:=ρ'},L,rfl,hm.ge,?_⟩
 apply bc;intro z_
 obtain ⟨h1,h2,h3,h4,hb,h5,h6,h7,h8,h9,h10,h11⟩:=R
 apply z_;clear z_
 have ls:∀ {k o},aj k (Fe n0 σ mp).st=some o→∃ l o',aj l σ.st=some o'∧ρ' k=X.ρ l∧fD n0 mp l=some k∧o=tU (fD n0 mp) o':=fun {k o} e=>by
  apply bc;intro z_
  obtain ⟨l,o',a,b,c⟩:=jl hm e
  apply z_;clear z_
  exact ⟨l,o',a,(hf l k b).2,b,c⟩
 refine ⟨h1,h2,fun k o e=>?_,fun k k' o o' e e' w=>?_,fun k o e=>?_,fun k o e=>?_,h6,?_,h8,h9,h10,fun a o e=>?_⟩
 ·apply bc;intro z_
  obtain ⟨l,o',a,b,_⟩:=ls e
  apply z_;clear z_
  show X.F (ρ' k)=none∧ρ' k≠G.T
  rw [b]; exact h3 l o' a
 ·apply bc;intro z_
  obtain ⟨l,_,a,b,c,_⟩:=ls e
  obtain ⟨l',_,a',b',c',_⟩:=ls e'
  apply z_;clear z_
  have w:ρ' k=ρ' k':=w
  rw [b,b'] at w
  have:=h4 _ _ _ _ a a' w
  subst this
  rw [c] at c'; cases c'; rfl
 ·apply bc;intro z_
  obtain ⟨l,o',a,b,_⟩:=ls e
  apply z_;clear z_
  show _<ρ' k
  rw [b]; exact hb l o' a
 ·apply bc;intro z_
  obtain ⟨l,o',a,b,c,rfl⟩:=ls e
  apply z_;clear z_
  refine ⟨(hf l k c).1,?_⟩
  show RepO G _ _ _ (ρ' k) _
  rw [b]
  exact RepO.ren (X:=X) (X':={X with ρ:=ρ'}) rfl rfl hf (h5 l o' a).2
 ·apply bc;intro z_
  obtain ⟨⟨m,cm,n1,n2,n3⟩,f1,f2,f3,f4⟩:=h7
  apply z_;clear z_
  refine ⟨⟨m,cm,n1,n2,fun i v e=>?_⟩,⟨f1.1,fun k o e=>?_,f1.2.2⟩,fun hf' x c e=>⟨(f2 hf' x c e).1,fun k o e'=>?_,(f2 hf' x c e).2.2⟩,f3,f4⟩
  ·have e:aj i (pp (fD n0 mp) σ.lo)=some v:=e
   rw [jk] at e
   cases q:aj i σ.lo with
   | none=>rw [q] at e; first | exact nS e | exact nB e | cases e
   | some v0=>
    rw [q] at e; cases e
    apply bc;intro z_
    obtain ⟨x,k,val,a,b,c⟩:=n3 i v0 q
    apply z_;clear z_
    exact ⟨x,k,val,a,RepV.ren (X:=X) (X':={X with ρ:=ρ'}) rfl rfl hf b,c⟩
  ·apply bc;intro z_
   obtain ⟨l,o',a,b,_⟩:=ls e
   apply z_;clear z_
   show ρ' k≠_
   rw [b]; exact f1.2.1 l o' a
  ·apply bc;intro z_
   obtain ⟨l,o',a,b,_⟩:=ls e'
   apply z_;clear z_
   show ρ' k≠_
   rw [b]; exact (f2 hf' x c e).2.1 l o' a
 ·apply bc;intro z_
  obtain ⟨z1,z2,z3,r⟩:=h11 a o e
  apply z_;clear z_
  refine ⟨z1,z2,fun k o' e'=>?_,r⟩
  apply bc;intro z_
  obtain ⟨l,o'',a',b,_⟩:=ls e'
  apply z_;clear z_
  show ρ' k≠_
  rw [b]; exact z3 l o'' a'
noncomputable def fh (n:Nat) (k:Nat→Prop):Prop:=@Nat.rec (fun _=>Prop) (k 0) (fun m _=>k (Nat.succ m)) n
theorem cX {n:Nat} {k:Nat→Prop}:fh n k=k n:=by cases n <;> rfl
noncomputable def jE (l:List Nat):(List Nat→Prop)→Prop:=@List.rec Nat (fun _=>(List Nat→Prop)→Prop) (fun k=>k []) (fun n _ ih k=>fh n fun m=>ih fun r=>k (m::r)) l
theorem f5:∀ {l:List Nat} {k:List Nat→Prop},jE l k=k l
 | [],_=>rfl
 | n::r,k=>(cX (k:=fun m=>jE r fun t=>k (m::t))).trans f5
noncomputable def m5 (v:V):(V→Prop)→Prop:=@V.rec (fun _=>(V→Prop)→Prop) (fun _=>(List V→Prop)→Prop) (fun k=>k .non) (fun b k=>@Bool.rec (fun _=>Prop) (k (.boo false)) (k (.boo true)) b)
 (fun i k=>@Int.rec (fun _=>Prop) (fun n=>fh n fun m=>k (.int (.ofNat m))) (fun n=>fh n fun m=>k (.int (.negSucc m))) i) (fun s k=>k (.str s)) (fun s k=>k (.byt s)) (fun n k=>k (.ty n)) (fun a k=>k (.gl a)) (fun l k=>fh l fun m=>k (.loc m)) (fun C l k=>fh l fun m=>k (.obj C m))
 (fun _ ih k=>ih fun r=>k (.tup r)) (fun _ ih k=>ih fun r=>k (.fro r)) (fun l k=>fh l fun m=>k (.bm m)) (fun f C l k=>fh l fun m=>k (.pm f C m)) (fun k=>k .junk) (fun C _ ih k=>ih fun r=>k (.fob C r)) (fun k=>k []) (fun _ _ a b k=>a fun v=>b fun r=>k (v::r)) v
noncomputable def LX (vs:List V):(List V→Prop)→Prop:=@V.rec_1 (fun _=>(V→Prop)→Prop) (fun _=>(List V→Prop)→Prop) (fun k=>k .non) (fun b k=>@Bool.rec (fun _=>Prop) (k (.boo false)) (k (.boo true)) b)
 (fun i k=>@Int.rec (fun _=>Prop) (fun n=>fh n fun m=>k (.int (.ofNat m))) (fun n=>fh n fun m=>k (.int (.negSucc m))) i) (fun s k=>k (.str s)) (fun s k=>k (.byt s)) (fun n k=>k (.ty n)) (fun a k=>k (.gl a)) (fun l k=>fh l fun m=>k (.loc m)) (fun C l k=>fh l fun m=>k (.obj C m))
 (fun _ ih k=>ih fun r=>k (.tup r)) (fun _ ih k=>ih fun r=>k (.fro r)) (fun l k=>fh l fun m=>k (.bm m)) (fun f C l k=>fh l fun m=>k (.pm f C m)) (fun k=>k .junk) (fun C _ ih k=>ih fun r=>k (.fob C r)) (fun k=>k []) (fun _ _ a b k=>a fun v=>b fun r=>k (v::r)) vs
theorem jZ {v:V}:∀ {k:V→Prop},m5 v k=k v:=
 @V.rec (fun v=>∀ {k:V→Prop},m5 v k=k v) (fun vs=>∀ {k:List V→Prop},LX vs k=k vs)
  rfl (fun b _=>by cases b <;> rfl) (fun i k=>by
   cases i with
   | ofNat n=>exact cX (k:=fun m=>k (.int (.ofNat m)))
   | negSucc n=>exact cX (k:=fun m=>k (.int (.negSucc m)))) (fun _ _=>rfl) (fun _ _=>rfl) (fun _ _=>rfl) (fun _ _=>rfl) (fun _ k=>cX (k:=fun m=>k (.loc m))) (fun C _ k=>cX (k:=fun m=>k (.obj C m))) (fun _ ih k=>ih (k:=fun r=>k (.tup r))) (fun _ ih k=>ih (k:=fun r=>k (.fro r))) (fun _ k=>cX (k:=fun m=>k (.bm m))) (fun f C _ k=>cX (k:=fun m=>k (.pm f C m))) rfl (fun C _ ih k=>ih (k:=fun r=>k (.fob C r))) rfl (fun v r a b k=>(a (k:=fun v=>LX r fun r=>k (v::r))).trans (b (k:=fun r=>k (v::r)))) v
noncomputable def wm (vs:List V):(List V→Prop)→Prop:=@List.rec V (fun _=>(List V→Prop)→Prop) (fun k=>k []) (fun v _ ih k=>m5 v fun w=>ih fun r=>k (w::r)) vs
theorem oJ:∀ {l:List V} {k:List V→Prop},wm l k=k l
 | [],_=>rfl
 | n::r,k=>(jZ (k:=fun m=>wm r fun t=>k (m::t))).trans oJ
noncomputable def wl (vs:List (Nat×V)):(List (Nat×V)→Prop)→Prop:=@List.rec (Nat×V) (fun _=>(List (Nat×V)→Prop)→Prop) (fun k=>k []) (fun p _ ih k=>fh p.1 fun m=>m5 p.2 fun w=>ih fun r=>k ((m,w)::r)) vs
theorem m4:∀ {l:List (Nat×V)} {k:List (Nat×V)→Prop},wl l k=k l
 | [],_=>rfl
 | n::r,k=>(cX (k:=fun m=>m5 n.2 fun w=>wl r fun t=>k ((m,w)::t))).trans ((jZ (k:=fun w=>wl r fun t=>k ((n.1,w)::t))).trans m4)
noncomputable def AD (vs:List (List Nat×V)):(List (List Nat×V)→Prop)→Prop:=@List.rec (List Nat×V) (fun _=>(List (List Nat×V)→Prop)→Prop) (fun k=>k []) (fun p _ ih k=>jE p.1 fun m=>m5 p.2 fun w=>ih fun r=>k ((m,w)::r)) vs
theorem rY:∀ {l:List (List Nat×V)} {k:List (List Nat×V)→Prop},AD l k=k l
 | [],_=>rfl
 | n::r,k=>(f5 (k:=fun m=>m5 n.2 fun w=>AD r fun t=>k ((m,w)::t))).trans ((jZ (k:=fun w=>AD r fun t=>k ((n.1,w)::t))).trans rY)
noncomputable def E5 (o:AO) (k:AO→Prop):Prop:=@AO.rec (fun _=>Prop) (fun vs=>wm vs fun r=>k (.list r)) (fun at_=>wl at_ fun r=>k (.ns r)) (fun kvs=>AD kvs fun r=>k (.dict r)) (fun s=>k (.set s)) (k .cold) (fun s=>k (.set1 s)) (fun s=>k (.wds s)) (k .own) o
theorem AF {o:AO} {k:AO→Prop}:E5 o k=k o:=by
 cases o
 ·exact oJ (k:=fun r=>k (.list r))
 ·exact m4 (k:=fun r=>k (.ns r))
 ·exact rY (k:=fun r=>k (.dict r))
 ·rfl
 ·rfl
 ·rfl
 ·rfl
 ·rfl
noncomputable def AH (vs:List (Nat×AO)):(List (Nat×AO)→Prop)→Prop:=@List.rec (Nat×AO) (fun _=>(List (Nat×AO)→Prop)→Prop) (fun k=>k []) (fun p _ ih k=>fh p.1 fun m=>E5 p.2 fun w=>ih fun r=>k ((m,w)::r)) vs
theorem r3:∀ {l:List (Nat×AO)} {k:List (Nat×AO)→Prop},AH l k=k l
 | [],_=>rfl
 | n::r,k=>(cX (k:=fun m=>E5 n.2 fun w=>AH r fun t=>k ((m,w)::t))).trans ((AF (k:=fun w=>AH r fun t=>k ((n.1,w)::t))).trans r3)
noncomputable def E6 (σ:St) (k:St→Prop):Prop:=wl σ.lo fun lo=>AH σ.st fun st=>fh σ.nx fun n=>k ⟨lo,st,n⟩
theorem AG {k:St→Prop}:E6 σ k=k σ:=by unfold E6; rw [m4,r3,cX]
noncomputable def AE (mp:Mp):(Mp→Prop)→Prop:=@List.rec (Nat×Nat) (fun _=>(Mp→Prop)→Prop) (fun k=>k []) (fun p _ ih k=>fh p.1 fun m=>fh p.2 fun w=>ih fun r=>k ((m,w)::r)) mp
theorem rZ:∀ {l:Mp} {k:Mp→Prop},AE l k=k l
 | [],_=>rfl
 | n::r,k=>(cX (k:=fun m=>fh n.2 fun w=>AE r fun t=>k ((m,w)::t))).trans ((cX (k:=fun w=>AE r fun t=>k ((n.1,w)::t))).trans rZ)
noncomputable def Oa (n0:Nat) (σ:St) (k:St→Prop):Prop:=AE (wr n0 σ) fun mp=>E6 (Fe n0 σ mp) k
theorem Ff {k:St→Prop}:Oa n0 σ k=k (Ob n0 σ):=by unfold Oa; rw [rZ,AG]; rfl
noncomputable def Mu (n0:Nat) (cur:Nat→St→Option (Option V)) (dt:DT) (db:DS):Nat→Nat→DS:=jI (Oa n0) cur dt db
theorem Fg {K:St→Prop} (q:Oa n0 σ K) (hn:n0≤σ.nx) (R:Rel G X env σ s):AftAt G X env n0 K s:=by
 apply bc;intro z_
 obtain ⟨X4,L4,e4,n4,R4⟩:=R.gc n0
 apply z_;clear z_
 exact ⟨_,X4,Ff.mp q,L4,e4,n4,R4⟩
noncomputable def u5 (di:DI) (dt:DT) (db:DS) (N:Nat):DS:=fun σ Q=>di σ fun cur σ1=>Mu σ1.nx cur dt db N 0 σ1 Q
theorem DL {tg:Bool} {target iter:PySem.Expr} {body:List PySem.Stmt} {di:DI} {dt:DT} {db:DS} {p:Pos} (N:Nat) (hi:SI G lv sc tg iter di) (htg:tg=true→fK target=true) (ht:ST G lv sc target dt) (hb:i8 G lv sc body db)
  (hs:∀ env x,foldedSetIterable iter env x=pure x):SS G lv sc (.For target iter body [] p) (u5 di dt db N):=fun σ Q hd A env X s ha he R=>by
 refine wpAny_For (Qv (hi σ _ hd A env X s ha he R) (fun x s1 h1=>Qv h1 (fun it s2 h2=>?_) fun _ _ z=>z) fun _ _ z=>z) (hs env)
 obtain ⟨cur,σ1,X0,X1,S,I,k1,L0,L1,n1,R1,f1,i1,T⟩:=h2
 refine se Fg ha he T htg ht hb (fun f s' h=>?_) N 0 σ1 X1 s2 k1 L1 (QF _) R1 f1 i1
 exact PostS.lift L0 n1 h
open Classical in
set_option tactic.hygienic true in
theorem Rel.hide (hGn:G.Gn=AllBare) (R:Rel G X env σ s):∃ hp,Rel (G.pv AllBare hp) X env ⟨[],[],0⟩ s ∧
  ∀ σ' X' s',X.le 0 X'→Rel (G.pv AllBare hp) X' env σ' s'→(∀ b∈ah env,s'.heap.get? b=s.heap.get? b)→X.le σ.nx {X' with ρ:=X.ρ}∧Rel G {X' with ρ:=X.ρ} env σ s':=by
 let hp:Addr→Option Obj:=fun a=>if ∃ l o,aj l σ.st=some o∧X.ρ l=a then s.heap.get? a else G.Hp a
 have hin:∀ {l o},aj l σ.st=some o→∃ ob,hp (X.ρ l)=some ob∧s.heap.get? (X.ρ l)=some ob:=fun {l o} e=>by
  apply bc;intro z_
  obtain ⟨ob,z⟩:=R.there e
  apply z_;clear z_
  exact ⟨ob,by show (if _ then _ else _)=_; rw [QI ⟨l,o,e,rfl⟩]; exact z,z⟩
 have hout:∀ {a o},G.Hp a=some o→hp a=some o:=fun {a o} e=>by
  show (if _ then _ else _)=_
  rw [QH (fun ⟨l,o',e',w⟩=>(R.hp a o e).2.2.1 l o' e' w)]; exact e
 have R1:Rel (G.pv AllBare hp) X env {σ with st:=[]} s:=R.priv (st':=[]) (fun _ _ _ e=>e) rfl rfl (by have:=R.gens; rw [hGn] at this; exact this) (fun _ _ e=>nomatch e) fun a o e=>by
  have e:(if ∃ l o,aj l σ.st=some o∧X.ρ l=a then s.heap.get? a else G.Hp a)=some o:=e
  split at e
  ·rename_i w
   apply bc;intro z_
   obtain ⟨l,o',e',rfl⟩:=w
   apply z_;clear z_
   exact ⟨e,.inr (.inr ⟨l,o',e',rfl,fun _ z=>nomatch z⟩)⟩
  ·exact ⟨(R.hp a o e).1,.inl ⟨o,e⟩⟩
 refine ⟨hp,?_,fun σ' X' s' L R' same=>?_⟩
 ·apply bc;intro z_
  obtain ⟨h1,h2,h3,h4,hb,h5,h6,h7,h8,h9,h10,h11⟩:=R1
  apply z_;clear z_
  refine ⟨h1,h2,(fun _ _ e=>nomatch e),(fun _ _ _ _ e=>nomatch e),(fun _ _ e=>nomatch e),(fun _ _ e=>nomatch e),h6,?_,h8,h9,h10,h11⟩
  apply bc;intro z_
  obtain ⟨⟨m,cm,n1,n2,n3⟩,f1,f2,f3,f4⟩:=h7
  apply z_;clear z_
  exact ⟨⟨m,cm,n1,n2,fun _ _ e=>nomatch e⟩,f1,f2,f3,f4⟩
 have L2:X.le σ.nx {X' with ρ:=X.ρ}:=⟨fun _ _=>rfl,L.F,L.P⟩
 refine ⟨L2,?_⟩
 have keep:∀ {l o},aj l σ.st=some o→s'.heap.get? (X.ρ l)=s.heap.get? (X.ρ l)∧X'.F (X.ρ l)=none:=fun {l o} e=>by
  apply bc;intro z_
  obtain ⟨ob,z1,z2⟩:=hin e
  obtain ⟨y1,y2,_⟩:=R'.hp _ _ z1
  apply z_;clear z_
  exact ⟨y1.trans z2.symm,y2⟩
 refine ⟨R'.sub,R'.base,fun l o e=>⟨(keep e).2,(R.own l o e).2⟩,R.inj,R.big,fun l o e=>⟨(R.st l o e).1,(R.st l o e).2.go L2 (QF _) (keep e).1⟩,R'.tab,?_,R'.os,R'.drawn,(by rw [hGn]; exact R'.gens),fun a o e=>?_⟩
 ·refine R.loc.go L2 (QF _) (same _ cM) (fun x c e=>?_) ⟨R'.loc.freeL.1,R.loc.freeL.2.1⟩ (fun hf x c e=>⟨(R'.loc.freeC hf x c e).1,(R.loc.freeC hf x c e).2.1⟩)
  by_cases hf:env.frame=some env.locals
  ·exact same _ (dM hf e)
  ·apply bc;intro z_
   obtain ⟨o,z⟩:=R.loc.frzC hf x c e
   apply z_;clear z_
   rw [R.sub _ _ z]; exact R'.sub _ _ (L.F _ _ z)
 ·apply bc;intro z_
  obtain ⟨y1,y2,_⟩:=R'.hp _ _ (hout e)
  obtain ⟨_,_,z3,z4,z5,z6⟩:=R.hp _ _ e
  apply z_;clear z_
  exact ⟨y1,y2,z3,z4,z5,z6⟩
noncomputable def fM (σ:St) (Q:V→St→Prop):V→St→Prop:=fun v _=>match bG v with
 | true=>Q v σ
 | false=>False
noncomputable def cj (D:List V→List V→DE) (vs kvs:List V) (σ:St) (Q:V→St→Prop):Prop:=match aM vs with
 | true=>(match aM kvs with
  | true=>D vs kvs ⟨[],[],0⟩ (fM σ Q)
  | false=>False)
 | false=>False
theorem mu {D:List V→List V→DE} {vs kvs:List V} {Q:V→St→Prop} (h:cj D vs kvs σ Q):aM vs=true∧aM kvs=true∧D vs kvs ⟨[],[],0⟩ (fM σ Q):=by
 unfold cj at h
 cases q1:aM vs with
 | false=>rw [q1] at h; exact h.elim
 | true=>
  cases q2:aM kvs with
  | false=>rw [q1,q2] at h; exact h.elim
  | true=>rw [q1,q2] at h; exact ⟨rfl,rfl,h⟩
theorem mw {Q:V→St→Prop} {v:V} (h:fM σ Q v σ'):bG v=true∧Q v σ:=by
 unfold fM at h
 cases q:bG v with
 | false=>rw [q] at h; exact h.elim
 | true=>rw [q] at h; exact ⟨rfl,h⟩
theorem FN.apart {f:Addr} {ks:List Str} {D:List V→List V→DE} (hGn:G.Gn=AllBare) (h:∀ hp,FN (G.pv AllBare hp) lv f ks D):FN G lv f ks (cj D):=by
 refine ⟨(h G.Hp).1,fun vs kvs σ Q hd A env X s vals kvals ha R Wv Wk=>?_⟩
 apply bc;intro z_
 obtain ⟨p1,p2,hd⟩:=mu hd
 obtain ⟨hp,R2,back⟩:=R.hide hGn
 apply z_;clear z_
 refine codeAny_mono ((h hp).2 vs kvs ⟨[],[],0⟩ _ hd A env X s vals kvals ha R2 (RepVs.pure (X:=X) (fun _ _ e=>e) (fun _ _ _=>rfl) Wv p1) (RepVs.pure (X:=X) (fun _ _ e=>e) (fun _ _ _=>rfl) Wk p2)) fun r s' y_=>?_
 apply bc;intro z_
 obtain ⟨val,er,⟨v,σ',X',q,L,_,R',Wr⟩,same⟩:=y_
 obtain ⟨q1,q2⟩:=mw q
 obtain ⟨L2,R3⟩:=back σ' X' s' L R' same
 apply z_;clear z_
 exact ⟨val,er,⟨v,σ,{X' with ρ:=X.ρ},q2,L2,QF _,R3,RepV.pure (X:=X') (X':={X' with ρ:=X.ρ}) (fun _ _ e=>e) (fun _ _ _=>rfl) Wr q1⟩,same⟩
noncomputable def B7 (sp:List V→List V→Option V) (vs kvs:List V) (σ:St) (Q:V→St→Prop):Prop:=match sp vs kvs with
 | some w=>Q w σ
 | none=>False
set_option tactic.hygienic true in
theorem FN.tab {f:Addr} {ks:List Str} {D:List V→List V→DE} {sp:List V→List V→Option V} (h:FN G lv f ks (cj D))
  (hs:∀ vs kvs w,sp vs kvs=some w→aM vs=true∧aM kvs=true∧bG w=true∧∀ P:V→Prop,D vs kvs ⟨[],[],0⟩ (fun v _=>P v)=P w):FN G lv f ks (B7 sp):=by
 refine h.mono fun vs kvs σ Q hd=>?_
 unfold B7 at hd
 split at hd
 ·rename_i w hw
  apply bc;intro z_
  obtain ⟨p1,p2,p3,p4⟩:=hs vs kvs w hw
  apply z_;clear z_
  unfold cj
  rw [p1,p2]
  show D vs kvs ⟨[],[],0⟩ (fun v _=>match bG v with
   | true=>Q v σ
   | false=>False)
  rw [p4 fun v=>match bG v with
   | true=>Q v σ
   | false=>False,p3]
  exact hd
 ·exact hd.elim
noncomputable def pV (D:List V→List V→DE) (vs kvs:List V):DE:=match vs with
 | .obj _ _::r=>D (.junk::r) kvs
 | _=>D vs kvs
theorem FN.blind {f:Addr} {ks:List Str} {D:List V→List V→DE} (h:FN G lv f ks D):FN G lv f ks (pV D):=by
 refine ⟨h.1,fun vs kvs σ Q hd A env X s vals kvals ha R Wv Wk=>?_⟩
 unfold pV at hd
 split at hd
 ·cases Wv with
  | cons a b=>
   obtain ⟨z,_,_⟩:=(a.inv:AtOb X σ.nx _ _ _)
   exact h.2 _ kvs σ Q hd A env X s _ kvals ha R (.cons (.junk _) b) Wk
 ·exact h.2 vs kvs σ Q hd A env X s vals kvals ha R Wv Wk
noncomputable def sV (ds:DA):DE:=fun σ Q=>ds σ fun vs σ1=>match Nat.ble vs.length 100000 with | true=>Q (.fro vs) σ1 | false=>False
theorem bk {es:List PySem.Expr} {ds:DA} {p:Pos} (ok:G.Ok) (h:SA G lv sc es ds):SE G lv sc (.List es p) (sV ds):=fun σ Q hd A env X s ha he R=>by
 refine List_ (Qv (h σ _ hd A env X s p ha he R) (fun vals s1 y_=>?_) fun _ _ z=>z)
 apply bc;intro z_
 obtain ⟨vs,σ1,X1,q,L1,n1,R1,W1⟩:=y_
 apply z_;clear z_
 cases hb:Nat.ble vs.length 100000 with
 | false=>rw [hb] at q; exact q.elim
 | true=>
  rw [hb] at q
  have hz:vals.length≤sizeLine:=by rw [W1.length,QN]; have:=QD hb; omega
  exact wpAny_newList (Post.lift L1 n1 (Post.newList (t:=s1.toks) ok q R1 W1)) hz
noncomputable def pc (at_:List (Nat×V)):Bool:=@List.rec (Nat×V) (fun _=>Bool) true (fun p _ ih=>@Bool.rec (fun _=>Bool) false ih (Nat.ble p.1 4)) at_
set_option tactic.hygienic true in
theorem mo {i:Nat} {v:V}:∀ {at_:List (Nat×V)},pc at_=true→aj i at_=some v→i<5
 | [],_,e=>by cases e
 | (j,w)::r,h,e=>by
  have h:@Bool.rec (fun _=>Bool) false (pc r) (Nat.ble j 4)=true:=h
  rw [am] at e
  cases q:Nat.ble j 4 with
  | false=>rw [q] at h; first | exact nS h | exact nB h | cases h
  | true=>
   rw [q] at h
   split at e
   ·rename_i z; subst z; exact Nat.lt_succ_of_le (QD q)
   ·exact mo h e
noncomputable def nc (at_:List (Nat×V)):List Nat→Option (List V)
 | []=>some []
 | i::r=>(aj i at_).bind fun a=>(nc at_ r).map (List.cons a)
theorem jG {at_:List (Nat×V)} {is:List Nat}:∀ {vs:List V},nc at_ is=some vs→vs.length=is.length∧∀ (j i:Nat),is[j]?=some i→aj i at_=vs[j]?:=by
 induction is with
 | nil=>intro vs h; cases h; exact ⟨rfl,fun j i e=>by cases e⟩
 | cons i r ih=>
  intro vs h
  apply bc;intro z_
  obtain ⟨a,h1,h⟩:=Option.bind_eq_some_iff.mp h
  obtain ⟨ws,h2,rfl⟩:=Option.map_eq_some_iff.mp h
  obtain ⟨h3,h4⟩:=ih h2
  apply z_;clear z_
  refine ⟨congrArg Nat.succ h3,fun j k e=>?_⟩
  cases j with
  | zero=>cases e; exact h1
  | succ j=>exact h4 j k e
noncomputable def wi (at_:List (Nat×V)):Option (List V):=match pc at_ with
 | true=>nc at_ [0,1,2,3,4]
 | false=>none
theorem tm {at_:List (Nat×V)} {vs:List V} (h:wi at_=some vs):pc at_=true∧vs.length=5∧∀ i,i<5→aj i at_=vs[i]?:=by
 unfold wi at h
 cases e:pc at_ with
 | false=>rw [e] at h; cases h
 | true=>
  rw [e] at h
  exact ⟨rfl,(jG h).1,fun i hi=>(jG h).2 i i ((by decide:∀ i<5,([0,1,2,3,4]:List Nat)[i]?=some i) i hi)⟩
noncomputable def EQ (v:V) (σ:St) (Q:V→St→Prop):Prop:=C2 v fun C l=>onS (Be l σ) fun at_=>onS (wi at_) fun vs=>Q (.fob C vs) {σ with st:=vQ l σ.st}
theorem jz:cO.length=5:=by decide +kernel
theorem Dk {n:Nat} {Y:Wd} {m:Str→Option Value}:∀ {vs:List V} {xs:List Str},vs.length=xs.length→(∀ (k:Nat) (x:Str) (v:V),xs[k]?=some x→vs[k]?=some v→∃ val,m x=some val∧RepV Y n v val) →
  ∃ vals,RepVs Y n vs vals∧vals.length=xs.length∧∀ (k:Nat) (x:Str),xs[k]?=some x→m x=vals[k]?
 | [],[],_,_=>⟨[],.nil,rfl,fun k x e=>by simp at e⟩
 | v::vs,x::xs,hl,h=>by
  apply bc;intro z_
  obtain ⟨val,e,W⟩:=h 0 x v rfl rfl
  obtain ⟨vals,Ws,hv,hm⟩:=Dk (vs:=vs) (xs:=xs) (by simpa using hl) fun k x v a b=>h (k+1) x v (by simpa using a) (by simpa using b)
  apply z_;clear z_
  refine ⟨val::vals,.cons W Ws,by simp [hv],fun k y ey=>?_⟩
  cases k with
  | zero=>simp at ey; subst ey; exact e
  | succ k=>simp at ey; simpa using hm k y ey
 | [],_::_,hl,_=>by cases hl
 | _::_,[],hl,_=>by cases hl
theorem ER {v:V} {val:Value} {Q:V→St→Prop} (ok:G.Ok) (h:EQ v σ Q) (R:Rel G X env σ s) (W:RepV X σ.nx v val):Post G X env σ.nx Q val s:=by
 cases v with
 | obj C l=>
  cases (W.inv:AtOb X σ.nx C l val) with
  | mk a hl ho=>
  apply bc;intro z_
  obtain ⟨at_,hk,h2⟩:=onS.out h
  have hk:=jq hk
  obtain ⟨vs,hvs,h3⟩:=onS.out h2
  obtain ⟨h5,hlen,hlook⟩:=tm hvs
  obtain ⟨R2,L2⟩:=R.freeze ok hk
  obtain ⟨_,m,n1,n2,n3⟩:=R.st l _ hk
  apply z_;clear z_
  refine ⟨_,_,_,h3,L2,QF _,R2,?_⟩
  apply bc;intro z_
  obtain ⟨o,es,ep,g1,g2,g3⟩:=n1.ns
  obtain ⟨vals,Ws,hv,hm⟩:=Dk (n:=σ.nx) (Y:=X) (m:=m) (vs:=vs) (xs:=cO) (by rw [hlen,jz]) fun k x v a b=>by
   have:=n3 k x (ok.ws k x a)
   rw [hlook k (by rw [← hlen]; exact (List.getElem?_eq_some_iff.mp b).1),b] at this
   exact this
  apply z_;clear z_
  refine .fob C a (X.ρ l) o vs vals (L2.F _ _ ho) ?_ (QI rfl) ⟨es,ep,m,g2,g3.1,?_,g3.2,by rw [hv,jz],hm,fun x v e=>?_⟩ (Ws.mono L2 (QF _))
  ·show (if X.ρ l=X.ρ l then _ else _)=_
   rw [QI rfl]; exact g1
  ·apply bc;intro z_
   obtain ⟨o',es',ep',q1,q2,q3⟩:=n1
   apply z_;clear z_
   rw [g1] at q1; cases q1
   rw [g2] at q2; cases q2
   exact q3.2.1
  ·have hx:x∈G.an:=n2 x (by rw [e]; simp)
   apply bc;intro z_
   obtain ⟨i,hi⟩:=List.getElem?_of_mem hx
   apply z_;clear z_
   have:=n3 i x hi
   cases q:aj i at_ with
   | none=>rw [q] at this; rw [e] at this; cases this
   | some v'=>
    have i5:=mo h5 q
    obtain ⟨y,hy⟩:∃ y,cO[i]?=some y:=⟨cO[i]'(by rw [jz]; exact i5),List.getElem?_eq_getElem _⟩
    have:=ok.ws i y hy
    rw [hi] at this; cases this
    exact QY hy
 | _=>exact h.elim
noncomputable def LW (D:List V→List V→DE) (vs kvs:List V) (σ:St) (Q:V→St→Prop):Prop:=D vs kvs σ fun v σ1=>EQ v σ1 Q
theorem CBs.fob {f:Value} {ks:List Str} {D:List V→List V→DE} (ok:G.Ok) (hGn:G.Gn=AllBare) (h:∀ hp,CBs (G.pv AllBare hp) lv f ks D):CB G lv f ks (cj (LW D)):=by
 refine fun vs kvs σ Q hd A env X s vals kvals ha R Wv Wk=>?_
 apply bc;intro z_
 obtain ⟨p1,p2,hd⟩:=mu hd
 obtain ⟨hp,R2,back⟩:=R.hide hGn
 obtain ⟨h1,h2⟩:=h hp vs kvs ⟨[],[],0⟩ _ hd A env X s vals kvals ha R2 (RepVs.pure (X:=X) (fun _ _ e=>e) (fun _ _ _=>rfl) Wv p1) (RepVs.pure (X:=X) (fun _ _ e=>e) (fun _ _ _=>rfl) Wk p2)
 apply z_;clear z_
 refine ⟨h1,Qv h2 (fun val s' y_=>?_) fun _ _ z=>z⟩
 apply bc;intro z_
 obtain ⟨⟨v,σ',X',q,L,_,R',Wr⟩,same⟩:=y_
 obtain ⟨w,σ2,X2,q2,L2,_,R3,W3⟩:=ER (ok.pv AllBare hp) q R' Wr
 obtain ⟨q3,q4⟩:=mw q2
 obtain ⟨L4,R4⟩:=back σ2 X2 s' (L.trans L2 (Q3 _)) R3 same
 apply z_;clear z_
 exact ⟨w,σ,{X2 with ρ:=X.ρ},q4,L4,QF _,R4,RepV.pure (X:=X2) (X':={X2 with ρ:=X.ρ}) (fun _ _ e=>e) (fun _ _ _=>rfl) W3 q3⟩
theorem wj {C:Nat} {vs:List V} {val:Value} (R:Rel G X env σ s) (W:RepV X n (.fob C vs) val) :
  ∃ (a:Addr) (od:Obj) (m:Str→Option Value) (vals:List Value),val=.ref a∧(∃ d,InstAt s.heap a (instObj C d) C (some od))∧RepVs X n vs vals∧vals.length=5∧(∀ (k:Nat) (x:Str),cO[k]?=some x→m x=vals[k]?)∧(∀ (x:Str) (v:Value),m x=some v→x∈cO)∧∀ name,lookIn name od=some (m name):=by
 cases (W.inv:AtFob X n C vs val) with
 | mk a d od vals h hd hP ho hs=>
  apply bc;intro z_
  obtain ⟨es,ep,m,e1,e2,e3,e4,e5,e6,e7⟩:=ho
  apply z_;clear z_
  refine ⟨a,od,m,vals,rfl,⟨d,R.sub _ _ h,rfl,rfl,R.sub _ _ hd⟩,hs,e5,e6,e7,?_⟩
  apply bc;intro z_
  obtain ⟨o',ho',hk⟩:=me (h:=s.heap) (a:=d) (m:=m) ⟨od,es,ep,R.sub _ _ hd,e1,e2,e4⟩
  apply z_;clear z_
  rw [R.sub _ _ hd] at ho'; cases ho'
  exact hk
noncomputable def CC (C0 i:Nat) (v:V) (σ:St) (Q:V→St→Prop):Prop:=match v with
 | .fob C vs=>onT (Nat.beq C C0) (onS (gh vs i) fun w=>Q w σ)
 | v=>rK C0 i v σ Q
theorem tp {C0 i:Nat} {name:Str} {v:V} {val:Value} {Q:V→St→Prop} {expr:Bool} (ok:G.Ok) (hC:ClsOk G.K C0) (hi:G.an[i]?=some name) (hn:findIn G.K (.ref C0) name=some none) (h:CC C0 i v σ Q) (R:Rel G X env σ s) (W:RepV X σ.nx v val) :
  wpAny (model G.prog G.w) A (getAttr val name expr) (Post G X env σ.nx Q) bh s:=by
 cases v with
 | fob C vs=>
  apply bc;intro z_
  obtain ⟨hc,h2⟩:=onT.out h
  obtain ⟨w,hw,h3⟩:=onS.out h2
  apply z_;clear z_
  cases QP hc
  rw [dR] at hw
  apply bc;intro z_
  obtain ⟨a,od,m,vals,rfl,⟨d,I⟩,Ws,h5,hm,_,hk⟩:=wj R W
  obtain ⟨wv,hv,Ww⟩:=Ws.get hw
  apply z_;clear z_
  have i5:i<cO.length:=by rw [jz,← h5]; exact (List.getElem?_eq_some_iff.mp hv).1
  have hx:cO[i]?=some (cO[i]'i5):=List.getElem?_eq_getElem _
  have hy:=ok.ws i _ hx
  rw [hi] at hy
  have hy:=Option.some.inj hy
  have:=hm i _ hx
  rw [← hy,hv] at this
  exact get_value (R.K ok) I hC.hga (findObj_own hC.hd hn rfl (by rw [hk,this])) Ww.handed (Post.ret h3 (R.toks _) Ww)
 | _=>exact kB ok hC hi hn h R W
noncomputable def sT (d:DE) (C0 i:Nat):DE:=fun σ Q=>d σ fun v σ1=>CC C0 i v σ1 Q
theorem dW {e:PySem.Expr} {name:Str} {p:Pos} {d:DE} {C0 i:Nat} (ok:G.Ok) (hC:ClsOk G.K C0) (hi:G.an[i]?=some name) (hn:findIn G.K (.ref C0) name=some none) (he':SE G lv sc e d) (hb:∀ env,attributeBase e name env (eval e env)=eval e env):SE G lv sc (.Attribute e name p) (sT d C0 i):=fun σ Q hd A env X s ha he R=>
 fe he' hb hd ha he R fun val s1 v σ1 X1 k1 L1 n1 R1 W1=>Qv (tp ok hC hi hn k1 R1 W1) (fun _ _ z=>Post.lift L1 n1 z) fun _ _ z=>z
noncomputable def MK (C0 j:Nat) (v:V) (σ:St) (P:Prop):Prop:=match v with
 | .fob C _=>onT (Nat.beq C C0) (onT (Nat.ble 5 j) P)
 | v=>lG C0 v σ fun _ at_=>noS (aj j at_) P
theorem kc {o:PySem.Expr} {name:Str} {do_:DE} {C0 j:Nat} {f:Addr} {ks:List Str} {D:List V→List V→DE} (ok:G.Ok) (hC:ClsOk G.K C0) (hj:G.an[j]?=some name) (hf:findIn G.K (.ref C0) name=some (some (.ref f))) (ht:typeIn G.K (.ref f)=some (.type "function"))
  (ho:SE G lv sc o do_) (hc:CB G lv (.ref f) ks D) :
  SM G lv sc o name ks (fun σ K=>do_ σ fun v σ1=>MK C0 j v σ1 (K (fun vs kvs=>D (v::vs) kvs) σ1)):=fun σ K hd A env X s ha he R=>by
 refine ho.run hd ha he R fun ov s1 v σ1 X1 k1 L1 n1 R1 W1=>fun pl Q' k=>?_
 cases v with
 | fob C vs=>
  apply bc;intro z_
  obtain ⟨hc',k2⟩:=onT.out k1
  obtain ⟨h5,k3⟩:=onT.out k2
  apply z_;clear z_
  cases QP hc'
  apply bc;intro z_
  obtain ⟨a,od,m,vals,rfl,⟨d,I⟩,Ws,hv5,hm,hin,hk⟩:=wj R1 W1
  apply z_;clear z_
  have hno:m name=none:=by
   cases q:m name with
   | none=>rfl
   | some w=>
    apply bc;intro z_
    obtain ⟨i,hi⟩:=List.getElem?_of_mem (hin name w q)
    have:=ok.ws i name hi
    obtain ⟨hi',ei⟩:=List.getElem?_eq_some_iff.mp this
    obtain ⟨hj',ej⟩:=List.getElem?_eq_some_iff.mp hj
    apply z_;clear z_
    have:=(List.getElem_inj ok.annd).mp (ei.trans ej.symm)
    have hw:=(List.getElem?_eq_some_iff.mp hi).1
    rw [jz,this] at hw
    exact absurd hw (QT (QD h5))
  exact method_fn (R1.K ok) I hC.hga hC.hk hf ht (by unfold shadowIn; dsimp only; rw [hk,hno]; rfl) (k _ _ _ _ _ _ k3 L1 n1 R1 (CFok.of (fv:=[.fob C0 vs]) hc (.cons W1 .nil)))
 | _=>exact sj ok hC hj hf ht k1 R1 W1 fun k1=>k _ _ _ _ _ _ k1 L1 n1 R1 (CFok.of (fv:=[_]) hc (.cons W1 .nil))
noncomputable def Glob.start (G:Glob):Wd:=⟨fun _=>0,fun a=>if a=G.T then none else G.hb.get? a,#[],fun _=>false⟩
set_option tactic.hygienic true in
theorem Dx {f:Addr} {fd:FuncData} {body:List PySem.Stmt} {db:DS} {x:Str} {v:V} {val:Value} {Qf:Fl→St→Prop} {R':Result→Shared→Prop} (ok:G.Ok) (F:FnOk G f fd body sc) (hx:sc.names[0]?=some (x,.local)) (hb:i8 G lv sc body db)
  (hs:s.heap=G.hb) (hT:s.heap.get? G.T=some (B8 #[])) (htb:G.TbOk G.start.F #[]) (hos:s.os=G.os) (hdr:s.drawn=G.drawn) (hg:G.Gn s.gens) (hhp:G.Hp=fun _=>none) (ha:AOk (lv+1) A) (W:RepV G.start 0 v val)
  (hbind:Looks (model G.prog G.w) s.heap (bindArgs fd ⟨[val],[]⟩) [(x,val)]) (hd:db ⟨[(0,v)],[],0⟩ Qf)
  (k:∀ fl rv s' σ' X' env',Qf fl σ'→G.start.le 0 X'→Rel G X' env' σ' s'→RepV X' σ'.nx (mx fl) rv→R' (.ok (.ret rv)) s'):codeAny (model G.prog G.w) A (.call (.ref f) ⟨[val],[]⟩) R' s:=by
 apply bc;intro z_
 obtain ⟨⟨o,ho,hdat⟩,hbody,hclo,hgl,hbi,hco,hgen,hkd,⟨c,oc,cvs,t,hc1,hc2,hc3,hc4⟩,hnm,hfn,hnd,hcs⟩:=F
 apply z_;clear z_
 have KI:G.K.In s.heap:=by rw [hs]; exact ok.K
 have hroom:A.depth<recursionLimit:=by have:=ha.depth; omega
 refine codeAny_call_function hroom (KI _ _ ho) hdat hco hgen hbody ⟨c,oc,cvs,t,hc1,KI _ _ hc2,hc3,hc4⟩ ?_
 refine hbind.here ?_
 rw [hclo,hgl,hbi]
 have hl:=dN hnd hx
 rw [hnm] at hl
 refine wpAny_newFunctionEnv_cells hkd (fun p hp=>?_) fun env' he' s2 x'=>?_
 ·simp only [List.mem_cons,List.not_mem_nil,or_false] at hp
  subst hp
  exact .inl hl
 ·apply bc;intro z_
  obtain ⟨⟨hsame,hns,hkeep,hfresh⟩,hcell,hapart,habove⟩:=x'
  obtain ⟨h2,tk2,rfl⟩:=hsame
  apply z_;clear z_
  have eC:env'.cells=cellsFrom (s.heap.objs.size+1) fd.scope.names []:=by rw [he']; rfl
  have big:∀ {a:Addr},s.heap.objs.size≤a→G.start.F a=none:=fun {a} h=>by
   show (if a=G.T then none else G.hb.get? a)=none
   split
   ·rfl
   ·rw [← hs]
    cases q:s.heap.get? a with
    | none=>rfl
    | some o=>exact absurd (QO q) (QT h)
  have notT:∀ {a:Addr},s.heap.objs.size≤a→a≠G.T:=fun {a} h w=>by
   rw [← w] at hT
   exact absurd (QO hT) (QT h)
  have cbig:∀ {x:Str} {c:Addr},env'.cells.lookup x=some c→s.heap.objs.size≤c:=fun e=>QC hfresh (Nat.le_of_lt (habove _ _ (mem_of_lookup e)))
  have R2:Rel G G.start env' ⟨[(0,v)],[],0⟩ {s with heap:=h2,toks:=tk2}:=by
   refine ⟨fun a o e=>?_,fun a o e q=>?_,(fun _ _ e=>nomatch e),(fun _ _ _ _ e=>nomatch e),(fun _ _ e=>nomatch e),(fun _ _ e=>nomatch e),⟨hkeep _ _ hT,QI rfl,htb⟩,?_,hos,hdr,hg,fun a o e=>by rw [hhp] at e; cases e⟩
   ·have e:(if a=G.T then none else G.hb.get? a)=some o:=e
    split at e
    ·first | exact nS e | exact nB e | cases e
    ·rw [← hs] at e; exact hkeep _ _ e
   ·show (if a=G.T then none else G.hb.get? a)=some o
    rw [QH q]; exact e
   ·refine ⟨⟨_,_,hns,hcell,fun i w e=>?_⟩,⟨big hfresh,(fun _ _ e=>nomatch e),notT hfresh⟩,fun _ x c e=>⟨big (cbig e),(fun _ _ e=>nomatch e),Q7 (habove _ _ (mem_of_lookup e)),notT (cbig e)⟩,fun w=>absurd (by rw [he']; rfl) w,hapart⟩
    rw [am] at e
    split at e
    ·rename_i q
     subst q
     cases e
     refine ⟨x,.local,val,by rw [he']; show fd.scope.names[0]?=_; rw [← hnm]; exact hx,W,.inl ⟨rfl,ff (by rw [he']; exact hl) (by simp) (by simp)⟩⟩
    ·first | exact nS e | exact nB e | cases e
  have hE:EOk sc env':=by
   refine ⟨by rw [he']; exact hnm.symm,by rw [he']; exact hkd,by rw [he']; rfl,by rw [he']; rfl,hnd,fun _=>by rw [he']; rfl,fun x hx=>?_,fun h=>by rw [he']; exact ⟨(hcs h).1,(hcs h).2.symm⟩⟩
   rw [eC]
   rw [hnm] at hx
   exact cE _ _ _ _ (.inl hx)
  have hA:AOk lv (A.deeper env'):=ha.up 1 3 rfl rfl rfl (by decide) (by decide)
  have hno:s.heap.NoLimit:=by rw [hs]; exact ok.nolimit
  refine ⟨hno.keeps hkeep,codeAny_func ?_⟩
  refine Qv (hb ⟨[(0,v)],[],0⟩ _ hd (A.deeper env') env' _ _ hA hE R2) (fun fl s3 y_=>?_) fun _ _ z=>z.elim
  apply bc;intro z_
  obtain ⟨fv,σ3,X3,q3,L3,n3,R3,W3⟩:=y_
  apply z_;clear z_
  cases W3 with
  | next=>exact k _ _ _ _ _ _ q3 L3 R3 .non
  | brk=>exact k _ _ _ _ _ _ q3 L3 R3 .non
  | cont=>exact k _ _ _ _ _ _ q3 L3 R3 .non
  | ret v val W=>exact k _ _ _ _ _ _ q3 L3 R3 W
set_option tactic.hygienic true in
set_option tactic.hygienic true in
noncomputable def Oc:List Nat→List Nat→Bool
 | [],y=>(match y with | []=>false | _::_=>true)
 | a::r,y=>(match y with
  | []=>false
  | b::t=>(match Nat.ble (a+1) b with
   | true=>true
   | false=>and (Nat.beq a b) (Oc r t)))
theorem w9:∀ {x y:List Nat},decide (x<y)=Oc x y
 | [],[]=>rfl
 | [],_::_=>rfl
 | _::_,[]=>rfl
 | a::r,b::t=>by
  show _=(match Nat.ble (a+1) b with
   | true=>true
   | false=>and (Nat.beq a b) (Oc r t))
  rw [← w9 (x:=r) (y:=t),dY]
  cases q:Nat.ble (a+1) b with
  | true=>
   have h:a<b:=QD q
   simp [h,List.cons_lt_cons_iff]
  | false=>
   have h:¬ a<b:=fun h=>by rw [QQ h] at q; cases q
   simp [h,List.cons_lt_cons_iff]
noncomputable def vS (i:Int):Option (List Nat):=match i with
 | .ofNat n=>(match Nat.ble n 9 with
  | true=>some [48+n]
  | false=>none)
 | _=>none
set_option tactic.hygienic true in
theorem oC {i:Int} {x:List Nat} (h:vS i=some x):Str.ofString (toString i)=⟨x.toArray⟩∧i.natAbs.log2<1920∧x.length≤1000000:=by
 unfold vS at h
 split at h
 ·rename_i n
  split at h
  ·rename_i q
   cases h
   have:∀ n<10,Str.ofString (toString (Int.ofNat n))=⟨[48+n].toArray⟩∧(Int.ofNat n).natAbs.log2<1920:=by decide +kernel
   have q:=QD q
   obtain ⟨h1,h2⟩:=this n (Nat.lt_succ_of_le q)
   exact ⟨h1,h2,Nat.succ_le_of_lt (Nat.succ_pos _)⟩
  ·first | exact nS h | exact nB h | cases h
 ·first | exact nS h | exact nB h | cases h
noncomputable def Er (v:V) (σ:St) (Q:List Nat→St→Prop):Prop:=aZ v fun i=>onS (vS i) fun x=>Q x σ
noncomputable def PA (vs:List V) (σ:St) (Q:V→St→Prop):Prop:=nV vs fun v=>Er v σ fun x=>Q (.str x)
noncomputable def CH (v:V) (σ:St):Option Nat:=match v with
 | .loc l=>(match aj l σ.st with
  | some (.dict kvs)=>some kvs.length
  | _=>none)
 | _=>none
noncomputable def Ms (vs:List V) (σ:St) (Q:V→St→Prop):Prop:=nV vs fun v=>onS (CH v σ) fun n=>fits n (Q (.int n) σ)
theorem Lo {l r:PySem.Expr} {dl dr:DE} {p:Pos} (hl:SE G lv sc l dl) (hr:SE G lv sc r dr) (hm:behindInMarks .Gt r=false) :
  SB G lv sc (.Compare l [.Gt] [r] p) (fun σ Q=>dl σ fun a σ1=>dr σ1 fun b σ2=>bv a fun x=>bv b fun y=>Q (Oc y x) σ2):=fun σ Q hd A env X s ha he R=>by
 refine wpAny_isTrue_Compare1 (hl.run hd ha he R fun va s1 a σ1 X1 k1 L1 n1 R1 W1=>hr.run k1 ha he R1 fun vb s2 b σ2 X2 k2 L2 n2 R2 W2=>?_) hm
 refine W1.str_ k2 fun x t k2=>W2.str_ k2 fun y u k2=>?_
 exact PySem.P.gt_str (wpAny_truthy_bool (PostB.lift (L1.trans L2 n1) (QC n1 n2) (PostB.ret (by rw [show ∀ a:List Nat,(⟨a.toArray⟩:Str).cps.toList=a from fun a=>rfl,show ∀ a:List Nat,(⟨a.toArray⟩:Str).cps.toList=a from fun a=>rfl,w9]; exact k2) R2)))
theorem lQ {l r:PySem.Expr} {dl dr:DE} {p:Pos} (hl:SE G lv sc l dl) (hr:SE G lv sc r dr) (hm:behindInMarks .In r=false) :
  SB G lv sc (.Compare l [.In] [r] p) (fun σ Q=>dl σ fun a σ1=>dr σ1 fun b σ2=>bv a fun x=>oneC x fun c=>bv b fun y=>Q (iL c y) σ2):=fun σ Q hd A env X s ha he R=>by
 refine wpAny_isTrue_Compare1 (hl.run hd ha he R fun va s1 a σ1 X1 k1 L1 n1 R1 W1=>hr.run k1 ha he R1 fun vb s2 b σ2 X2 k2 L2 n2 R2 W2=>?_) hm
 refine W1.str_ k2 fun x t k2=>?_
 apply bc;intro z_
 obtain ⟨c,rfl,k2⟩:=oneC.out k2
 apply z_;clear z_
 refine W2.str_ k2 fun y u k2=>?_
 have e:(!(Builtin.Str.occurrences ⟨y.toArray⟩ ⟨[c].toArray⟩ 0 (⟨y.toArray⟩:Str).length 1).isEmpty)=iL c y:=by
  rw [show (⟨[c].toArray⟩:Str)=⟨#[c]⟩ from rfl,StrLaws.found_one]
  cases q:iL c y with
  | true=>exact QS (lZ q)
  | false=>exact QR (l3 q)
 exact PyProof.Rows.in_str (e.symm ▸ wpAny_truthy_bool (PostB.lift (L1.trans L2 n1) (QC n1 n2) (PostB.ret k2 R2)))
theorem La {e:PySem.Expr} {d:DE} {p:Pos} {es:List PySem.Expr} {ds:Dq} (h:SE G lv sc e d) (hs:zI G lv sc es ds) (hev:∀ env,evalEach (.FormattedValue e (-1) none p::es) env=eval (.FormattedValue e (-1) none p) env::evalEach es env) :
  zI G lv sc (.FormattedValue e (-1) none p::es) (fun σ Q=>d σ fun v σ1=>Er v σ1 fun x σ2=>ds σ2 fun y σ3=>Q (x++y) σ3):=
 pQ (d:=fun σ Q=>d σ fun v σ1=>Er v σ1 Q) (fun σ Q hd A env X s ha he R=>by
  refine wpAny_FormattedValue_plain (h.run hd ha he R fun val s1 v σ1 X1 k1 L1 n1 R1 W1=>?_)
  refine W1.int_ k1 fun i t k1=>?_
  apply bc;intro z_
  obtain ⟨x,q,k1⟩:=onS.out k1
  obtain ⟨h1,h2,h3⟩:=oC q
  apply z_;clear z_
  exact wpAny_formatField_int h2 (h1.symm ▸ ⟨x,_,σ1,X1,rfl,h3,k1,L1,n1,R1.toks _⟩)) hs hev
theorem Ci:CB G lv (.type "str") [] (fun vs _=>PA vs):=CB.of (fun a w=>by cases w) fun vs σ Q hd A env X s vals ha R W=>by
 refine W.on1_ hd fun v val Wv hd=>Wv.int_ hd fun i t hd=>?_
 obtain ⟨x,q,hd⟩:=onS.out hd
 obtain ⟨h1,h2,_⟩:=oC q
 exact PySem.P.str_of_int h2 (h1.symm ▸ Post.ret hd (R.toks _) (.str x _))
set_option tactic.hygienic true in
theorem Do:CB G lv (.builtin "len") [] (fun vs _=>Ms vs):=CB.of (fun a w=>by cases w) fun vs σ Q hd A env X s vals ha R W=>by
 refine W.on1_ hd fun v val Wv hd=>?_
 apply bc;intro z_
 obtain ⟨m,e,hd⟩:=onS.out hd
 obtain ⟨hz,q⟩:=fits.out hd
 apply z_;clear z_
 cases v with
 | loc l=>
  cases (Wv.inv:val=.ref (X.ρ l))
  unfold CH at e
  dsimp only at e
  split at e
  ·rename_i kvs q1
   cases e
   apply bc;intro z_
   obtain ⟨_,kvals,h1,h2⟩:=R.st l _ q1
   apply z_;clear z_
   have hlen:=gC h2
   exact call_len_dict (gI R q1) h1 (by rw [hlen]; omega) (hlen.symm ▸ Post.ret q (R.toks _) (.int _ _))
  ·first | exact nS e | exact nB e | cases e
 | _=>first | exact nS e | exact nB e | cases e
noncomputable def uT (i:Nat) (d:DE):DS:=fun σ Q=>fO i σ fun old σ0=>d σ0 fun v σ1=>bv old fun a=>bv v fun b=>fits (a.length+b.length) (Q .next (dm i (.str (a++b)) σ1))
theorem DG {i:Nat} {x:Str} {k:NameKind} {e:PySem.Expr} {d:DE} {p q:Pos} (hN:NamesOk sc) (hx:sc.names[i]?=some (x,k)) (hk:k=.local∨(k=.cell∧sc.fn=true)) (h:SE G lv sc e d):SS G lv sc (.AugAssign (.Name x p) .Add e q) (uT i d):=fun σ Q hd A env X s ha he R=>by
 refine wpAny_AugAssign_Name (Qv (kH hx hd he R (hN.at_ hx (by rcases hk with h | ⟨h,_⟩ <;> subst h <;> rfl)).2) (fun vo s0 y_=>?_) fun _ _ z=>z)
 apply bc;intro z_
 obtain ⟨old,σ0,X0,q0,L0,n0,R0,W0⟩:=y_
 apply z_;clear z_
 refine h.run q0 ha he R0 fun va s1 a σ1 X1 k1 L1 n1 R1 W1=>?_
 refine W0.str_ k1 fun a t k1=>W1.str_ k1 fun b u k1=>?_
 apply bc;intro z_
 obtain ⟨hz,k1⟩:=fits.out k1
 apply z_;clear z_
 refine PyProof.Rows.iadd_str (fun t' tk=>?_) (by rw [bl,bl,QN]; omega)
 rw [fH]
 exact ia hx hk he (R1.toks tk) (.str _ _) fun s3 R3=>⟨.next,_,X1,k1,L0.trans L1 n0,QC n0 n1,R3,.next⟩
noncomputable def MA (i j:Int) (σ:St) (Q:V→St→Prop):Prop:=match decide (j<i) with
 | true=>Q (.int j) σ
 | false=>Q (.int i) σ
noncomputable def Pe (vs:List V) (σ:St) (Q:V→St→Prop):Prop:=nV vs fun v=>sM v fun xs=>uo xs fun a b=>aZ a fun i=>aZ b fun j=>MA i j σ Q
noncomputable def neg1 (c:Int) (P:Prop):Prop:=match c with | .negSucc 0=>P | _=>False
theorem neg1.out {c:Int} {P:Prop} (h:neg1 c P):c = -1∧P:=by
 cases c with
 | ofNat=>exact h.elim
 | negSucc n=>cases n with
  | zero=>exact ⟨rfl,h⟩
  | succ=>exact h.elim
noncomputable def LJ (vs:List V) (σ:St) (K:(Nat→St→Option (Option V))→St→Prop):Prop:=G0 vs fun a b c=>aZ a fun a=>aZ b fun b=>aZ c fun c=>neg1 c (tV a b (-1) σ K)
theorem KN:CB G lv (.builtin "min") [] (fun vs _=>Pe vs):=CB.of (fun a w=>by cases w) fun vs σ Q hd A env X s vals ha R W=>by
 refine W.on1_ hd fun v val Wv hd=>Wv.tup_ hd fun xs items T o ho hl hs hd=>?_
 revert hl
 refine hs.on2_ hd fun a b va vb Wa Wb hd=>Wa.int_ hd fun i t hd=>Wb.int_ hd fun j u hd=>fun hl=>?_
 have hT:s.heap.IsTuple T (intItems #[(i,t),(j,u)]):=⟨o,R.sub _ _ ho,hl.1,by obtain ⟨ep,h⟩:=hl.2.2.1; exact ⟨ep,h.trans (by simp [intItems])⟩⟩
 have hTl:T<s.heap.objs.size:=QO (R.sub _ _ ho)
 refine call_min_walk (wpAny_pyIter_tuple hT ⟨s.heap.objs.size,[s.heap.objs.size,T],[s.heap.objs.size],_,_,_,_,rfl,Walks.tuple (A:=A.in1) ha.handled s.heap.objs.size T (Q8 hTl) (intItems #[(i,t),(j,u)]),
  ⟨⟨_,QG _ rfl,rfl,rfl⟩,hT.push _⟩,fun c hc=>?_,by simp [intItems],CmpOf.ints_lt (numAt #[(i,t),(j,u)]) (fun _ _=>intItems_at),fun v h' tk hP hk=>?_⟩)
 ·show c<(s.heap.push _).objs.size
  rw [Heap.size_push]
  rcases List.mem_cons.mp hc with rfl | hc
  ·exact QK _
  ·rw [List.mem_singleton.mp hc]; exact Q4 hTl
 ·have R':=R.keeps (s':={s with heap:=h',toks:=tk}) (fun b o e=>hk b o (fun hm=>Q8 (QO e) (List.mem_singleton.mp hm)) (QB _ e)) rfl rfl R.gens
  have h1:(intItems #[(i,t),(j,u)]).size - 1=1:=by simp [intItems]
  rw [h1] at hP
  unfold MA at hd
  by_cases q:j<i
  ·rw [QS q] at hd
   have e:argBest (fun x y=>decide (numAt #[(i,t),(j,u)] x<numAt #[(i,t),(j,u)] y)) 1=1:=by simp [argBest,numAt,q]
   rw [e] at hP
   cases (show some (Value.int j u)=some v by simpa [intItems] using hP)
   exact Post.ret hd R' (.int _ _)
  ·rw [QR q] at hd
   have e:argBest (fun x y=>decide (numAt #[(i,t),(j,u)] x<numAt #[(i,t),(j,u)] y)) 1=0:=by simp [argBest,numAt,q]
   rw [e] at hP
   cases (show some (Value.int i t)=some v by simpa [intItems] using hP)
   exact Post.ret hd R' (.int _ _)
theorem yi {a b:Int}:((Builtin.Range.rangeSize a b (-1)).toNat:Int)=Builtin.Range.rangeSize a b (-1):=by
 refine Int.toNat_of_nonneg ?_
 unfold Builtin.Range.rangeSize
 rw [QH (by decide)]
 split
 ·exact Int.add_nonneg (Int.ediv_nonneg (by omega) (by decide)) (by decide)
 ·exact Int.le_refl _
theorem uM (ok:G.Ok):CI G lv tg (.type "range") LJ:=fun vs σ K hd A env X s vals ha R W=>by
 refine W.on3_ hd fun u v w _ _ _ Wa Wb Wc hd=>Wa.int_ hd fun a t hd=>Wb.int_ hd fun b t' hd=>Wc.int_ hd fun c t'' hd=>?_
 apply bc;intro z_
 obtain ⟨rfl,hd⟩:=neg1.out hd
 obtain ⟨q,h⟩:=onT.out hd
 apply z_;clear z_
 refine call_range_3 (by intro e; cases e) (wpAny_pyIter_range (IsRange.new ..) q (Itd.new (t:=s.toks) (I:=fun it i h=>IsRangeIter h it (a+(i:Nat)*(-1)) (((Builtin.Range.rangeSize a b (-1)).toNat:Int) - (i:Nat)) (-1))
  (o:={cls:=.type "range_iterator",data:=.fields #[rawInt a,rawInt (Builtin.Range.rangeSize a b (-1)),rawInt (-1)]}) ok (R.push _ _) ⟨rfl,_,rfl⟩ rfl h (fun e=>?_) fun it h2 h3=>Itr.range ok h2 h3)) (.inl (PyProof.noPylong_small (by decide)))
 show IsRangeIter _ _ (a+((0:Nat):Int)*(-1)) (((Builtin.Range.rangeSize a b (-1)).toNat:Int) - ((0:Nat):Int)) _
 rw [Int.natCast_zero,Int.zero_mul,Int.add_zero,Int.sub_zero,yi]
 exact e
theorem K5 {o i:PySem.Expr} {p:Pos} {do_ di:DE} {D:List V→List V→DE} {C0 f:Addr} (ok:G.Ok) (hq:noSeq G.K C0=true) (hs:findIn G.K (.ref C0) "__setitem__"=some (some (.ref f))) (hf:typeIn G.K (.ref f)=some (.type "function"))
  (ho:SE G lv sc o do_) (hi:SE G lv sc i di) (hc:CB G lv (.ref f) [] D) :
  ST G lv sc (.Subscript o i p) (fun v σ Q=>do_ σ fun ov σ1=>di σ1 fun iv σ2=>lG C0 ov σ2 fun _ _=>D [ov,iv,v] [] σ2 fun _ σ3=>Q σ3):=fun v σ Q hd A env X s val ha he R W=>by
 refine kas_sub (ho.run hd ha he R fun ov s1 o1 σ1 X1 k1 L1 n1 R1 W1=>hi.run k1 ha he R1 fun iv s2 i2 σ2 X2 k2 L2 n2 R2 W2=>?_)
 have L12:=L1.trans L2 n1
 have n12:=QC n1 n2
 have W1':=W1.mono L2 n2
 obtain ⟨l,a,at_,od,m,rfl,hl,rfl,hF,hk,I,_,_,_,_,_,k2⟩:=eT k2 R2 W1'
 unfold setItem sequenceKey
 refine Qw (Qt (Qt (I.type.here ?_)))
 refine Qt ((anyM_none (R2.K ok) hq).here ?_)
 rw [QI (show (!false)=true from rfl)]
 refine Qu (Qt (special_fn (R2.K ok) I hs hf ?_))
 refine Qv (hc [.obj C0 l,i2,v] [] σ2 _ k2 A env X2 s2 [.ref a,iv,val] [] ha R2 (.cons W1' (.cons W2 (.cons (W.mono L12 n12) .nil))) .nil).2 (fun r s3 ⟨v3,σ3,X3,q3,L3,n3,R3,_⟩=>Qu ⟨σ3,X3,q3,L12.trans L3 n12,QC n12 n3,R3⟩) fun _ _ z=>z
theorem uY {o i:PySem.Expr} {p q:Pos} {do_ di:DE} {D:List V→List V→DE} {C0 f:Addr} (ok:G.Ok) (hq:noSeq G.K C0=true) (hs:findIn G.K (.ref C0) "__delitem__"=some (some (.ref f))) (hf:typeIn G.K (.ref f)=some (.type "function"))
  (ho:SE G lv sc o do_) (hi:SE G lv sc i di) (hc:CB G lv (.ref f) [] D) :
  SS G lv sc (.Delete [.Subscript o i p] q) (fun σ Q=>do_ σ fun ov σ1=>di σ1 fun iv σ2=>lG C0 ov σ2 fun _ _=>D [ov,iv] [] σ2 fun _ σ3=>Q .next σ3):=fun σ Q hd A env X s ha he R=>by
 refine wpAny_Delete (wpAny_deleteEach_cons ?_)
 show wpAny _ _ (do
  let ov ← eval o env
  let iv ← holding [ov] (eval i env)
  standAt p
  holding [ov,iv] (delItem ov iv)
  release [ov,iv] []) _ _ _
 refine Qt (ho.run hd ha he R fun ov s1 o1 σ1 X1 k1 L1 n1 R1 W1=>Qt (Qw (hi.run k1 ha he R1 fun iv s2 i2 σ2 X2 k2 L2 n2 R2 W2=>Qt (Qx (Qt (Qw ?_))))))
 have L12:=L1.trans L2 n1
 have n12:=QC n1 n2
 have W1':=W1.mono L2 n2
 obtain ⟨l,a,at_,od,m,rfl,hl,rfl,hF,hk,I,_,_,_,_,_,k2⟩:=eT k2 R2 W1'
 unfold delItem sequenceKey
 refine Qw (Qt (Qt (I.type.here ?_)))
 refine Qt ((anyM_none (R2.K ok) hq).here ?_)
 rw [QI (show (!false)=true from rfl)]
 refine Qu (Qt (special_fn (R2.K ok) I hs hf ?_))
 refine Qv (hc [.obj C0 l,i2] [] σ2 _ k2 A env X2 s2 [.ref a,iv] [] ha R2 (.cons W1' (.cons W2 .nil)) .nil).2 (fun r s3 ⟨v3,σ3,X3,q3,L3,n3,R3,_⟩=>Qu (wpAny_release (wpAny_deleteEach_nil ⟨.next,σ3,X3,q3,L12.trans L3 n12,QC n12 n3,R3,.next⟩))) fun _ _ z=>z
theorem lP {ts:List PySem.Expr} {e:PySem.Expr} {d:DE} {dt:DT} {p:Pos} (h:SE G lv sc e d) (ht:Lg G lv sc ts dt) (h1:∀ env,EOk sc env→swapsWithSole ts e p.line env=pure false) (h2:∀ env,EOk sc env→swappedStores ts e env=pure none) :
  SS G lv sc (.Assign ts e p) (fun σ Q=>d σ fun v σ1=>dt v σ1 fun σ2=>Q .next σ2):=fun σ Q hd A env X s ha he R=>by
 refine wpAny_Assign_stores (h.run hd ha he R fun va s1 a σ1 X1 k1 L1 n1 R1 W1=>?_) (h1 env he) (h2 env he)
 refine Qv (ht a σ1 _ k1 A env X1 s1 va ha he R1 W1) (fun _ s2 y_=>?_) fun _ _ z=>z
 apply bc;intro z_
 obtain ⟨σ2,X2,q,L2,n2,R2⟩:=y_
 apply z_;clear z_
 exact ⟨.next,σ2,X2,q,L1.trans L2 n1,QC n1 n2,R2,.next⟩
theorem Lk {body:List PySem.Stmt} {h₀:ExceptHandler} {hs:List ExceptHandler} {p:Pos} {d:DS} (h:i8 G lv sc body d):SS G lv sc (.Try body (h₀::hs) [] [] p) d:=fun σ Q hd A env X s ha he R=>by
 refine wpAny_Try_except (Qv (h σ Q hd A env X s ha he R) (fun f s1 z=>?_) fun _ _ z=>z.elim)
 cases f with
 | next=>exact wpAny_execs_nil z
 | _=>exact z
noncomputable def zf (vs:List V) (σ:St) (Q:V→St→Prop):Prop:=nV vs fun u=>hM u σ fun l xs=>onT (Nat.ble xs.length 1) (Q .non (gr l (.list xs) σ))
noncomputable def lI:List Nat→List Nat→Bool
 | [],_=>true
 | _::_,[]=>false
 | a::p,b::x=>(match Nat.beq a b with
  | true=>lI p x
  | false=>false)
theorem nv:∀ {p x:List Nat},lI p x=(x.take p.length==p)
 | [],x=>by simp [lI]
 | a::p,[]=>by simp [lI]
 | a::p,b::x=>by
  unfold lI
  rw [dY]
  by_cases h:a=b
  ·subst h; simp [nv]
  ·have:¬ b=a:=fun w=>h w.symm
   simp [h,this]
noncomputable def gU (p:List Nat) (w:Nat):List Nat→Nat→Nat
 | [],_=>0
 | _::r,k+1=>gU p w r k
 | a::r,0=>(match lI p (a::r) with
  | true=>gU p w r w+1
  | false=>gU p w r 0)
theorem D6 (x p:List Nat) (hp:1≤p.length):∀ (m i free:Nat) (found:Array Nat),i+m=x.length+1→found.size≤i→i≤x.length →
  (forIn (List.range' i m) (found,free) (StrLaws.occBody ⟨x.toArray⟩ ⟨p.toArray⟩ x.length (x.length+1))).run.fst.toList.length=found.size+gU p (p.length - 1) (x.drop i) (free - i):=by
 intro m
 induction m with
 | zero=>
  intro i free found h1 h2 h3
  have h1:i=x.length+1:=h1
  rw [h1] at h3
  exact absurd h3 (Nat.not_succ_le_self _)
 | succ m ih=>
  intro i free found h1 h2 h3
  have h1':i+1+m=x.length+1:=(Nat.add_right_comm i 1 m).trans h1
  rw [List.range'_succ,List.forIn_cons]
  have hsub:Builtin.Str.subAt ⟨x.toArray⟩ ⟨p.toArray⟩ i=lI p (x.drop i):=by rw [StrLaws.subAt_eq,nv]; rfl
  have hl:(⟨p.toArray⟩:Str).length=p.length:=rfl
  cases hx:x.drop i with
  | nil=>
   have hi:i=x.length:=Nat.le_antisymm h3 (List.drop_eq_nil_iff.mp hx)
   have hm:m=0:=by rw [hi] at h1; exact Nat.succ.inj (Nat.add_left_cancel h1)
   subst hm
   unfold StrLaws.occBody
   rw [QH (fun h=>by have h:=h.1.2; rw [hl,hi] at h; exact Nat.not_succ_le_self _ (QC (Nat.add_le_add_left hp x.length) h))]
   simp [gU]
  | cons a r=>
   have hi:i<x.length:=by
    rcases Nat.lt_or_ge i x.length with h | h
    ·exact h
    ·rw [List.drop_eq_nil_iff.mpr h] at hx; cases hx
   have hr:x.drop (i+1)=r:=by rw [← List.drop_drop,hx]; rfl
   unfold StrLaws.occBody
   rw [hsub,hl]
   by_cases hf:free≤i
   ·have e0:free - i=0:=Nat.sub_eq_zero_of_le hf
    rw [e0,hx]
    cases q:lI p (a::r) with
    | true=>
     have hle:i+p.length≤x.length:=by
      rw [nv,beq_iff_eq] at q
      have h4:=congrArg List.length q
      have h5:=congrArg List.length hx
      rw [List.length_take] at h4
      rw [List.length_drop] at h5
      rw [← h4]
      exact QC (Nat.add_le_add_left (Nat.min_le_right _ _) i) (by rw [← h5,Nat.add_sub_cancel' h3]; exact QF _)
     rw [QI ⟨⟨⟨Nat.lt_succ_of_le (QC h2 h3),hf⟩,hle⟩,rfl⟩]
     have:=ih (i+1) (i+p.length) (found.push i) h1' (by rw [Array.size_push]; exact Nat.succ_le_succ h2) hi
     rw [hr] at this
     refine this.trans ?_
     rw [Array.size_push]
     rw [show gU p (p.length - 1) (a::r) 0=(match lI p (a::r) with
      | true=>gU p (p.length - 1) r (p.length - 1)+1
      | false=>gU p (p.length - 1) r 0) from rfl,q]
     have e1:i+p.length - (i+1)=p.length - 1:=Nat.add_sub_add_left i p.length 1
     rw [e1]
     show found.size+1+gU p (p.length - 1) r (p.length - 1)=found.size+(gU p (p.length - 1) r (p.length - 1)+1)
     rw [Nat.add_assoc,Nat.add_comm 1]
    | false=>
     rw [QH (fun h=>by cases h.2)]
     have:=ih (i+1) free found h1' (Nat.le_succ_of_le h2) hi
     rw [hr] at this
     refine this.trans ?_
     rw [show gU p (p.length - 1) (a::r) 0=(match lI p (a::r) with
      | true=>gU p (p.length - 1) r (p.length - 1)+1
      | false=>gU p (p.length - 1) r 0) from rfl,q]
     have e1:free - (i+1)=0:=Nat.sub_eq_zero_of_le (Nat.le_succ_of_le hf)
     rw [e1]
   ·rw [QH (fun h=>hf h.1.1.2)]
    have:=ih (i+1) free found h1' (Nat.le_succ_of_le h2) hi
    rw [hr] at this
    refine this.trans ?_
    obtain ⟨k,e1⟩:∃ k,free - i=k+1:=Nat.exists_eq_succ_of_ne_zero (Nat.sub_ne_zero_of_lt (Nat.lt_of_not_le hf))
    have e2:free - (i+1)=k:=by rw [Nat.sub_succ,e1]; rfl
    rw [e1,e2]
    rfl
theorem vL {x p:List Nat} (hp:1≤p.length):(Builtin.Str.occurrences ⟨x.toArray⟩ ⟨p.toArray⟩ 0 (⟨x.toArray⟩:Str).length ((⟨x.toArray⟩:Str).length+1)).length=gU p (p.length - 1) x 0:=by
 rw [bl,StrLaws.occ_eq]
 have:=D6 x p hp (x.length+1) 0 0 #[] (by omega) (Q3 _) (Q3 _)
 simpa using this
noncomputable def vK (vs:List V) (σ:St) (Q:V→St→Prop):Prop:=uo vs fun v w=>bv v fun x=>bv w fun p=>onT (Nat.ble 1 p.length) (fits x.length (Q (.int (.ofNat (gU p (p.length - 1) x 0))) σ))
noncomputable def th (c:Nat):List Nat→Option (List Nat×List Nat)
 | []=>none
 | a::r=>(match th c r with
  | some p=>some (a::p.1,p.2)
  | none=>(match Nat.beq a c with
   | true=>some ([],r)
   | false=>none))
theorem lW {c:Nat}:∀ {x:List Nat},(match th c x with
  | some p=>x=p.1++c::p.2∧c ∉ p.2
  | none=>c ∉ x)
 | []=>by simp [th]
 | a::r=>by
  have ih:=lW (c:=c) (x:=r)
  unfold th
  cases q:th c r with
  | some p=>rw [q] at ih; dsimp only at ih ⊢; exact ⟨by rw [ih.1]; rfl,ih.2⟩
  | none=>
   rw [q] at ih
   dsimp only at ih ⊢
   cases h:Nat.beq a c with
   | true=>cases QP h; exact ⟨rfl,ih⟩
   | false=>
    have:=Nat.ne_of_beq_eq_false h
    simp only [List.mem_cons,not_or]
    exact ⟨fun w=>this w.symm,ih⟩
noncomputable def sA (vs:List V) (σ:St) (Q:V→St→Prop):Prop:=G0 vs fun v w u=>bv v fun x=>bv w fun y=>oneC y fun c=>aZ u fun i=>oneI i (fits x.length (onS (th c x) fun p=>Q (.fro [.str p.1,.str p.2]) σ))
theorem mm (s sub:Str):∀ (l:List Nat) (st:Array Nat×Nat),st.fst.size=1→(forIn l st (StrLaws.occRBody s sub 1)).run.fst=st.fst
 | [],st,h=>rfl
 | a::l,st,h=>by
  rw [List.forIn_cons]
  unfold StrLaws.occRBody
  rw [QH (fun w=>by have:=w.1.1; omega)]
  exact mm s sub l _ h
theorem xz {p q:List Nat} {c:Nat} (hq:c ∉ q):Builtin.Str.occurrencesFromRight ⟨(p++c::q).toArray⟩ ⟨[c].toArray⟩ 1=[p.length]:=by
 rw [StrLaws.occR_eq]
 have hlen:(⟨(p++c::q).toArray⟩:Str).length=p.length+(q.length+1):=by show (p++c::q).toArray.size=_; simp
 rw [hlen]
 have key:∀ (m k:Nat),k≤q.length+1→k+m=p.length+(q.length+1)+1 →
   (forIn (List.range' k m) ((#[]:Array Nat),p.length+(q.length+1)) (StrLaws.occRBody ⟨(p++c::q).toArray⟩ ⟨[c].toArray⟩ 1)).run.fst=#[p.length]:=by
  intro m
  induction m with
  | zero=>intro k h1 h2; have h2:k=_:=h2; rw [h2] at h1; exact absurd (QC (Nat.succ_le_succ (Nat.le_add_left _ p.length)) h1) (Nat.not_succ_le_self _)
  | succ m ih=>
   intro k h1 h2
   have hone:=StrLaws.subAt_one ⟨(p++c::q).toArray⟩ c (p.length+(q.length+1) - k)
   rw [hlen] at hone
   rw [List.range'_succ,List.forIn_cons]
   by_cases hk:k=q.length+1
   ·subst hk
    have e:p.length+(q.length+1) - (q.length+1)=p.length:=Nat.add_sub_cancel ..
    rw [e] at hone
    have h:=hone.mpr (by show (p++c::q).toArray.toList[p.length]?=some c; simp)
    have hb:StrLaws.occRBody ⟨(p++c::q).toArray⟩ ⟨[c].toArray⟩ 1 (q.length+1) (#[],p.length+(q.length+1))=pure (ForInStep.yield (#[p.length],p.length)):=by
     unfold StrLaws.occRBody
     rw [hlen,e]
     exact QI ⟨⟨Nat.zero_lt_one,h.1⟩,h.2⟩
    rw [hb]
    exact mm _ _ _ _ rfl
   ·have hb:StrLaws.occRBody ⟨(p++c::q).toArray⟩ ⟨[c].toArray⟩ 1 k (#[],p.length+(q.length+1))=pure (ForInStep.yield (#[],p.length+(q.length+1))):=by
     unfold StrLaws.occRBody
     rw [hlen]
     refine QH fun w=>?_
     have h:=hone.mp ⟨w.1.2,w.2⟩
     have h:(p++c::q)[p.length+(q.length+1) - k]?=some c:=by simpa using h
     rw [List.getElem?_append_right (Nat.le_sub_of_add_le (Nat.add_le_add_left h1 _))] at h
     have e:p.length+(q.length+1) - k - p.length=(q.length - k)+1:=by rw [Nat.sub_right_comm,Nat.add_sub_cancel_left]; exact Nat.succ_sub (Nat.le_of_lt_succ (Nat.lt_of_le_of_ne h1 hk))
     rw [e,List.getElem?_cons_succ] at h
     exact hq (QY h)
    rw [hb]
    exact ih (k+1) (Nat.lt_of_le_of_ne h1 hk) ((Nat.add_right_comm k 1 m).trans h2)
 rw [key _ 0 (Q3 _) (by omega)]
 rfl
set_option tactic.hygienic true in
theorem oS {p q:List Nat} {c:Nat} (h1:(decide ((⟨(p++c::q).toArray⟩:Str).length<(⟨[c].toArray⟩:Str).length) || decide (Builtin.Str.strKind ⟨(p++c::q).toArray⟩<Builtin.Str.strKind ⟨[c].toArray⟩))=true):False:=by
 rw [Bool.or_eq_true,decide_eq_true_eq,decide_eq_true_eq] at h1
 rcases h1 with h1 | h1
 ·simp [Str.length] at h1
 ·have:∀ k:Nat,((⟨(p++c::q).toArray⟩:Str).cps.all (·<k))=true→((⟨[c].toArray⟩:Str).cps.all (·<k))=true:=fun k h=>by
   simp at h ⊢; exact h.2.1
  unfold Builtin.Str.strKind at h1
  have h256:=this 256
  have h65:=this 65536
  split at h1
  ·rename_i z; rw [QI (h256 z)] at h1; omega
  ·split at h1
   ·rename_i z; split at h1
    ·omega
    ·rw [QI (h65 z)] at h1; omega
   ·split at h1
    ·omega
    ·split at h1 <;> omega
theorem zO:CB G lv (.builtin "str.count") [] (fun vs _=>vK vs):=CB.of (fun a w=>by cases w) fun vs σ Q hd A env X s vals ha R W=>by
 refine W.on2_ hd fun v w val val' Wv Ww hd=>Wv.str_ hd fun x t hd=>Ww.str_ hd fun p u hd=>?_
 apply bc;intro z_
 obtain ⟨q,hd⟩:=onT.out hd
 obtain ⟨hz,hd⟩:=fits.out hd
 apply z_;clear z_
 have e:=vL (x:=x) (QD q)
 exact call_gives PySem.F.slot_str_count (typeIs_str _ _ _) PySem.F.entry_str_count (PySem.F.args_str_count_2 _ _) (gives_str_count ⟨x.toArray⟩ ⟨p.toArray⟩ t u) (by rw [e]; exact Post.ret hd (R.toks _) (.int _ _))
theorem us (ok:G.Ok):CB G lv (.builtin "str.rsplit") [] (fun vs _=>sA vs):=CB.of (fun a w=>by cases w) fun vs σ Q hd A env X s vals ha R W=>by
 refine W.on3_ hd fun v w z val val' val'' Wv Ww Wz hd=>Wv.str_ hd fun x t hd=>Ww.str_ hd fun y u hd=>?_
 apply bc;intro z_
 obtain ⟨c,rfl,hd⟩:=oneC.out hd
 apply z_;clear z_
 refine Wz.int_ hd fun i j hd=>?_
 apply bc;intro z_
 obtain ⟨rfl,hd⟩:=oneI.out hd
 obtain ⟨hz,hd⟩:=fits.out hd
 obtain ⟨⟨p,q⟩,e,hd2⟩:=onS.out hd
 have hs:=lW (c:=c) (x:=x)
 rw [e] at hs
 obtain ⟨rfl,hq⟩:=hs
 apply z_;clear z_
 dsimp only at hq hd2 hz ⊢
 have hk:(decide (Int.ofNat 1 < -(2 ^ 63:Int)) || decide (Int.ofNat 1 ≥ 2 ^ 63))=false:=by decide
 have el:limitOf ⟨(p++c::q).toArray⟩ (Int.ofNat 1)=1:=rfl
 have ho:=xz (p:=p) hq
 have hparts:Builtin.Str.partsBetween ⟨(p++c::q).toArray⟩ [p.length] (⟨[c].toArray⟩:Str).length=[⟨p.toArray⟩,⟨q.toArray⟩]:=by
  unfold Builtin.Str.partsBetween Builtin.Str.strSub
  simp [Str.length]
  exact List.take_of_length_le (by omega)
 cases h1:(decide ((⟨(p++c::q).toArray⟩:Str).length<(⟨[c].toArray⟩:Str).length) || decide (Builtin.Str.strKind ⟨(p++c::q).toArray⟩<Builtin.Str.strKind ⟨[c].toArray⟩)) with
 | true=>exact (oS h1).elim
 | false=>
  refine call_meets PySem.F.slot_str_rsplit (typeIs_str _ _ _) PySem.F.entry_str_rsplit (PySem.F.args_str_rsplit_3 _ _ _) (meets_str_rsplit_sep_max _ _ _ _ _ _ hk h1 rfl (by rw [el,ho]; rfl) (by rw [bl,QN]; omega) (by rw [el,ho,hparts,QN]; exact QD rfl)) ?_
  rw [el,ho,hparts,strsFrom_eq]
  exact Post.newList ok hd2 R (ft [p,q] _ (numbered_texts _ _))
theorem Aa {o:PySem.Expr} {do_:DE} (ho:SE G lv sc o do_):SM G lv sc o "count" [] (iU .str (fun vs _=>vK vs) do_):=bK (T:=.str) ho PySem.F.plainAttrs_str PySem.F.slot_str_count (by show builtinType _=_; rw [QU]; kernel_rfl) zO
theorem uQ {o:PySem.Expr} {do_:DE} (ok:G.Ok) (ho:SE G lv sc o do_):SM G lv sc o "rsplit" [] (iU .str (fun vs _=>sA vs) do_):=bK (T:=.str) ho PySem.F.plainAttrs_str PySem.F.slot_str_rsplit (by show builtinType _=_; rw [QU]; kernel_rfl) (us ok)
theorem zh {a:Addr} {vs:List Value} {n:Nat} {P:PySem.Fin→Shared→Prop} {E:Value→Shared→Prop} (ho:s.heap.get? a=some (seqObj "list" vs.toArray n)) (h2:vs.length≤1)
  (h:∀ h' e,h'.get? a=some (seqObj "list" vs.toArray e)→(∀ b,b≠a→∀ o,s.heap.get? b=some o→h'.get? b=some o)→P (.done (.ret .none)) {s with heap:=h'}) :
  wpAny (model G.prog G.w) A (Builtin.«list.sort» ⟨[.ref a],[]⟩) P E s:=by
 rw [list_sort_plain]
 have ha:a<s.heap.objs.size:=QO ho
 have hz:vs.toArray.size≤sizeLine:=by rw [QJ,QN]; omega
 refine Qt (listItems_at ho rfl ?_)
 refine Qt (listUpdate_at ho rfl ?_ hz)
 apply bc;intro z_
 obtain ⟨e1,ho1⟩:∃ e1,(s.heap.update a (Obj.mapSeq fun _=>#[])).get? a=some (seqObj "list" #[] e1):=⟨_,get?_update_seq ho (fun _=>#[])⟩
 apply z_;clear z_
 refine Qt (seqEpoch_at ho1 rfl ?_)
 refine Qt (wpAny_newTuple ?_ (by simpa using hz))
 refine Qt (wpAny_newList ?_)
 refine Qw ?_
 have ho6:(((s.heap.update a (Obj.mapSeq fun _=>#[])).push (seqObj "tuple" vs.toArray 0)).push (seqObj "list" #[] 0)).get? a=some (seqObj "list" #[] e1):=QB _ (QB _ ho1)
 show wpAny (model G.prog G.w) A _ P E {s with heap:=((s.heap.update a (Obj.mapSeq fun _=>#[])).push (seqObj "tuple" vs.toArray 0)).push (seqObj "list" #[] 0)}
 dsimp only
 have h3:vs.toArray.size<2:=by rw [QJ]; omega
 rw [QI h3,QI h3]
 refine Qt (Qu ?_)
 rw [StateT.run_pure]
 refine Qt (Qu ?_)
 dsimp only
 have out:(arrOf (SortSt.mk' general' (vs.toArray.zip vs.toArray) #[] 7 none)).map (·.2)=vs.toArray:=by
  show (vs.toArray.zip vs.toArray).map (·.2)=_
  cases vs with
  | nil=>simp
  | cons v r=>cases r with
   | nil=>simp
   | cons=>simp at h2
 refine Qt (seqEpoch_at ho6 rfl ?_)
 rw [out]
 refine Qt (listUpdate_at ho6 rfl ?_ (by rw [QN]; exact Q3 _) (hsz2:=Nat.le_succ_of_le hz))
 simp only [bne_self_eq_false,Bool.false_eq_true,if_false]
 refine Qu (h _ _ (get?_update_seq ho6 fun _=>vs.toArray) fun b hb o e=>?_)
 rw [QX _ _ (Ne.symm hb)]
 refine QB _ (QB _ ?_)
 rw [QX _ _ (Ne.symm hb)]
 exact e
theorem zR:CB G lv (.builtin "list.sort") [] (fun vs _=>zf vs):=CB.of (fun a w=>by cases w) fun vs σ Q hd A env X s vals ha R W=>by
 refine W.on1_ hd fun u val Wl hd=>gB R Wl hd fun l xs o items hl q h1 h2 h3 hd=>?_
 apply bc;intro z_
 obtain ⟨q1,hd⟩:=onT.out hd
 have hlen:=h3.length
 have hz:=QD q1
 obtain ⟨c,dct,dt,sl⟩:=o
 obtain ⟨g1,g2,⟨ep,g3⟩,g4⟩:=h2
 apply z_;clear z_
 dsimp only at g1 g2 g3 g4
 subst g1 g2 g3 g4
 refine Qz PySem.F.slot_list_sort ⟨_,h1,rfl⟩ PySem.F.entry_list_sort (zh h1 (by omega) fun h' e h4 h5=>?_) (PySem.F.args_list_sort_1 _)
 exact ⟨_,rfl,_,_,X,hd,.refl,QF _,R.upd (s':={s with heap:=h'}) (o:=.list xs) q h5 ⟨_,items,h4,⟨rfl,rfl,⟨_,rfl⟩,rfl⟩,h3⟩ rfl rfl R.gens,.non⟩
theorem Ad {o:PySem.Expr} {do_:DE} (ho:SE G lv sc o do_):SM G lv sc o "sort" [] (iU .list (fun vs _=>zf vs) do_):=bK (T:=.list) ho PySem.F.plainAttrs_list PySem.F.slot_list_sort (by show builtinType _=_; rw [QU]; kernel_rfl) zR
noncomputable def AN (i:Int):List V→Option Nat
 | []=>none
 | v::r=>(match v with
  | .int j=>(match Ax j i with
   | true=>some 0
   | false=>(AN i r).map Nat.succ)
  | _=>none)
noncomputable def wH (vs:List V) (σ:St) (Q:V→St→Prop):Prop:=uo vs fun u v=>aZ v fun i=>bu u σ fun xs=>onT (not (match jg xs with | some _=>false | none=>true)) (fits xs.length (onS (AN i xs) fun k=>Q (.int (.ofNat k)) σ))
noncomputable def B0 (ov v:V) (σ:St) (Q:St→Prop):Prop:=hM ov σ fun l xs=>bu v σ fun ys=>fits xs.length (fits ys.length (Q (gr l (.list ys) σ)))
noncomputable def O4 (i:Int):Value→Bool
 | .int j _=>j==i
 | _=>false
theorem AP {i:Int} {vs:List V}:∀ {vals:List Value} {k:Nat},AN i vs=some k→RepVs X n vs vals→∃ (hk:k<vals.length),O4 i vals[k]=true∧∀ m (hm:m<vals.length),m<k→O4 i vals[m]=false:=by
 induction vs with
 | nil=>intro vals k h; cases h
 | cons v r ih=>
  intro vals k h W
  cases W with
  | cons a b=>
   cases v with
   | int j=>
    apply bc;intro z_
    obtain ⟨t,rfl⟩:=a.inv
    apply z_;clear z_
    have h:(match Ax j i with
     | true=>some 0
     | false=>(AN i r).map Nat.succ)=some k:=h
    cases q:Ax j i with
    | true=>
     rw [q] at h; cases h
     rw [gx] at q
     exact ⟨Nat.succ_pos _,q,fun m _ h=>absurd h (Nat.not_lt_zero _)⟩
    | false=>
     rw [q] at h
     apply bc;intro z_
     obtain ⟨k',h',rfl⟩:=Option.map_eq_some_iff.mp h
     obtain ⟨hk,h1,h2⟩:=ih h' b
     apply z_;clear z_
     rw [gx] at q
     refine ⟨Nat.succ_lt_succ hk,h1,fun m hm hlt=>?_⟩
     cases m with
     | zero=>exact q
     | succ m=>exact h2 m (Nat.lt_of_succ_lt_succ hm) (Nat.lt_of_succ_lt_succ hlt)
   | _=>first | exact nS h | exact nB h | cases h
theorem zP:CB G lv (.builtin "list.index") [] (fun vs _=>wH vs):=CB.of (fun a w=>by cases w) fun vs σ Q hd A env X s vals ha R W=>by
 refine W.on2_ hd fun u v val val' Wu Wv hd=>Wv.int_ hd fun i t hd=>?_
 apply bc;intro z_
 obtain ⟨a,o,items,xs,rfl,ho,hl,hs,q⟩:=br R Wu hd
 obtain ⟨q1,q⟩:=onT.out q
 obtain ⟨hz,q⟩:=fits.out q
 obtain ⟨k,q2,q⟩:=onS.out q
 obtain ⟨hk,h1,h2⟩:=AP q2 hs
 apply z_;clear z_
 cases q3:jg xs with
 | none=>rw [q3] at q1; cases q1
 | some ns=>
 apply bc;intro z_
 obtain ⟨ps,hps,_⟩:=l9 q3 hs
 have hlen:=hs.length
 obtain ⟨c,dct,dt,sl⟩:=o
 obtain ⟨g1,g2,⟨ep,g3⟩,g4⟩:=hl
 apply z_;clear z_
 dsimp only at g1 g2 g3 g4
 subst g1 g2 g3 g4
 refine call_meets PySem.F.slot_list_index ⟨_,ho,rfl⟩ PySem.F.entry_list_index (PySem.F.args_list_index_2 _ _) (PySem.SeqAt.list_indexAt a items.toArray ep none #[] (.int i t) (O4 i) k (by simpa using hk) (by omega) (by simpa using h1) (fun m hm hlt=>by simpa using h2 m (by simpa using hm) hlt)) ⟨ho,fun y hy=>?_,Post.ret q (R.toks _) (.int _ _)⟩
 have hy:y∈items:=by simpa using hy
 rw [hps] at hy
 apply bc;intro z_
 obtain ⟨p,_,rfl⟩:=List.mem_map.mp hy
 apply z_;clear z_
 exact PySem.SeqAt.EqAt.int_int _ _ _ _
theorem Ab {o:PySem.Expr} {do_:DE} (ho:SE G lv sc o do_):SM G lv sc o "index" [] (iU .list (fun vs _=>wH vs) do_):=bK (T:=.list) ho PySem.F.plainAttrs_list PySem.F.slot_list_index (by show builtinType _=_; rw [QU]; kernel_rfl) zP
set_option tactic.hygienic true in
theorem B1 {l v p:Addr} {o ov:Obj} {items vals:List Value} {Q:Unit→Shared→Prop} (ho:s.heap.get? l=some o) (hl:LObj "list" o items) (hv:s.heap.get? v=some ov) (hlv:LObj "list" ov vals) (hp:s.heap.IsSliceOf p .none .none .none)
  (h1:items.length≤1000000) (h2:vals.length≤1000000) (q:∀ f:Array Value→Array Value,f items.toArray=vals.toArray→Q () {s with heap:=s.heap.update l (Obj.mapSeq f)}) :
  wpAny (model G.prog G.w) A (setItem (.ref l) (.ref p) (.ref v)) Q bh s:=by
 have hL:=LObj.isList ho hl
 apply bc;intro z_
 obtain ⟨os,hos,hcs,hds⟩:=id hp
 have hTs:s.TypeIs (.ref p) "slice":=⟨os,hos,hcs⟩
 have hTv:s.TypeIs (.ref v) "list":=⟨ov,hv,hlv.1⟩
 obtain ⟨hc,hdd,⟨ep,hd⟩,hsl⟩:=hl
 obtain ⟨hcv,hddv,⟨epv,hdv⟩,hslv⟩:=hlv
 apply z_;clear z_
 unfold setItem
 refine Qw ?_
 refine Qt (wpAny_sequenceKey hL.typeIs (by decide) ?_)
 refine Qt (wpAny_callSpecial?_slot (name:=Str.ofString "__setitem__") hL.typeIs PySem.F.slot_list_setitem
  (Qz PySem.F.slot_list_setitem hL.typeIs PySem.F.entry_list_setitem ?_ (PySem.F.args_list_setitem_3 _ _ _)))
 show wpAny _ _ (Builtin.List.listSubscript? (.ref p) >>= _) _ _ s
 refine Qt ?_
 unfold Builtin.List.listSubscript?
 refine Qt (wpAny_specialOf hTs slice_no_index ?_)
 simp only [Option.isNone_none,if_true]
 refine Qu ?_
 show wpAny _ _ (typeOf (.ref p) >>= _) _ _ s
 refine Qt (wpAny_typeOf hTs ?_)
 rw [QH (by decide)]
 rw [listSliceParts_eq]
 refine Qt (Qt (wpAny_field hos hds (x:=.none) rfl (Qt (wpAny_listPart .none ?_))))
 rw [QH (show ¬ ((rawPart none==rawInt 0)=true) from QM)]
 refine Qt (wpAny_field hos hds (x:=.none) rfl (Qt (wpAny_listPart .none ?_)))
 refine Qt (wpAny_field hos hds (x:=.none) rfl (Qt (wpAny_listPart .none (Qu ?_))))
 have key:∀ m:Sem (Array Value),m=(if Builtin.List.listSameRef (.ref l) (.ref v)=true then Builtin.List.listItems (.ref v) else Builtin.List.listAllItems (.ref v) "must assign iterable to extended slice")→∀ P:Array Value→Shared→Prop,P vals.toArray s→wpAny (model G.prog G.w) A.in1 m P bh s:=by
  rintro m rfl P hP
  split
  ·exact listItems_at hv hdv hP
  ·unfold Builtin.List.listAllItems
   refine Qt (wpAny_typeOf hTv ?_)
   rw [QI (by decide)]
   exact listItems_at hv hdv hP
 have fin:∀ f:Array Value→Array Value,f items.toArray=vals.toArray→wpAny (model G.prog G.w) A.in1 (do
   Builtin.List.listUpdate (.ref l) f
   letGo (items.toArray.extract (0:Int).toNat (max (0:Int) (items.toArray.size:Int)).toNat).toList.reverse
   ret .none) (fun fin s'=>∃ v,fin=Fin.done (Flow.ret v)∧wpAny (model G.prog G.w) A (pure ()) Q bh s') bh s:=fun f ef=>by
  refine Qt (listUpdate_at ho hd ?_ (by rw [QJ,QN]; omega) (by rw [ef,QJ,QN]; omega))
  exact Qt (wpAny_letGo (Qu ⟨_,rfl,Qu (q f ef)⟩))
 have ef:(fun xs:Array Value=>xs.extract 0 (0:Int).toNat++vals.toArray++xs.extract (max (0:Int) (items.toArray.size:Int)).toNat xs.size) items.toArray=vals.toArray:=by
  simp
 split
 all_goals
  rename_i hsame
  refine Qt (key _ (by first | exact (QI hsame).symm | exact (QH hsame).symm) _ ?_)
  refine Qt (listItems_at ho hd ?_)
  refine Qt (Qy (sliceIndices_raw none none none items.toArray.size (by simp)) ?_)
  rw [QI (show ((sliceBounds none none none items.toArray.size).2.snd==1)=true from rfl)]
  refine Qt (Ra ?_)
  rw [QH (by unfold Builtin.List.listTooLong; rw [QJ,QJ,QN]; simp; omega)]
  exact fin _ ef
theorem K4 {o:PySem.Expr} {p q:Pos} {do_:DE} (ok:G.Ok) (ho:SE G lv sc o do_) :
  ST G lv sc (.Subscript o (.Slice none none none q) p) (fun v σ Q=>do_ σ fun ov σ1=>B0 ov v σ1 Q):=fun v σ Q hd A env X s val ha he R W=>by
 refine kas_sub (ho.run hd ha he R fun ov s1 o1 σ1 X1 k1 L1 n1 R1 W1=>wpAny_Slice (Qu (Qu (Qu ?_))))
 have R2:=R1.push {cls:=.type "slice",data:=.fields #[.none,.none,.none]} s1.toks
 refine gB R2 W1 k1 fun l xs ob items hl q h1 h2 h3 k1=>?_
 apply bc;intro z_
 obtain ⟨a,o2,vals,ys,rfl,g1,g2,g3,k1⟩:=br R2 (W.mono L1 n1) k1
 obtain ⟨z1,k1⟩:=fits.out k1
 obtain ⟨z2,k1⟩:=fits.out k1
 apply z_;clear z_
 refine B1 h1 h2 g1 g2 ⟨_,QG _ rfl,rfl,rfl⟩ (by rw [h3.length]; exact z1) (by rw [g3.length]; exact z2) fun f ef=>?_
 exact ⟨_,X1,k1,L1,n1,R2.setList (t:=s1.toks) q h1 h2 ef g3⟩
noncomputable abbrev eJ (f0:Value) (b:Bool) (TI TO:Addr):Obj:={cls:=.type "zip",dict:=none,data:=.fields #[f0,.bool b,.bool false,.ref TI,.ref TO],slots:=#[]}
noncomputable def F0 (f0:Value):Prop:=f0=.none∨∃ T:Nat,f0=rawInt T
section
variable {prog:Program} {w:World} {A:Around} {E:Value→Shared→Prop} {s:Shared}
theorem pO {M:Model} {a:Addr} {Q:Option Obj→Shared→Prop} (h:Q (s.heap.get? a) s):wpAny M A (loadIfAlive a) Q E s:=fun Γ p hΓ=>h
theorem Dl {z TI TO:Addr} {f0:Value} {b:Bool} {Q:Bool→Shared→Prop} (hz:s.heap.get? z=some (eJ f0 b TI TO)) (hf:F0 f0) (h1:Q true s) (h2:∀ h' b',h'.get? z=some (eJ f0 b' TI TO)→Heap.SameBut z s.heap h'→Q false {s with heap:=h'}) :
  wpAny (model prog w) A (Builtin.SmallTypes.ownedTupleIsFree (.ref z)) Q E s:=by
 unfold Builtin.SmallTypes.ownedTupleIsFree
 refine Qt (wpAny_field hz rfl (x:=f0) rfl ?_)
 rcases hf with rfl | ⟨T,rfl⟩
 ·exact Qu h1
 ·show wpAny _ _ (loadIfAlive ((T:Int).toNat) >>= _) _ _ _
  refine Qt (pO ?_)
  cases q:s.heap.get? ((T:Int).toNat) with
  | none=>exact Qu h1
  | some o=>
   simp only [Option.isNone_some,Bool.false_eq_true,if_false]
   refine Qt (wpAny_field hz rfl (x:=.bool b) rfl ?_)
   cases b with
   | true=>
    rw [QH (by decide)]
    exact Qu (h2 s.heap true hz ⟨rfl,fun _ _=>rfl⟩)
   | false=>
    rw [QI (by decide)]
    exact Qt (wpAny_setField_rec hz (by simp) fun h' hz' hs'=>Qu (h2 h' true hz' hs'))
theorem ru {z TI TO i1 i2 l1 l2:Addr} {k1 k2:Nat} {xs ys:Array Value} {x y a b f0:Value} {fl:Bool} {Q:Value→Shared→Prop} (D:ZipApart z TI TO i1 i2 l1 l2)
  (hz:s.heap.get? z=some (eJ f0 fl TI TO)) (hf:F0 f0) (hTI:IsPair s.heap TI (.ref i1) (.ref i2)) (hTO:IsPair s.heap TO a b)
  (h1:s.heap.IsListIter i1 l1 k1) (h2:s.heap.IsListIter i2 l2 k2) (hl1:s.heap.IsList l1 xs) (hl2:s.heap.IsList l2 ys) (hx:xs[k1]?=some x) (hy:ys[k2]?=some y)
  (hQ:∀ h' f0' fl',h'.get? z=some (eJ f0' fl' TI TO)→F0 f0'→(∃ a b,IsPair h' TO a b)→h'.IsListIter i1 l1 (k1+1)→h'.IsListIter i2 l2 (k2+1)→IsPair h' s.heap.objs.size x y→h'.objs.size=s.heap.objs.size+1 →
   (∀ c o,c≠z→c≠TO→c≠i1→c≠i2→s.heap.get? c=some o→h'.get? c=some o)→Q (.ref s.heap.objs.size) {s with heap:=h'}) :
  wpAny (model prog w) A (Builtin.«zip.__next__» ⟨[.ref z],[]⟩) (fun fin s'=>∃ v,fin=.done (.ret v)∧Q v s') E s:=by
 show wpAny _ _ (field (.ref z) 2 >>= _) _ _ _
 refine Qt (wpAny_field hz rfl (x:=.bool false) rfl ?_)
 show wpAny _ _ (field (.ref z) 3 >>= _) _ _ _
 refine Qt (wpAny_field hz rfl (x:=.ref TI) rfl ?_)
 refine Qt (wpAny_seqItems hTI rfl ?_)
 show wpAny _ _ (Builtin.SmallTypes.ownedTupleIsFree (.ref z) >>= _) _ _ _
 refine Qt (Dl hz hf ?_ fun h₁ f1 hz₁ hs₁=>?_)
 ·simp only [if_true]
  refine Qt (Ra ?_)
  refine Qt (wpAny_field hz rfl (x:=.ref TO) rfl ?_)
  refine Qt (wpAny_setField_rec hz (by simp) fun h₁ hz₁ hs₁=>?_)
  replace hz₁:h₁.get? z=some (eJ .ellipsis fl TI TO):=hz₁
  refine Qt ?_
  simp only [List.zipIdx_cons,List.zipIdx_nil,List.forIn_cons,List.forIn_nil]
  refine Qt (Qt (Q6 ?_))
  show wpAny _ _ (Builtin.SmallTypes.nextOf (.ref i1) >>= _) _ _ _
  refine Qt (wpAny_nextOf_list_item (h1.extBut hs₁.extBut D.i1z) (hl1.extBut hs₁.extBut D.l1z) hx fun h₂ h1₂ hs₂=>Qu ?_)
  have hTO₂:IsPair h₂ TO a b:=hs₂.extBut _ _ D.TOi1 (hs₁.extBut _ _ D.TOz hTO)
  refine Qt (wpAny_seqItems hTO₂ rfl ?_)
  refine Qt (wpAny_updateSeq_pair hTO₂ fun h₃ hTO₃ hs₃=>?_)
  replace hTO₃:IsPair h₃ TO x b:=hTO₃
  refine Qt (wpAny_letGo (Qu ?_))
  refine Qt (Qt (Q6 ?_))
  show wpAny _ _ (Builtin.SmallTypes.nextOf (.ref i2) >>= _) _ _ _
  refine Qt (wpAny_nextOf_list_item (((h2.extBut hs₁.extBut D.i2z).extBut hs₂.extBut D.i12.symm).extBut hs₃.extBut D.TOi2.symm)
   (((hl2.extBut hs₁.extBut D.l2z).extBut hs₂.extBut D.l2i1).extBut hs₃.extBut D.l2TO) hy fun h₄ h2₄ hs₄=>Qu ?_)
  have hTO₄:IsPair h₄ TO x b:=hs₄.extBut _ _ D.TOi2 hTO₃
  refine Qt (wpAny_seqItems hTO₄ rfl ?_)
  refine Qt (wpAny_updateSeq_pair hTO₄ fun h₅ hTO₅ hs₅=>?_)
  replace hTO₅:IsPair h₅ TO x y:=hTO₅
  refine Qt (wpAny_letGo (Qu (Qu ?_)))
  refine Qt (wpAny_seqItems hTO₅ rfl ?_)
  refine Qt (wpAny_newTuple ?_)
  have hsz:h₅.objs.size=s.heap.objs.size:=by rw [hs₅.1,hs₄.1,hs₃.1,hs₂.1,hs₁.1]
  have hz₅:h₅.get? z=some (eJ .ellipsis fl TI TO):=hs₅.extBut _ _ D.TOz.symm (hs₄.extBut _ _ D.i2z.symm (hs₃.extBut _ _ D.TOz.symm (hs₂.extBut _ _ D.i1z.symm hz₁)))
  have hk₅:∀ c o,c≠z→c≠TO→c≠i1→c≠i2→s.heap.get? c=some o→h₅.get? c=some o:=fun c o c1 c2 c3 c4 e=>
   hs₅.extBut _ _ c2 (hs₄.extBut _ _ c4 (hs₃.extBut _ _ c2 (hs₂.extBut _ _ c3 (hs₁.extBut _ _ c1 e))))
  have h1₅:h₅.IsListIter i1 l1 (k1+1):=((h1₂.extBut hs₃.extBut D.TOi1.symm).extBut hs₄.extBut D.i12).extBut hs₅.extBut D.TOi1.symm
  have h2₅:h₅.IsListIter i2 l2 (k2+1):=h2₄.extBut hs₅.extBut D.TOi2.symm
  have hzlt:z<h₅.objs.size:=QO hz₅
  show wpAny _ _ (Builtin.SmallTypes.ownedTupleHandOut (.ref z) (.ref h₅.objs.size) >>= _) _ _ _
  refine Qt ?_
  unfold Builtin.SmallTypes.ownedTupleHandOut
  have hz₆:(h₅.push {cls:=.type "tuple",data:=.seq #[x,y]}).get? z=some (eJ .ellipsis fl TI TO):=QB _ hz₅
  refine Qt (wpAny_setField_rec hz₆ (by simp) fun h₇ hz₇ hs₇=>?_)
  replace hz₇:h₇.get? z=some (eJ (rawInt h₅.objs.size) fl TI TO):=hz₇
  refine wpAny_setField_rec hz₇ (by simp) fun h₈ hz₈ hs₈=>?_
  replace hz₈:h₈.get? z=some (eJ (rawInt h₅.objs.size) false TI TO):=hz₈
  have up:∀ c o,c≠z→h₅.get? c=some o→h₈.get? c=some o:=fun c o c1 e=>hs₈.extBut _ _ c1 (hs₇.extBut _ _ c1 (QB _ e))
  have hT₈:IsPair h₈ h₅.objs.size x y:=hs₈.extBut _ _ (Q7 hzlt) (hs₇.extBut _ _ (Q7 hzlt) (QG _ rfl))
  have hz8:h₈.objs.size=h₅.objs.size+1:=by rw [hs₈.1,hs₇.1,Heap.size_push]
  rw [hsz] at hz₈ hT₈ hz8
  refine Qu ⟨_,rfl,?_⟩
  show Q (.ref h₅.objs.size) _
  rw [hsz]
  exact hQ h₈ _ _ hz₈ (.inr ⟨_,rfl⟩) ⟨x,y,up _ _ D.TOz hTO₅⟩ (h1₅.at fun o e=>up _ o D.i1z e) (h2₅.at fun o e=>up _ o D.i2z e) hT₈ hz8 fun c o c1 c2 c3 c4 e=>up c o c1 (hk₅ c o c1 c2 c3 c4 e)
 ·simp only [Bool.false_eq_true,if_false]
  rw [List.forIn_toArray]
  simp only [List.forIn_cons,List.forIn_nil]
  refine Qt (Qt (Qt (Qw ?_)))
  show wpAny _ _ (Builtin.SmallTypes.nextOf (.ref i1) >>= _) _ _ _
  refine Qt (wpAny_nextOf_list_item (h1.extBut hs₁.extBut D.i1z) (hl1.extBut hs₁.extBut D.l1z) hx fun h₂ h1₂ hs₂=>Qu (Qu ?_))
  refine Qt (Qt (Qw ?_))
  show wpAny _ _ (Builtin.SmallTypes.nextOf (.ref i2) >>= _) _ _ _
  refine Qt (wpAny_nextOf_list_item ((h2.extBut hs₁.extBut D.i2z).extBut hs₂.extBut D.i12.symm) ((hl2.extBut hs₁.extBut D.l2z).extBut hs₂.extBut D.l2i1) hy fun h₃ h2₃ hs₃=>Qu (Qu (Qu ?_)))
  refine Qt (wpAny_newTuple ?_ (by rw [QN]; exact QD rfl))
  have hsz:h₃.objs.size=s.heap.objs.size:=by rw [hs₃.1,hs₂.1,hs₁.1]
  have up:∀ c o,c≠z→c≠i1→c≠i2→s.heap.get? c=some o→(h₃.push {cls:=.type "tuple",data:=.seq #[x,y]}).get? c=some o:=fun c o c1 c3 c4 e=>QB _ (hs₃.extBut _ _ c4 (hs₂.extBut _ _ c3 (hs₁.extBut _ _ c1 e)))
  have hz₃:(h₃.push {cls:=.type "tuple",data:=.seq #[x,y]}).get? z=some (eJ f0 f1 TI TO):=QB _ (hs₃.extBut _ _ D.i2z.symm (hs₂.extBut _ _ D.i1z.symm hz₁))
  refine Qu ⟨_,rfl,?_⟩
  show Q (.ref h₃.objs.size) {s with heap:=h₃.push {cls:=.type "tuple",data:=.seq #[x,y]}}
  rw [hsz]
  exact hQ _ _ _ hz₃ hf ⟨a,b,up _ _ D.TOz D.TOi1 D.TOi2 hTO⟩ ((h1₂.extBut hs₃.extBut D.i12).at fun _ e=>QB _ e) (h2₃.at fun _ e=>QB _ e) (by rw [← hsz]; exact QG _ rfl) (by rw [Heap.size_push,hsz]) fun c o c1 _ c3 c4 e=>up c o c1 c3 c4 e
theorem ul {z TI TO i1 i2 l1 l2:Addr} {k1:Nat} {xs:Array Value} {a b f0:Value} {fl:Bool} {Q:PySem.Fin→Shared→Prop} (hh:A.handled=none) (D:ZipApart z TI TO i1 i2 l1 l2)
  (hz:s.heap.get? z=some (eJ f0 fl TI TO)) (hf:F0 f0) (hTI:IsPair s.heap TI (.ref i1) (.ref i2)) (hTO:IsPair s.heap TO a b)
  (h1:s.heap.IsListIter i1 l1 k1) (hl1:s.heap.IsList l1 xs) (hx:xs[k1]?=none)
  (hE:∀ h' e,(∀ c o,c≠z→c≠i1→s.heap.get? c=some o→h'.get? c=some o)→(∃ o,h'.get? e=some o∧o.cls=.type "StopIteration")→E (.ref e) {s with heap:=h'}) :
  wpAny (model prog w) A (Builtin.«zip.__next__» ⟨[.ref z],[]⟩) Q E s:=by
 show wpAny _ _ (field (.ref z) 2 >>= _) _ _ _
 refine Qt (wpAny_field hz rfl (x:=.bool false) rfl ?_)
 show wpAny _ _ (field (.ref z) 3 >>= _) _ _ _
 refine Qt (wpAny_field hz rfl (x:=.ref TI) rfl ?_)
 refine Qt (wpAny_seqItems hTI rfl ?_)
 show wpAny _ _ (Builtin.SmallTypes.ownedTupleIsFree (.ref z) >>= _) _ _ _
 refine Qt (Dl hz hf ?_ fun h₁ f1 hz₁ hs₁=>?_)
 ·simp only [if_true]
  refine Qt (Ra ?_)
  refine Qt (wpAny_field hz rfl (x:=.ref TO) rfl ?_)
  refine Qt (wpAny_setField_rec hz (by simp) fun h₁ hz₁ hs₁=>?_)
  replace hz₁:h₁.get? z=some (eJ .ellipsis fl TI TO):=hz₁
  refine Qt ?_
  simp only [List.zipIdx_cons,List.zipIdx_nil,List.forIn_cons,List.forIn_nil]
  refine Qt (Qt (Q6 ?_))
  show wpAny _ _ (Builtin.SmallTypes.nextOf (.ref i1) >>= _) _ _ _
  refine Qt (wpAny_nextOf_list_end hh (h1.extBut hs₁.extBut D.i1z) (hl1.extBut hs₁.extBut D.l1z) hx fun h₂ e hs₂ he=>?_)
  apply bc;intro z_
  obtain ⟨oe,hoe,hce⟩:=he
  apply z_;clear z_
  have hz₂:h₂.get? z=some (eJ .ellipsis fl TI TO):=hs₂ _ _ D.i1z.symm hz₁
  have hez:e≠z:=fun x=>by subst x; rw [hz₂] at hoe; cases hoe; simp at hce
  refine wpAny_setField_rec hz₂ (by simp) fun h₃ _ hs₃=>hE h₃ e (fun c o c1 c3 x=>hs₃.extBut _ _ c1 (hs₂ _ _ c3 (hs₁.extBut _ _ c1 x))) ⟨oe,hs₃.extBut _ _ hez hoe,hce⟩
 ·simp only [Bool.false_eq_true,if_false]
  rw [List.forIn_toArray]
  simp only [List.forIn_cons,List.forIn_nil]
  refine Qt (Qt (Qt (Qw ?_)))
  show wpAny _ _ (Builtin.SmallTypes.nextOf (.ref i1) >>= _) _ _ _
  refine Qt (wpAny_nextOf_list_end hh (h1.extBut hs₁.extBut D.i1z) (hl1.extBut hs₁.extBut D.l1z) hx fun h₂ e hs₂ he=>?_)
  exact hE h₂ e (fun c o c1 c3 x=>hs₂ _ _ c3 (hs₁.extBut _ _ c1 x)) he
theorem Cf {z TI TO i1 i2 l1 l2:Addr} {k1 k2:Nat} {xs ys:Array Value} {x y a b f0:Value} {fl:Bool} {Q:Option Value→Shared→Prop} (D:ZipApart z TI TO i1 i2 l1 l2)
  (hz:s.heap.get? z=some (eJ f0 fl TI TO)) (hf:F0 f0) (hTI:IsPair s.heap TI (.ref i1) (.ref i2)) (hTO:IsPair s.heap TO a b)
  (h1:s.heap.IsListIter i1 l1 k1) (h2:s.heap.IsListIter i2 l2 k2) (hl1:s.heap.IsList l1 xs) (hl2:s.heap.IsList l2 ys) (hx:xs[k1]?=some x) (hy:ys[k2]?=some y)
  (hQ:∀ h' f0' fl',h'.get? z=some (eJ f0' fl' TI TO)→F0 f0'→(∃ a b,IsPair h' TO a b)→h'.IsListIter i1 l1 (k1+1)→h'.IsListIter i2 l2 (k2+1)→IsPair h' s.heap.objs.size x y→h'.objs.size=s.heap.objs.size+1 →
   (∀ c o,c≠z→c≠TO→c≠i1→c≠i2→s.heap.get? c=some o→h'.get? c=some o)→Q (some (.ref s.heap.objs.size)) {s with heap:=h'}) :
  wpAny (model prog w) A (pyNext (.ref z)) Q E s:=by
 have hT:s.TypeIs (.ref z) "zip":=⟨_,hz,rfl⟩
 unfold pyNext
 exact Qt (wpAny_attempt (wpAny_callSpecial?_slot (name:=Str.ofString "__next__") hT PySem.F.slot_zip_next
  (Qz PySem.F.slot_zip_next hT PySem.F.entry_zip_next
   (ru D hz hf hTI hTO h1 h2 hl1 hl2 hx hy fun h' _ _ a1 a2 a3 a4 a5 a6 a7 a8=>Qu (hQ h' _ _ a1 a2 a3 a4 a5 a6 a7 a8)) (PySem.F.args_zip_next_1 _))))
theorem Kz {z TI TO i1 i2 l1 l2:Addr} {k1:Nat} {xs:Array Value} {a b f0:Value} {fl:Bool} {Q:Option Value→Shared→Prop} (hh:A.handled=none) (D:ZipApart z TI TO i1 i2 l1 l2)
  (hz:s.heap.get? z=some (eJ f0 fl TI TO)) (hf:F0 f0) (hTI:IsPair s.heap TI (.ref i1) (.ref i2)) (hTO:IsPair s.heap TO a b)
  (h1:s.heap.IsListIter i1 l1 k1) (hl1:s.heap.IsList l1 xs) (hx:xs[k1]?=none)
  (hQ:∀ h',(∀ c o,c≠z→c≠i1→s.heap.get? c=some o→h'.get? c=some o)→Q none {s with heap:=h'}):wpAny (model prog w) A (pyNext (.ref z)) Q E s:=by
 have hT:s.TypeIs (.ref z) "zip":=⟨_,hz,rfl⟩
 unfold pyNext
 refine Qt (wpAny_attempt (wpAny_callSpecial?_slot (name:=Str.ofString "__next__") hT PySem.F.slot_zip_next
  (Qz PySem.F.slot_zip_next hT PySem.F.entry_zip_next (ul hh D hz hf hTI hTO h1 hl1 hx fun h' e hk he=>?_) (PySem.F.args_zip_next_1 _))))
 apply bc;intro z_
 obtain ⟨o,ho,hc⟩:=he
 apply z_;clear z_
 refine Qt (wpAny_isInstance (T:="StopIteration") (b:=true) ⟨o,ho,hc⟩ isSubtype_stop ?_)
 exact Qu (hQ _ hk)
theorem Qs {target:PySem.Expr} {z TI TO T:Addr} {f0:Value} {fl:Bool} {Q:Unit→Shared→Prop} (hz:s.heap.get? z=some (eJ f0 fl TI TO)) (hf:F0 f0)
  (hQ:∀ h' f0',h'.get? z=some (eJ f0' fl TI TO)→F0 f0'→Heap.SameBut z s.heap h'→Q () {s with heap:=h'}) :
  wpAny (model prog w) A (letOwnedTupleGo target (.ref z) (.ref T)) Q E s:=by
 have own:Q () s:=hQ s.heap f0 hz hf ⟨rfl,fun _ _=>rfl⟩
 have key:wpAny (model prog w) A (do
   let (.ref r,.ref a):=((Value.ref z),(Value.ref T)) | return
   let o ← load r
   match o.cls,o.data with
   | .type n,.fields vs=>
    if nr.contains n && vs[0]?==some (rawInt a) then
     rule "for.unpacks-the-owned-tuple"
     updateField r 0 .none
   | _,_=>pure ():Sem Unit) Q E s:=by
  refine Qt (QA hz ?_)
  dsimp only
  split
  ·refine Qt (Ra ?_)
   show wpAny _ _ (setField (.ref z) 0 .none) Q E s
   exact wpAny_setField_rec hz (by simp) fun h' hz' hs'=>hQ h' .none hz' (.inl rfl) hs'
  ·exact Qu own
 cases target <;> first | exact Qu own | exact key
end
theorem po {α:Type} {n:Nat} {a:α}:∀ {l:List (Nat×α)},aj n l=some a→gE n a l=l
 | [],h=>by cases h
 | (m,b)::r,h=>by
  rw [am] at h
  rw [eE]
  by_cases q:n=m
  ·rw [QI q] at h; cases h; rw [QI q,q]
  ·rw [QH q] at h; rw [QH q,po h]
noncomputable def wO (o:Option AO) (k:Option (Option V)):Option (Option V):=match o with
 | some .own=>k
 | _=>none
noncomputable def C4 (x:Option V) (y:Option (Option V)):Option (Option V):=match x with
 | none=>some none
 | some a=>(match y with
  | some (some b)=>some (some (.tup [a,b]))
  | _=>none)
noncomputable def D7 (l:Nat) (v w:V) (i:Nat) (σ:St):Option (Option V):=wO (aj l σ.st) ((dD v i σ).bind fun x=>C4 x (dD w i σ))
noncomputable def PV (vs:List V) (σ:St) (K:(Nat→St→Option (Option V))→St→Prop):Prop:=uo vs fun v w=>bu v σ fun _=>bu w σ fun _=>K (D7 σ.nx v w) {σ with st:=(σ.nx,.own)::σ.st,nx:=σ.nx+1}
theorem jy {a b c:Addr} {P:Addr→Prop} (h1:P a) (h2:P b) (h3:P c):∀ x∈[a,b,c],P x:=List.forall_mem_cons.mpr ⟨h1,rr h2 h3⟩
theorem fu {x a b c:Addr} (q:x ∉ [a,b,c]):x≠a∧x≠b∧x≠c:=⟨fun w=>q (w ▸ QL ..),nK fun w=>q (QE _ w)⟩
theorem tt {o:Option AO} {k:Option (Option V)} {r:Option V} (h:wO o k=some r):o=some .own∧k=some r:=by
 unfold wO at h
 split at h
 ·exact ⟨rfl,h⟩
 ·first | exact nS h | exact nB h | cases h
theorem oN (f0:Value) (fl:Bool) (TI TO:Addr):jP (eJ f0 fl TI TO):=⟨rfl,_,rfl⟩
set_option tactic.hygienic true in
theorem Itr.zip {v w:V} {l:Nat} {z TI i1 i2 a1 a2:Addr} (ok:G.Ok) (hv:jF v=true) (hw:jF w=true) (Wv:RepV X0 n0 v (.ref a1)) (Ww:RepV X0 n0 w (.ref a2)) (hl:l<n0)
  (D:ZipApart z TI (X0.ρ l) i1 i2 a1 a2) (hT:X0.F TI=some {cls:=.type "tuple",data:=.seq #[.ref i1,.ref i2]}) (h1:X0.F z=none) (h2:X0.F i1=none) (h3:X0.F i2=none) (g1:G.hb.get? z=none) (g2:G.hb.get? i1=none) (g3:G.hb.get? i2=none) :
  Itr G lv tg (.ref z) [z,i1,i2] X0 n0 (D7 l v w) (fun i h=>(∃ f0 fl,h.get? z=some (eJ f0 fl TI (X0.ρ l))∧F0 f0)∧h.IsListIter i1 a1 i∧h.IsListIter i2 a2 i) where
 fresh:=jy h1 h2 h3
 hbS:=jy g1 g2 g3
 step:=fun A env i X σ s r ha L hn R hf hi hc=>by
  apply bc;intro z_
  obtain ⟨qo,hc⟩:=tt hc
  obtain ⟨xo,hcv,hc⟩:=Option.bind_eq_some_iff.mp hc
  obtain ⟨⟨f0,fl,hz,hf0⟩,it1,it2⟩:=hi
  obtain ⟨_,ta,tb,hTO⟩:=R.st l _ qo
  have eTO:X.ρ l=X0.ρ l:=L.ρ l hl
  rw [eTO] at hTO
  have hTI:=R.sub _ _ (L.F _ _ hT)
  obtain ⟨a',o,items,vs,e',ho,hlo,hs,er⟩:=br R (Wv.mono L hn) (fB hv hcv)
  apply z_;clear z_
  cases e'
  cases q:vs[i]? with
  | none=>
   rw [q] at er
   subst er
   cases hc
   refine Kz ha.handled D hz hf0 hTI hTO it1 (hlo.isList ho) (iO hs q) fun h' hk=>?_
   apply bc;intro z_
   obtain ⟨X',R',w⟩:=R.letgo (s':={s with heap:=h'}) ok hf (jy g1 g2 g3) (fun b q o e=>hk b o (fu q).1 (fu q).2.1 e) rfl rfl R.gens
   apply z_;clear z_
   exact ⟨rfl,X',R',w⟩
  | some x=>
   rw [q] at er
   subst er
   apply bc;intro z_
   obtain ⟨yo,hcw,hr⟩:∃ y,dD w i σ=some (some y)∧some (V.tup [x,y])=r:=by
    unfold C4 at hc
    dsimp only at hc
    split at hc
    ·rename_i y hy; exact ⟨y,hy,Option.some.inj hc⟩
    ·first | exact nS hc | exact nB hc | cases hc
   subst hr
   obtain ⟨a2',o2,items2,ws,e2',ho2,hlo2,hs2,er2⟩:=br R (Ww.mono L hn) (fB hw hcw)
   apply z_;clear z_
   cases e2'
   apply bc;intro z_
   obtain ⟨vx,hx,Wx⟩:=hs.get q
   obtain ⟨vy,hy,Wy⟩:=hs2.get er2.symm
   apply z_;clear z_
   refine Cf D hz hf0 hTI hTO it1 it2 (hlo.isList ho) (hlo2.isList ho2) (x:=vx) (y:=vy) (by rw [Rf]; exact hx) (by rw [Rf]; exact hy) fun h' f0' fl' k1 k2 ⟨tx,ty,k3⟩ k4 k5 k6 k7 k8=>?_
   refine ⟨_,rfl,fun target Q _ k=>Qs k1 k2 fun h2 f0'' k1' k2' hs2'=>?_⟩
   have hzl:z<s.heap.objs.size:=QO hz
   have hTOz:X0.ρ l≠z:=D.TOz
   have ups:∀ c o,c≠z→h'.get? c=some o→h2.get? c=some o:=fun c o c1 e=>hs2'.extBut _ _ c1 e
   -- the heap with the owned tuple changed
   have hA1:(s.heap.update (X0.ρ l) fun _=>{cls:=.type "tuple",data:=.seq #[tx,ty]}).get? (X0.ρ l)=some {cls:=.type "tuple",data:=.seq #[tx,ty]}:=Heap.get?_update_self _ hTO rfl
   have hA2:∀ b,b≠X0.ρ l→(s.heap.update (X0.ρ l) fun _=>{cls:=.type "tuple",data:=.seq #[tx,ty]}).get? b=s.heap.get? b:=fun b hb=>QX _ _ (Ne.symm hb)
   have hA3:(s.heap.update (X0.ρ l) fun _=>{cls:=.type "tuple",data:=.seq #[tx,ty]}).objs.size=s.heap.objs.size:=Heap.size_update ..
   generalize (s.heap.update (X0.ρ l) fun _=>{cls:=.type "tuple",data:=.seq #[tx,ty]})=hA at hA1 hA2 hA3
   have R1:=R.upd (s':={s with heap:=hA}) (o:=.own) qo (fun b hb o e=>(hA2 b (by rw [← eTO]; exact hb)).trans e) ⟨tx,ty,by rw [eTO]; exact hA1⟩ rfl rfl R.gens
   rw [po qo] at R1
   have R1:Rel G X env σ {s with heap:=hA}:=R1
   obtain ⟨R2,L2⟩:=R1.still (s':={s with heap:=hA.push {cls:=.type "tuple",data:=.seq #[vx,vy]}}) (a:=s.heap.objs.size) (o:={cls:=.type "tuple",data:=.seq #[vx,vy]}) (by rw [← hA3]; exact aH) (fun _ _ e=>QB _ e) (by rw [← hA3]; exact QG _ rfl) rfl rfl R.gens ok
   apply bc;intro z_
   obtain ⟨X1,R3,w1,f1,eq1⟩:=R2.sw (s':={s with heap:=h2}) ok (hf.up L2) (jy g1 g2 g3)
    (fun b q o e=>by
     by_cases zz:b=s.heap.objs.size
     ·subst zz
      rw [show s.heap.objs.size=hA.objs.size from hA3.symm,QG _ rfl] at e
      cases e
      exact ups _ _ (Q7 hzl) k6
     ·have e':hA.get? b=some o:=by rwa [Q1 _ _ _ (by rw [hA3]; exact zz)] at e
      by_cases zT:b=X0.ρ l
      ·subst zT
       rw [hA1] at e'
       cases e'
       exact ups _ _ hTOz k3
      ·rw [hA2 b zT] at e'
       exact ups _ _ (fu q).1 (k8 b o (fu q).1 zT (fu q).2.1 (fu q).2.2 e'))
    (jy ⟨_,k1',oN _ _ _ _⟩ (let ⟨o,e,i,_⟩:=bT k4; ⟨o,ups _ _ D.i1z e,i⟩) (let ⟨o,e,i,_⟩:=bT k5; ⟨o,ups _ _ D.i2z e,i⟩)) rfl rfl R2.gens
   apply z_;clear z_
   refine k _ X1 R3 ⟨fun l hl=>(w1.ρ l hl).trans (L2.ρ l hl),fun b o q e=>w1.F b o q (L2.F _ _ e),fun b o q e=>(w1.P b o q (L2.F _ _ e)).trans (L2.P _ _ e)⟩ f1 ?_ ⟨⟨f0'',fl',k1',k2'⟩,k4.at fun o e=>ups _ o D.i1z e,k5.at fun o e=>ups _ o D.i2z e⟩
   refine RepV.sw (hf.up L2) w1 ?_
   exact .tup [x,yo] [vx,vy] s.heap.objs.size _ (QI rfl) ⟨rfl,rfl,⟨0,rfl⟩,rfl⟩ (.cons (Wx.mono L2 (QF _)) (.cons (Wy.mono L2 (QF _)) .nil))
 stable:=fun i X h h' L hX hf hi hk=>by
  apply bc;intro z_
  obtain ⟨⟨f0,fl,hz,hf0⟩,⟨o1,e1,r1⟩,o2,e2,r2⟩:=hi
  apply z_;clear z_
  have mv:∀ b∈[z,i1,i2],∀ o,h.get? b=some o→h'.get? b=some o:=fun b hb o e=>by
   apply bc;intro z_
   obtain ⟨o',e',_⟩:=hf b hb
   apply z_;clear z_
   have:=hX _ _ e'
   rw [e] at this; cases this
   exact hk _ _ e'
  exact ⟨⟨f0,fl,mv z (by simp) _ hz,hf0⟩,⟨o1,mv i1 (by simp) _ e1,r1⟩,o2,mv i2 (by simp) _ e2,r2⟩
 self:=fun A i s Q ha hi q=>by
  apply bc;intro z_
  obtain ⟨⟨f0,fl,hz,hf0⟩,_⟩:=hi
  apply z_;clear z_
  have hT:s.TypeIs (.ref z) "zip":=⟨_,hz,rfl⟩
  refine wpAny_pyIter_slot hT PySem.F.slot_zip_iter (Qz PySem.F.slot_zip_iter hT PySem.F.entry_zip_iter ?_ (PySem.F.args_zip_iter_1 _))
  show wpAny _ _ (ret (.ref z)) _ _ s
  exact Qu ⟨_,rfl,"zip",_,hT,PySem.F.slot_zip_next.lookup,q⟩
theorem uk {N a1 a2:Nat} (h1:a1<N) (h2:a2<N):ZipApart (N+4) (N+2) (N+3) N (N+1) a1 a2:=by
 constructor <;> (intro w; simp only [Addr] at *; omega)
theorem oO {v:V} {σ:St} {k:List V→Prop} (h:bu v σ k):jF v=true:=by cases v <;> first | exact h.elim | rfl
theorem K6 (ok:G.Ok):CI G lv tg (.type "zip") PV:=fun vs σ K hd A env X s vals ha R W=>by
 refine W.on2_ hd fun v w val val' Wv Ww hd=>?_
 apply bc;intro z_
 obtain ⟨a1,o1,items1,ws1,rfl,ho1,hl1,hs1,hd1⟩:=br R Wv hd
 obtain ⟨a2,o2,items2,ws2,rfl,ho2,hl2,hs2,q⟩:=br R Ww hd1
 apply z_;clear z_
 have hv:=oO hd
 have hw:=oO hd1
 refine call_zip_2 (hl1.isList ho1) (hl2.isList ho2) fun h' hz hTI hTO hi1 hi2 hsz hk=>?_
 refine wpAny_pyIter_zip hz ?_
 apply bc;intro z_
 obtain ⟨oi1,x1,y1,z1⟩:=bT hi1
 obtain ⟨oi2,x2,y2,z2⟩:=bT hi2
 have f1:oi1.isFreed=false:=(Heap.get?_some_iff.mp x1).2
 have f2:oi2.isFreed=false:=(Heap.get?_some_iff.mp x2).2
 have nw:∀ {h:Heap} {k:Nat},h.objs.size≤k→h.get? k=none:=fun {h k} hk=>by
  cases z:h.get? k with
  | none=>rfl
  | some o=>exact absurd (QO z) (QT hk)
 let H1:=s.heap.push oi1
 let H2:=H1.push oi2
 let H3:=H2.push {cls:=.type "tuple",data:=.seq #[.ref s.heap.objs.size,.ref (s.heap.objs.size+1)]}
 let H4:=H3.push {cls:=.type "tuple",data:=.seq #[.none,.none]}
 have s1:H1.objs.size=s.heap.objs.size+1:=Heap.size_push ..
 have s2:H2.objs.size=s.heap.objs.size+2:=by show (H1.push _).objs.size=_; rw [Heap.size_push,s1]
 have s3:H3.objs.size=s.heap.objs.size+3:=by show (H2.push _).objs.size=_; rw [Heap.size_push,s2]
 have s4:H4.objs.size=s.heap.objs.size+4:=by show (H3.push _).objs.size=_; rw [Heap.size_push,s3]
 have p1:H1.get? s.heap.objs.size=some oi1:=QG _ f1
 have p2:H2.get? (s.heap.objs.size+1)=some oi2:=by rw [← s1]; exact QG _ f2
 have p3:H3.get? (s.heap.objs.size+2)=some {cls:=.type "tuple",data:=.seq #[.ref s.heap.objs.size,.ref (s.heap.objs.size+1)]}:=by rw [← s2]; exact QG _ rfl
 have p4:H4.get? (s.heap.objs.size+3)=some {cls:=.type "tuple",data:=.seq #[.none,.none]}:=by rw [← s3]; exact QG _ rfl
 have up4:∀ b o,H4.get? b=some o→h'.get? b=some o:=fun b o e=>by
  by_cases e4:b=s.heap.objs.size+3
  ·subst e4; rw [p4] at e; cases e; exact hTO
  ·have e:H3.get? b=some o:=by rwa [Q1 _ _ _ (by rw [s3]; exact e4)] at e
   by_cases e3:b=s.heap.objs.size+2
   ·subst e3; rw [p3] at e; cases e; exact hTI
   ·have e:H2.get? b=some o:=by rwa [Q1 _ _ _ (by rw [s2]; exact e3)] at e
    by_cases e2:b=s.heap.objs.size+1
    ·subst e2; rw [p2] at e; cases e; exact x2
    ·have e:H1.get? b=some o:=by rwa [Q1 _ _ _ (by rw [s1]; exact e2)] at e
     by_cases e1:b=s.heap.objs.size
     ·subst e1; rw [p1] at e; cases e; exact x1
     ·rw [Q1 _ _ _ e1] at e; exact hk _ _ e
 have old:∀ k:Nat,X.F (s.heap.objs.size+k)=none∧G.hb.get? (s.heap.objs.size+k)=none:=fun k=>R.newAt (nw (Nat.le_add_right _ _))
 have ne:∀ (b:Addr) (o:Obj) (k:Nat),X.F b=some o→b≠s.heap.objs.size+k:=fun b o k e w=>by rw [w,(old k).1] at e; cases e
 obtain ⟨X1,R1,F1,ρ1,P1⟩:∃ X1:Wd,Rel G X1 env σ {s with heap:=H1}∧(∀ b,X1.F b=if b=s.heap.objs.size then some oi1 else X.F b)∧X1.ρ=X.ρ∧X1.P=X.P:=
  ⟨_,(R.still (s':={s with heap:=H1}) (a:=s.heap.objs.size) aH (fun _ _ e=>QB _ e) p1 rfl rfl R.gens ok).1,fun _=>rfl,rfl,rfl⟩
 obtain ⟨X2,R2,F2,ρ2,P2⟩:∃ X2:Wd,Rel G X2 env σ {s with heap:=H2}∧(∀ b,X2.F b=if b=s.heap.objs.size+1 then some oi2 else X1.F b)∧X2.ρ=X1.ρ∧X2.P=X1.P:=
  ⟨_,(R1.still (s':={s with heap:=H2}) (a:=s.heap.objs.size+1) (nw (Rc s1)) (fun _ _ e=>QB _ e) p2 rfl rfl R.gens ok).1,fun _=>rfl,rfl,rfl⟩
 obtain ⟨X3,R3,F3,ρ3,P3⟩:∃ X3:Wd,Rel G X3 env σ {s with heap:=H3}∧(∀ b,X3.F b=if b=s.heap.objs.size+2 then some {cls:=.type "tuple",data:=.seq #[.ref s.heap.objs.size,.ref (s.heap.objs.size+1)]} else X2.F b)∧X3.ρ=X2.ρ∧X3.P=X2.P:=
  ⟨_,(R2.still (s':={s with heap:=H3}) (a:=s.heap.objs.size+2) (nw (Rc s2)) (fun _ _ e=>QB _ e) p3 rfl rfl R.gens ok).1,fun _=>rfl,rfl,rfl⟩
 obtain ⟨X4,R4,F4,ρ4,P4⟩:∃ X4:Wd,Rel G X4 env {σ with st:=(σ.nx,.own)::σ.st,nx:=σ.nx+1} {s with heap:=H4}∧X4.F=X3.F∧(∀ l,X4.ρ l=if l=σ.nx then s.heap.objs.size+3 else X3.ρ l)∧X4.P=X3.P:=
  ⟨_,(R3.anew (o:=.own) (s':={s with heap:=H4}) (a:=s.heap.objs.size+3) (nw (Rc s3)) (Nat.lt_add_right 3 (R.size ok)) (fun _ _ e=>QB _ e) (fun X' L=>⟨.none,.none,p4⟩) rfl rfl R.gens).1,rfl,fun _=>rfl,rfl⟩
 obtain ⟨X5,R5,F5,ρ5,P5⟩:∃ X5:Wd,Rel G X5 env {σ with st:=(σ.nx,.own)::σ.st,nx:=σ.nx+1} {s with heap:=h'}∧(∀ b,X5.F b=if b=s.heap.objs.size+4 then some (eJ .none false (s.heap.objs.size+2) (s.heap.objs.size+3)) else X4.F b)∧X5.ρ=X4.ρ∧X5.P=X4.P:=
  ⟨_,(R4.still (s':={s with heap:=h'}) (a:=s.heap.objs.size+4) (nw (Rc s4)) up4 hz rfl rfl R.gens ok).1,fun _=>rfl,rfl,rfl⟩
 apply z_;clear z_
 have FF:∀ b,X5.F b=if b=s.heap.objs.size+4 then some (eJ .none false (s.heap.objs.size+2) (s.heap.objs.size+3)) else if b=s.heap.objs.size+2 then some {cls:=.type "tuple",data:=.seq #[.ref s.heap.objs.size,.ref (s.heap.objs.size+1)]} else if b=s.heap.objs.size+1 then some oi2 else if b=s.heap.objs.size then some oi1 else X.F b:=fun b=>by rw [F5,F4,F3,F2,F1]
 have ρρ:∀ l,X5.ρ l=if l=σ.nx then s.heap.objs.size+3 else X.ρ l:=fun l=>by rw [ρ5,ρ4,ρ3,ρ2,ρ1]
 have PP:X5.P=X.P:=by rw [P5,P4,P3,P2,P1]
 have Fold:∀ (b:Addr) (o:Obj),X.F b=some o→X5.F b=some o:=fun b o e=>by
  rw [FF,QH (ne b o 4 e),QH (ne b o 2 e),QH (ne b o 1 e),QH (show ¬ b=s.heap.objs.size from ne b o 0 e)]; exact e
 have ne_:∀ {i j:Nat},i≠j→s.heap.objs.size+i≠s.heap.objs.size+j:=fun h w=>h (Nat.add_left_cancel w)
 have F4':X5.F (s.heap.objs.size+4)=some (eJ .none false (s.heap.objs.size+2) (s.heap.objs.size+3)):=by rw [FF,QI rfl]
 have F2':X5.F (s.heap.objs.size+2)=some {cls:=.type "tuple",data:=.seq #[.ref s.heap.objs.size,.ref (s.heap.objs.size+1)]}:=by rw [FF,QH (ne_ (by decide)),QI rfl]
 have F1':X5.F (s.heap.objs.size+1)=some oi2:=by rw [FF,QH (ne_ (by decide)),QH (ne_ (by decide)),QI rfl]
 have F0':X5.F s.heap.objs.size=some oi1:=by
  have:=ne_ (i:=0) (j:=4) (by decide); have:=ne_ (i:=0) (j:=2) (by decide); have:=ne_ (i:=0) (j:=1) (by decide)
  rw [FF,QH (by assumption),QH (by assumption),QH (by assumption),QI rfl]
 let X0:Wd:={X with F:=fun b=>if b=s.heap.objs.size+2 then some {cls:=.type "tuple",data:=.seq #[.ref s.heap.objs.size,.ref (s.heap.objs.size+1)]} else X.F b,ρ:=fun l=>if l=σ.nx then s.heap.objs.size+3 else X.ρ l}
 have L0:X.le σ.nx X0:=⟨fun l hl=>QH (Q8 hl),fun b o e=>(QH (ne b o 2 e)).trans e,fun _ _ _=>rfl⟩
 have hρ:X0.ρ σ.nx=s.heap.objs.size+3:=QI rfl
 refine ⟨D7 σ.nx v w,{σ with st:=(σ.nx,.own)::σ.st,nx:=σ.nx+1},X0,X5,
  [s.heap.objs.size+4,s.heap.objs.size,s.heap.objs.size+1],_,q,L0,⟨fun l hl=>ρρ l,fun b o e=>?_,fun _ _ _=>by rw [PP]⟩,Q0 _,R5,jy ⟨_,F4',oN _ _ _ _⟩ ⟨oi1,F0',y1⟩ ⟨oi2,F1',y2⟩,⟨⟨.none,false,?_,.inl rfl⟩,hi1,hi2⟩,
  Itr.zip (a1:=a1) (a2:=a2) (TI:=s.heap.objs.size+2) ok hv hw (Wv.mono L0 (Q0 _)) (Ww.mono L0 (Q0 _)) (QK _) ?_ (QI rfl) ((QH (ne_ (by decide))).trans (old 4).1) ((QH (ne_ (i:=0) (by decide))).trans (old 0).1) ((QH (ne_ (by decide))).trans (old 1).1) (old 4).2 (old 0).2 (old 1).2⟩
 ·have e:(if b=s.heap.objs.size+2 then some {cls:=.type "tuple",data:=.seq #[.ref s.heap.objs.size,.ref (s.heap.objs.size+1)]} else X.F b)=some o:=e
  by_cases qb:b=s.heap.objs.size+2
  ·rw [QI qb] at e; rw [qb,F2']; exact e
  ·rw [QH qb] at e; exact Fold b o e
 ·rw [hρ]
  exact uk (QO ho1) (QO ho2)
 ·rw [hρ]; exact hz
noncomputable def Py (v:V) (k:List V→Prop):Prop:=match v with
 | .tup vs=>k vs
 | .fro vs=>k vs
 | _=>False
noncomputable def MD (a b:V) (σ:St) (Q:V→St→Prop):Prop:=aZ b fun n=>bu a σ fun xs=>onT (bg n) (fits (xs.length*n.toNat) (g7 (.list (lJ n xs)) σ Q))
noncomputable def rR (vs:List V) (σ:St) (Q:V→St→Prop):Prop:=uo vs fun v w=>sn v fun b=>bv w fun e=>match b with
 | []=>(match ly e fW with
  | true=>Q (.str []) σ
  | false=>False)
 | a::r=>rQ [.byt (a::r),.str e] σ Q
noncomputable def MN (vs:List V) (σ:St) (Q:V→St→Prop):Prop:=match vs with
 | [.str [c]]=>Q (.int c) σ
 | _=>False
set_option tactic.hygienic true in
theorem Ch:CB G lv (.builtin "ord") [] (fun vs _=>MN vs):=CB.of (fun a w=>by cases w) fun vs σ Q hd A env X s vals ha R W=>by
 unfold MN at hd
 split at hd <;> first | exact hd.elim | skip
 rename_i c
 obtain ⟨val,rfl,Wv⟩:=W.one
 cases Wv
 exact PySem.P.ord_of_char (Post.ret hd (R.toks _) (.int _ _))
theorem Kd {e:PySem.Expr} {x:PySem.Str} {py:Pos} {line:Nat} (he:EOk sc env):swapsWithSole [.Name x py] e line env=swapsWithSole [.Name x py] e line (vU sc):=jx (line:=line) he
theorem uL {ts:List PySem.Expr} {ds:List V→St→(St→Prop)→Prop} {k:Nat} {p:Pos} (hs:Lh G lv sc ts ds) (hst:∀ env,(assignEach ts env).findIdx? (·.1)=none) (hlen:∀ env,(assignEach ts env).length=ts.length) :
  ST G lv sc (.Tuple ts k p) (fun v σ Q=>Py v fun vs=>onT (md ts vs) (ds vs σ Q)):=fun v σ Q hd A env X s val ha he R W=>by
 cases v with
 | tup vs=>exact cA hs hst hlen (.tup vs) σ Q hd A env X s val ha he R W
 | fro vs=>
  apply bc;intro z_
  obtain ⟨a,o,vals,vs',rfl,ho,hl,hsv,hd⟩:=br R W (k:=fun vs=>onT (md ts vs) (ds vs σ Q)) hd
  obtain ⟨hn,hd⟩:=onT.out hd
  apply z_;clear z_
  rw [arm_assign_Tuple]
  refine Qt (Qx ?_)
  have e1:(assignEach ts env).length=vals.toArray.size:=by rw [hlen,QJ,hsv.length]; exact iN hn
  unfold unpack
  rw [e1,hst env]
  refine Qt (Qw (kun_itemsOf ha.handled (hl.isList ho) fun h' e=>?_))
  exact hs vs' σ Q hd A env X _ _ ha he (R.heap (t:=s.toks) (je e)) hsv
 | _=>exact hd.elim
theorem A9 {a:V} {va:Value} {i:Int} {u:Tok} {Q:V→St→Prop} (ok:G.Ok) (R:Rel G X env σ s) (Wa:RepV X σ.nx a va)
  (h:bu a σ fun xs=>onT (bg i) (fits (xs.length*i.toNat) (g7 (.list (lJ i xs)) σ Q))):wpAny (model G.prog G.w) A (binaryOp .Mult va (.int i u)) (Post G X env σ.nx Q) bh s:=by
 apply bc;intro z_
 obtain ⟨l,o,vs,xs,rfl,ho,hl,W1,h⟩:=br R Wa h
 obtain ⟨hs,h⟩:=onT.out h
 obtain ⟨hz,q⟩:=fits.out h
 have ⟨b1,b2⟩:=ew hs
 obtain ⟨cls,dd,data,sl⟩:=o
 obtain ⟨hc,hdd,⟨k,hd⟩,hsl⟩:=hl
 apply z_;clear z_
 dsimp only at hc hd
 subst hc hd
 have hz':vs.toArray.size*i.toNat≤1000000:=by rw [QJ,W1.length]; exact hz
 have hz2:vs.length*i.toNat≤1000000:=hz'
 have eq:lJ i xs=(List.replicate i.toNat xs).flatten:=by cases i <;> rfl
 rw [eq] at q
 refine wpAny_binaryOp_repeat_ref (T:="list") (U:="int") (by decide) ⟨_,ho,rfl⟩ (fun s'=>typeIs_int s' i u) noFill_list_mul F.fills_int_mul F.slot_int_rmul repeat_list F.slot_int_index.lookup
  (call_meets F.slot_int_rmul (typeIs_int s i u) F.entry_int_rmul (F.args_int_rmul_2 _ _) (lm_int_rmul_list_any i u l vs.toArray k dd sl)
   ⟨ho,rfl,⟨_,ho,rfl⟩,call_meets F.slot_list_mul ⟨_,ho,rfl⟩ F.entry_list_mul (F.args_list_mul_2 _ _)
    (lm_list_mul_any l vs.toArray k dd sl i u (by simp [Builtin.List.listFitsIndex]; omega) (by omega) (by rw [QJ]; have hq:¬ (vs.length*i.toNat > sizeLine):=(by rw [QN]; omega); rw [show Builtin.List.listTooLong (vs.length*i.toNat)=false from QR hq]; exact QM))
    ⟨ho,?_⟩⟩)
 rw [listMul_foldl_if]
 exact Post.newLocList ok q R (W1.flatten _)
theorem uK {l r:PySem.Expr} {dl dr:DE} {p:Pos} (ok:G.Ok) (hl:SE G lv sc l dl) (hr:SE G lv sc r dr) :
  SE G lv sc (.BinOp l .Mult r p) (fun σ Q=>dl σ fun a σ1=>dr σ1 fun b σ2=>MD a b σ2 Q):=fun σ Q hd A env X s ha he R=>by
 refine wpAny_BinOp (hl.run hd ha he R fun va s1 a σ1 X1 k1 L1 n1 R1 W1=>hr.run k1 ha he R1 fun vb s2 b σ2 X2 k2 L2 n2 R2 W2=>?_)
 exact Qv (W2.int_ k2 fun i t k2=>A9 ok R2 (W1.mono L2 n2) k2) (fun _ _ z=>Post.lift (L1.trans L2 n1) (QC n1 n2) z) fun _ _ z=>z
theorem oF (t u:Tok):Builtin.«bytes.decode» ⟨[.bytes #[] t,.str (PySem.Str.ofString "ascii") u],[]⟩=(rule "bytes.decode.empty" >>= fun _=>mkStr PySem.Str.empty >>= fun v=>ret v):=by kernel_rfl
theorem sR:CB G lv (.builtin "bytes.decode") [] (fun vs _=>rR vs):=CB.of (fun a w=>by cases w) fun vs σ Q hd A env X s vals ha R W=>by
 refine W.on2_ hd fun v w val val' Wv Ww hd=>Wv.byt_ hd fun b t hd=>Ww.str_ hd fun e u hd=>?_
 cases b with
 | nil=>
  cases q1:ly e fW with
  | false=>rw [q1] at hd; exact hd.elim
  | true=>
  rw [q1] at hd
  have he:e=fW:=by rw [dZ] at q1; exact Re q1
  subst he
  have hs:(⟨fW.toArray⟩:Str)=Str.ofString "ascii":=by decide +kernel
  rw [hs]
  refine call_meets FB.slot_bytes_decode (typeIs_bytes _ _ _) FB.entry_bytes_decode (ij _ _) (S:=fun _ R s=>∀ t' k,R (.ok (.ret (.str ⟨([]:List Nat).toArray⟩ t'))) {s with toks:=k}) (.of_wp fun prog w A R s hS=>?_) fun t' k=>Post.ret hd (R.toks _) (.str _ _)
  show wpAny _ _ (Builtin.«bytes.decode» ⟨[.bytes #[] _,.str (PySem.Str.ofString "ascii") _],[]⟩) _ _ _
  rw [oF]
  exact Qt (Ra (Qt (wpAny_mkStr (Qu ⟨_,rfl,hS _ _⟩) (by decide))))
 | cons a r=>exact (uq [.byt (a::r),.str e] [] σ Q hd A env X s _ [] ha R (.cons (.byt _ _) (.cons (.str _ _) .nil)) .nil).2
theorem jb {o:PySem.Expr} {do_:DE} (ho:SE G lv sc o do_):SM G lv sc o "decode" [] (iU .bytes (fun vs _=>rR vs) do_):=bK (T:=.bytes) ho FB.plainAttrs_bytes FB.slot_bytes_decode (by show builtinType _=_; rw [QU]; kernel_rfl) sR
noncomputable def vN (c:Nat):List Nat→Option (List Nat×List Nat)
 | []=>none
 | a::r=>(match Nat.beq a c with
  | true=>some ([],r)
  | false=>(match vN c r with
   | some p=>some (a::p.1,p.2)
   | none=>none))
theorem lV {c:Nat}:∀ {x:List Nat} {p:List Nat×List Nat},vN c x=some p→x=p.1++c::p.2∧c ∉ p.1
 | [],_,h=>by cases h
 | a::r,p,h=>by
  unfold vN at h
  cases q:Nat.beq a c with
  | true=>rw [q] at h; cases h; cases QP q; exact ⟨rfl,fun w=>by cases w⟩
  | false=>
   rw [q] at h
   dsimp only at h
   cases q2:vN c r with
   | none=>rw [q2] at h; cases h
   | some p'=>
    rw [q2] at h
    cases h
    obtain ⟨e,n⟩:=lV q2
    have:=Nat.ne_of_beq_eq_false q
    exact ⟨by rw [e]; rfl,by simp only [List.mem_cons,not_or]; exact ⟨fun w=>this w.symm,n⟩⟩
noncomputable def sI (vs:List V) (σ:St) (Q:V→St→Prop):Prop:=G0 vs fun v w u=>bv v fun x=>bv w fun y=>oneC y fun c=>aZ u fun i=>oneI i (fits x.length (onS (vN c x) fun p=>Q (.fro [.str p.1,.str p.2]) σ))
theorem xA {p q:List Nat} {c:Nat} (hp:c ∉ p):Builtin.Str.occurrences ⟨(p++c::q).toArray⟩ ⟨[c].toArray⟩ 0 (⟨(p++c::q).toArray⟩:Str).length 1=[p.length]:=by
 have hat:∀ i,StrLaws.At ⟨(p++c::q).toArray⟩ ⟨[c].toArray⟩ (⟨(p++c::q).toArray⟩:Str).length i ↔ (p++c::q)[i]?=some c:=fun i=>by
  have:=StrLaws.subAt_one ⟨(p++c::q).toArray⟩ c i
  exact this
 have hlt:=StrLaws.occ_length_le ⟨(p++c::q).toArray⟩ ⟨[c].toArray⟩ 0 (⟨(p++c::q).toArray⟩:Str).length 1
 rcases StrLaws.occ_head ⟨(p++c::q).toArray⟩ ⟨[c].toArray⟩ 1 (QF _) with ⟨_,h⟩ | ⟨i,r,e,h1,h2⟩
 ·exact absurd ((hat p.length).mpr (by simp)) (h _)
 ·rw [e] at hlt ⊢
  have hr:r=[]:=by cases r with | nil=>rfl | cons=>simp at hlt
  subst hr
  have h1:=(hat i).mp h1
  rcases Nat.lt_trichotomy i p.length with h | h | h
  ·rw [List.getElem?_append_left h] at h1
   exact absurd (QY h1) hp
  ·rw [h]
  ·exact absurd ((hat p.length).mpr (by simp)) (h2 _ h)
noncomputable def LZ:List V→(List V→Prop)→Prop
 | [],k=>k []
 | v::r,k=>(match v with
  | .str s=>jE s fun t=>LZ r fun ws=>k (.str t::ws)
  | v=>LZ r fun ws=>k (v::ws))
noncomputable def OL (v:V) (k:V→Prop):Prop:=match v with
 | .str s=>jE s fun t=>k (.str t)
 | .fro vs=>LZ vs fun ws=>k (.fro ws)
 | v=>k v
theorem qG:∀ {l:List V} {k:List V→Prop},LZ l k=k l
 | [],k=>rfl
 | v::r,k=>by
  cases v with
  | str s=>show jE s (fun t=>LZ r fun ws=>k (.str t::ws))=_; rw [f5,qG]
  | _=>exact qG (l:=r)
theorem E7 {v:V} {k:V→Prop}:OL v k=k v:=by
 cases v with
 | str s=>show jE s (fun t=>k (.str t))=_; rw [f5]
 | fro vs=>exact qG
 | _=>rfl
theorem rA {e:PySem.Expr} {d:DE} (h:SE G lv sc e d):SE G lv sc e (fun σ Q=>d σ fun v σ1=>m5 v fun w=>Q w σ1):=fun σ Q hd=>h σ Q (by
 have e:(fun v σ1=>m5 v fun w=>Q w σ1)=Q:=by funext v σ1; exact jZ
 rw [← e]; exact hd)
noncomputable def Dt (d:DE):DE:=fun σ Q=>d σ fun v σ1=>OL v fun w=>Q w σ1
theorem dz {e:PySem.Expr} {d:DE} (h:SE G lv sc e d):SE G lv sc e (Dt d):=fun σ Q hd=>h σ Q (by
 have e:(fun v σ1=>OL v fun w=>Q w σ1)=Q:=by funext v σ1; exact E7
 rw [← e]; exact hd)
theorem uU {i:Nat} {x:Str} {k:NameKind} {e:PySem.Expr} {d:DE} {p q:Pos} (hN:NamesOk sc) (hx:sc.names[i]?=some (x,k)) (hk:k=.local∨(k=.cell∧sc.fn=true)) (h:SE G lv sc e d) :
  SS G lv sc (.AugAssign (.Name x p) .Add e q) (fun σ Q=>fO i σ fun old σ0=>d σ0 fun v σ1=>bv old fun a=>bv v fun b=>fits (a.length+b.length) (jE (a++b) fun t=>Q .next (dm i (.str t) σ1))):=fun σ Q hd=>DG hN hx hk h σ Q (by simp only [f5] at hd; exact hd)
theorem ut (ok:G.Ok):CB G lv (.builtin "str.split") [] (fun vs _=>sI vs):=CB.of (fun a w=>by cases w) fun vs σ Q hd A env X s vals ha R W=>by
 refine W.on3_ hd fun v w z val val' val'' Wv Ww Wz hd=>Wv.str_ hd fun x t hd=>Ww.str_ hd fun y u hd=>?_
 apply bc;intro z_
 obtain ⟨c,rfl,hd⟩:=oneC.out hd
 apply z_;clear z_
 refine Wz.int_ hd fun i j hd=>?_
 apply bc;intro z_
 obtain ⟨rfl,hd⟩:=oneI.out hd
 obtain ⟨hz,hd⟩:=fits.out hd
 obtain ⟨⟨p,q⟩,e,hd2⟩:=onS.out hd
 obtain ⟨rfl,hp⟩:=lV e
 apply z_;clear z_
 dsimp only at hp hd2 hz ⊢
 have hk:(decide (Int.ofNat 1 < -(2 ^ 63:Int)) || decide (Int.ofNat 1 ≥ 2 ^ 63))=false:=by decide
 have el:limitOf ⟨(p++c::q).toArray⟩ (Int.ofNat 1)=1:=rfl
 have ho:=xA (q:=q) hp
 have hparts:Builtin.Str.partsBetween ⟨(p++c::q).toArray⟩ [p.length] (⟨[c].toArray⟩:Str).length=[⟨p.toArray⟩,⟨q.toArray⟩]:=by
  unfold Builtin.Str.partsBetween Builtin.Str.strSub
  simp [Str.length]
  exact List.take_of_length_le (by omega)
 cases h1:(decide ((⟨(p++c::q).toArray⟩:Str).length<(⟨[c].toArray⟩:Str).length) || decide (Builtin.Str.strKind ⟨(p++c::q).toArray⟩<Builtin.Str.strKind ⟨[c].toArray⟩)) with
 | true=>exact (oS h1).elim
 | false=>
  refine call_meets PySem.F.slot_str_split (typeIs_str _ _ _) PySem.F.entry_str_split (PySem.F.args_str_split_3 _ _ _) (meets_str_split_sep_max _ _ _ _ _ _ hk h1 rfl (by rw [el,ho]; rfl) (by rw [bl,QN]; omega) (by rw [el,ho,hparts,QN]; exact QD rfl)) ?_
  rw [el,ho,hparts,strsFrom_eq]
  exact Post.newList ok hd2 R (ft [p,q] _ (numbered_texts _ _))
theorem uS {o:PySem.Expr} {do_:DE} (ok:G.Ok) (ho:SE G lv sc o do_):SM G lv sc o "split" [] (iU .str (fun vs _=>sI vs) do_):=bK (T:=.str) ho PySem.F.plainAttrs_str PySem.F.slot_str_split (by show builtinType _=_; rw [QU]; kernel_rfl) (ut ok)
noncomputable def Pr (e:PySem.Expr):Bool:=match e with
 | .Starred ..=>false
 | _=>true
noncomputable def ya:List PySem.Expr→Bool
 | []=>true
 | e::r=>(match Pr e with
  | true=>ya r
  | false=>false)
theorem x9 {e:PySem.Expr} (h:Pr e=true) (env:Env) (r:List PySem.Expr):starEach (e::r) env=(false,eval e env)::starEach r env:=by
 cases e <;> first | rfl | cases h
set_option tactic.hygienic true in
theorem j5:∀ {es:List PySem.Expr},ya es=true→∀ (env:Env) (pos:Pos),(backTo pos (starEach es env)).any (·.1)=false
 | [],_,_,_=>rfl
 | e::r,h,env,pos=>by
  unfold ya at h
  split at h
  ·rename_i q
   rw [x9 q]
   exact j5 h env pos
  ·first | exact nS h | exact nB h | cases h
theorem aA {e:PySem.Expr} {es:List PySem.Expr} {d:DE} {ds:DA} (h:SE G lv sc e d) (hs:SA G lv sc es ds) (hp:Pr e=true) :
  SA G lv sc (e::es) (ib d ds):=mH h hs (x9 hp)
noncomputable def ja (D:List V→List V→DE) (da:DA):DE:=fun σ Q=>da σ fun vs σ1=>D vs [] σ1 Q
theorem ar {x:Str} {np p:Pos} {args:List PySem.Expr} {D:List V→List V→DE} {da:DA} (hf:SC G lv sc (.Name x np) [] D) (ha:SA G lv sc args da) (hp:ya args=true):SE G lv sc (.Call (.Name x np) args [] p) (ja D da):=uE hf ha eP (j5 hp) (fun _ _=>rfl) (fun _ _=>rfl)
noncomputable def sW (d:DC) (da:DA):DE:=fun σ Q=>d σ fun C σ1=>da σ1 fun vs σ2=>C vs [] σ2 Q
theorem al {o:PySem.Expr} {name:Str} {ap p:Pos} {args:List PySem.Expr} {d:DC} {da:DA} (hf:SM G lv sc o name [] d) (ha:SA G lv sc args da)
  (hb:∀ env,attributeBase o name env (eval o env)=eval o env) (hl:(ap.endLine==p.line)=true) (hp:ya args=true) (hn:Nat.ble args.length 20=true):SE G lv sc (.Call (.Attribute o name ap) args [] p) (sW d da):=fS hf ha eP hb hl (fun env pos=>by
   have h1:=j5 hp env pos
   have h2:=QD hn
   unfold methodCallForm
   have h3:(backTo pos (starEach args env)).all (fun x=>!x.1)=true:=by
    rw [List.all_eq_not_any_not]; simpa using h1
   rw [h3]
   have:args.length+([]:List Keyword).length+(if (backToKw pos (keywordEach [] env)).isEmpty=true then 0 else 1)<30:=by
    show args.length+0+0<30
    omega
   rw [QS this]; rfl) (j5 hp) (fun _ _=>rfl) (fun _ _=>rfl)
noncomputable def Ps (e:PySem.Expr):Bool:=match e with
 | .ListComp ..=>false
 | .SetComp ..=>false
 | .DictComp ..=>false
 | _=>true
theorem yb {e t:PySem.Expr} {n:Nat} {env:Env} (h:Ps e=true):swapsWithSole [t] e n env=pure false:=by
 cases e <;> first | rfl | cases h
noncomputable def rF (i:Nat) (d:DE):DS:=fun σ Q=>d σ fun v σ1=>Q .next (dm i v σ1)
theorem aB {i:Nat} {x:Str} {e:PySem.Expr} {d:DE} {np p:Pos} (h:SE G lv sc e d) (hx:sc.names[i]?=some (x,.local)) (hp:Ps e=true):SS G lv sc (.Assign [.Name x np] e p) (rF i d):=bF h (cn (aw hx (.inl rfl)) (fun _=>rfl)) (fun _=>yb hp) (fun _ _=>rfl)
noncomputable def u6 (d do_:DE) (C0 i:Nat):DS:=fun σ Q=>d σ fun v σ1=>do_ σ1 fun ov σ2=>ll C0 i ov v σ2 fun σ3=>Q .next σ3
theorem bD {o e:PySem.Expr} {name:Str} {np p:Pos} {d do_:DE} {C0 i:Nat} (h:SE G lv sc e d) (ok:G.Ok) (hC:ClsOk G.K C0) (hi:G.an[i]?=some name) (hn:takerIn G.K C0 name=some none) (ho:SE G lv sc o do_) (hp:Ps e=true):SS G lv sc (.Assign [.Attribute o name np] e p) (u6 d do_ C0 i):=bF h (cn (Dy ok hC hi hn ho) (fun _=>rfl)) (fun _=>yb hp) (fun _ _=>rfl)
noncomputable def aG {α β:Type} (f:α→β) (l:List α):List β:=@List.rec α (fun _=>List β) [] (fun a _ ih=>f a::ih) l
noncomputable def aP {α β:Type} (f:α→β) (l:List α):List β:=@List.rec α (fun _=>List β) [] (fun a _ ih=>f a::ih) l
theorem aV {α β:Type} {f g:α→β} {l:List α}:aG f l=aP g l→∀ a∈l,f a=g a:=by
 induction l with
 | nil=>intro _ a h; cases h
 | cons b r ih=>
  intro e
  have e:f b::aG f r=g b::aP g r:=e
  injection e with e1 e2
  exact List.forall_mem_cons.mpr ⟨e1,ih e2⟩
noncomputable def KK (P:Params):Frag:=KH P
noncomputable def mt:Program:=PySem.Challenge.pw_tp0065_02
noncomputable def P0:Params:=(aWorld 1).params
noncomputable def cG (P:Params) (a:Nat):Option FuncData:=match (KK P).lookup a with
 | some o=>(match o.data with
  | .func d=>some d
  | _=>none)
 | none=>none
noncomputable def aX (o:Option FuncData):List PySem.Stmt:=match o with
 | some d=>(match d.body with
  | .stmts b=>b
  | _=>[])
 | none=>[]
noncomputable def hJ:List Str→Bool
 | []=>true
 | x::r=>!(r.contains x) && hJ r
theorem au:∀ {l:List Str},hJ l=true→l.Nodup
 | [],_=>.nil
 | x::r,h=>by
  unfold hJ at h
  rw [Bool.and_eq_true] at h
  refine List.nodup_cons.mpr ⟨?_,au h.2⟩
  intro hm
  have:=List.contains_iff_mem.mpr hm
  rw [this] at h; cases h.1
noncomputable def vY:List (Str×NameKind)→List (Str×NameKind)→Bool
 | [],[]=>true
 | (x,k)::r,(y,l)::t=>(x==y) && decide (k=l) && vY r t
 | _,_=>false
theorem mV:∀ {a b:List (Str×NameKind)},vY a b=true→a=b
 | [],[],_=>rfl
 | (x,k)::r,(y,l)::t,h=>by
  have h:((x==y) && decide (k=l) && vY r t)=true:=h
  rw [Bool.and_eq_true,Bool.and_eq_true,decide_eq_true_eq] at h
  rw [beq_iff_eq.mp h.1.1,h.1.2,mV h.2]
 | [],_::_,h=>by cases h
 | _::_,[],h=>by cases h
noncomputable def jY (K:Frag) (d:FuncData):Bool:=match d.code with
 | .ref c=>(match K.lookup c with
  | some oc=>(match oc.data with
   | .fields vs=>(match (vs[1]?:Option Value) with
    | some (.str q _)=>q==d.qualname
    | _=>false)
   | _=>false)
  | none=>false)
 | _=>false
noncomputable def r8 (b:FuncBody):Bool:=match b with | .stmts _=>true | _=>false
noncomputable def vG (v:Value) (c:Nat):Bool:=match v with | .ref a=>Nat.beq a c | _=>false
noncomputable def CO (K:Frag) (d:FuncData) (names:List (Str×NameKind)) (cd:Nat) (qual:Str):Bool:=
 vG d.code cd && (qual==d.qualname++".<locals>.") && d.closure.isEmpty && Nat.beq d.globals mainGlobals && Nat.beq d.builtins builtinsNs && !d.scope.isCoroutine && !d.scope.isGenerator && decide (d.scope.kind=.function) && vY names d.scope.names && hJ (names.map (·.1)) && jY K d && r8 d.body
noncomputable def wg (P:Params) (f:Nat) (names:List (Str×NameKind)) (cd:Nat) (qual:Str):Bool:=match cG P f with
 | some d=>CO (KK P) d names cd qual
 | none=>false
noncomputable def dE (o:Option FuncData) (d0:FuncData):FuncData:=match o with | some d=>d | none=>d0
structure GA where
 w:World
 hb:Heap
 mb:Str→Option Value
 os:OsState
 drawn:Drawn
 gn:Array GenState→Prop
 hp:Addr→Option Obj
noncomputable def qN:Pos:=⟨135,71,135,96⟩
noncomputable def sa:Str:=Str.ofString "C14NWriterTarget._start.<locals>."++"<lambda>"
noncomputable def Ke:(Addr→Option Obj)→Array Value→Prop:=fun F ps=>ps=#[]∨∃ c' o vs t,ps=#[rawInt qN.line,rawInt qN.col,.ref c']∧F c'=some o∧o.cls=.type "code"∧o.data=.fields vs∧vs[1]?=some (.str sa t)
noncomputable def Op:List Str:=(["raw","n","nt","norm","is_simple","longest_run_of_spaces","indent_level","less","_headers","_convert_string_type","get","setdefault","_write","_data","_with_comments","_strip_text","_exclude_attrs","_exclude_tags","_rewrite_prefixes","_qname_aware_tags","_find_qname_aware_attrs","_declared_ns_stack","_ns_stack","_prefix_map","_preserve_space","_pending_start","_root_seen","_root_done","_ignored_depth","_iter_namespaces","_qname","_start","start","end","_flush"]:List String).map Str.ofString
noncomputable def Gk (g:GA):Glob:=⟨mt,g.w,KK g.w.params,g.hb,123,g.mb,Op,g.os,g.drawn,Ke,g.gn,g.hp⟩
set_option tactic.hygienic true in
theorem FnOk.of {g:GA} {f:Nat} {fd:FuncData} {names:List (Str×NameKind)} {cd:Nat} {qual:Str} (e:cG g.w.params f=some fd) (h:wg g.w.params f names cd qual=true):FnOk (Gk g) f fd (aX (some fd)) ⟨names,true,cd,qual⟩:=by
 unfold wg at h
 rw [e] at h
 dsimp only at h
 unfold CO at h
 simp only [Bool.and_eq_true] at h
 apply bc;intro z_
 obtain ⟨⟨⟨⟨⟨⟨⟨⟨⟨⟨⟨q1,q2⟩,h1⟩,h2⟩,h3⟩,h4⟩,h5⟩,h6⟩,h7⟩,h8⟩,h9⟩,h10⟩:=h
 apply z_;clear z_
 have h7':=mV h7
 refine ⟨?_,?_,List.isEmpty_iff.mp h1,QP h2,QP h3,by simpa using h4,by simpa using h5,Re h6,?_,h7',rfl,au h8,fun _=>⟨?_,beq_iff_eq.mp q2⟩⟩
 ·unfold cG at e
  show ∃ o,(KK g.w.params).lookup f=some o∧_
  cases q:(KK g.w.params).lookup f with
  | none=>rw [q] at e; first | exact nS e | exact nB e | cases e
  | some o=>
   rw [q] at e
   dsimp only at e
   refine ⟨o,rfl,?_⟩
   split at e
   ·rename_i d hd; cases e; exact hd
   ·first | exact nS e | exact nB e | cases e
 ·unfold r8 at h10
  unfold aX
  dsimp only
  split at h10
  ·rename_i b hb; rw [hb]
  ·first | exact nS h10 | exact nB h10 | cases h10
 ·unfold jY at h9
  split at h9
  ·rename_i c hc
   split at h9
   ·rename_i oc hoc
    split at h9
    ·rename_i vs hvs
     split at h9
     ·rename_i q t hq
      exact ⟨c,oc,vs,t,hc,hoc,hvs,by rw [hq,beq_iff_eq.mp h9]⟩
     ·first | exact nS h9 | exact nB h9 | cases h9
    ·first | exact nS h9 | exact nB h9 | cases h9
   ·first | exact nS h9 | exact nB h9 | cases h9
  ·first | exact nS h9 | exact nB h9 | cases h9
 ·unfold vG at q1
  split at q1
  ·rename_i a ha; rw [ha,QP q1]
  ·first | exact nS q1 | exact nB q1 | cases q1
theorem d5 {α:Type} {l:List α} (h:l.length=0):l=[]:=List.length_eq_zero_iff.mp h
theorem ji {α:Type} {l:List α} (h:l.length=1):∃ a,l=[a]:=by
 match l,h with | [a],_=>exact ⟨a,rfl⟩
theorem jQ {α:Type} {l:List α} (h:l.length=2):∃ a b,l=[a,b]:=by
 match l,h with | [a,b],_=>exact ⟨a,b,rfl⟩
theorem AW {α:Type} {l:List α} (h:l.length=3):∃ a b c,l=[a,b,c]:=by
 match l,h with | [a,b,c],_=>exact ⟨a,b,c,rfl⟩
theorem O5 {α:Type} {l:List α} (h:l.length=4):∃ a b c d,l=[a,b,c,d]:=by
 match l,h with | [a,b,c,d],_=>exact ⟨a,b,c,d,rfl⟩
noncomputable def wn (scope:Scope) (sc:Sc):List (Nat×Nat)→Bool
 | []=>true
 | (j,i)::r=>(match scope.names[j]? with
  | some p=>(match sc.names[i]? with
   | some q=>decide (p.2=.free) && (decide (q.2=.cell) && p.1==q.1)
   | none=>false)
  | none=>false) && wn scope sc r
noncomputable def rN (sc sc':Sc) (scope:Scope) (fv:List (Nat×Nat)):Bool:=
 decide (scope.kind=.function) && hJ (scope.names.map (·.1)) && (scope.names.all fun p=>!decide (p.2=.cell)) && (scope.names.all fun p=>!decide (p.2=.free) || decide (sc.names.lookup p.1=some .cell)) &&
  vY sc'.names (jw scope.names sc.names) && hJ (sc'.names.map (·.1)) && !sc'.fn && sc.fn && Nat.beq sc'.code 0 && wn scope sc fv
theorem oK {scope:Scope} {sc:Sc}:∀ {fv:List (Nat×Nat)},wn scope sc fv=true→∀ p∈fv,∃ x,scope.names[p.1]?=some (x,NameKind.free)∧sc.names[p.2]?=some (x,NameKind.cell)
 | [],_,p,hp=>by cases hp
 | (j,i)::r,h,p,hp=>by
  have h:=Bool.and_eq_true_iff.mp h
  rcases List.mem_cons.mp hp with rfl | hp
  ·have h1:=h.1
   cases q1:scope.names[j]? with
   | none=>rw [q1] at h1; exact nB h1
   | some a=>
    cases q2:sc.names[i]? with
    | none=>rw [q1,q2] at h1; exact nB h1
    | some b=>
     rw [q1,q2] at h1
     have h1:=Bool.and_eq_true_iff.mp h1
     have h2:=Bool.and_eq_true_iff.mp h1.2
     obtain ⟨x,u⟩:=a
     obtain ⟨y,v⟩:=b
     cases Re h1.1
     cases Re h2.1
     cases beq_iff_eq.mp h2.2
     exact ⟨x,rfl,rfl⟩
  ·exact oK h.2 p hp
theorem CompOk.of {sc sc':Sc} {scope:Scope} {fv:List (Nat×Nat)} (h:rN sc sc' scope fv=true):CompOk sc sc' scope fv:=by
 unfold rN at h
 simp only [Bool.and_eq_true] at h
 apply bc;intro z_
 obtain ⟨⟨⟨⟨⟨⟨⟨⟨⟨h1,h2⟩,h3⟩,h4⟩,h5⟩,h6⟩,h7⟩,h8⟩,hc⟩,h9⟩:=h
 apply z_;clear z_
 refine ⟨Re h1,au h2,?_,?_,mV h5,au h6,by simpa using h7,QP hc,h8,oK h9⟩
 ·intro x hx
  have:=List.all_eq_true.mp h3 x hx
  simpa using this
 ·intro x hx
  have:=List.all_eq_true.mp h4 _ hx
  simpa using this
noncomputable def nO:List (List Nat):=[[66,65],[66,66],[66,67],[66,68],[66,69],[66,70],[66,71]]
noncomputable def dC:List (List Nat):=[[66,65],[66,66],[66,67],[66,68],[66,69],[66,70],[66,71],[98,97],[98,98],[98,99],[98,100],[98,101],[98,102],[98,103],[66],[67],[68],[66,65,45,66],[66,65,45,67],[66,65,45,68],[66,66,45,66],[66,66,45,67],[66,66,45,68],[66,67,45,66],[66,67,45,67],[66,67,45,68],[66,68,45,66],[66,68,45,67],[66,68,45,68],[66,69,45,66],[66,69,45,67],[66,69,45,68],[66,70,45,66],[66,70,45,67],[66,70,45,68],[66,71,45,66],[66,71,45,67],[66,71,45,68],[98,97,45],[98,97,45,98],[98,97,45,99],[98,97,45,100],[98,98,45],[98,98,45,98],[98,98,45,99],[98,98,45,100],[98,99,45],[98,99,45,98],[98,99,45,99],[98,99,45,100],[98,100,45],[98,100,45,98],[98,100,45,99],[98,100,45,100],[98,101,45],[98,101,45,98],[98,101,45,99],[98,101,45,100],[98,102,45],[98,102,45,98],[98,102,45,99],[98,102,45,100],[98,103,45],[98,103,45,98],[98,103,45,99],[98,103,45,100]]
theorem BR (P:Params):∀ a∈[246,251],∀ x∈dC,∀ t,peek (KK P) ⟨mt,P⟩ (Builtin.«re.Pattern.search» ⟨[.ref a,.str ⟨x.toArray⟩ t],[]⟩)=some (.done (.ret .none)):=fun a ha x hx t=>
 aV (f:=fun x:List Nat=>peek (KK P) ⟨mt,P⟩ (Builtin.«re.Pattern.search» ⟨[.ref a,.str ⟨x.toArray⟩ t],[]⟩)) (g:=fun _=>some (.done (.ret .none))) (l:=dC)
  (aV (f:=fun a:Nat=>aG (fun x:List Nat=>peek (KK P) ⟨mt,P⟩ (Builtin.«re.Pattern.search» ⟨[.ref a,.str ⟨x.toArray⟩ t],[]⟩)) dC) (g:=fun _=>aP (fun _=>some (.done (.ret .none))) dC) (l:=[246,251]) (by kernel_rfl) a ha) x hx
theorem Nf (g:GA):ReOk (Gk g) [246,251] dC where
 obj:=by
  intro a ha
  simp only [List.mem_cons,List.not_mem_nil,or_false] at ha
  rcases ha with rfl | rfl
  ·exact oP (K:=KK g.w.params) (by kernel_rfl)
  ·exact oP (K:=KK g.w.params) (by kernel_rfl)
 none:=BR g.w.params
noncomputable def CQ (K:Frag) (c T:Nat):Bool:=match K.lookup c with
 | some o=>(o.cls==.type "code") && (match o.data with
  | .fields vs=>(match (vs[11]?:Option Value) with
   | some (.ref P)=>Nat.beq P T
   | _=>false) && (match vs.getD 18 .none with | .str _ _=>true | _=>false) && (match vs.getD 7 .none with | .int _ _=>true | _=>false) && (match vs.getD 9 .none with | .bool _=>true | _=>false) && (match vs.getD 10 .none with | .int _ _=>true | _=>false) && !Nat.beq c T
  | _=>false)
 | none=>false
set_option tactic.hygienic true in
theorem wy {K:Frag} {c T:Nat} (h:CQ K c T=true) (h':Heap) (X:K.In h'):CodeHd h' c T:=by
 unfold CQ at h
 split at h
 ·rename_i o ho
  rw [Bool.and_eq_true] at h
  apply bc;intro z_
  obtain ⟨h0,h⟩:=h
  apply z_;clear z_
  split at h
  ·rename_i vs hvs
   simp only [Bool.and_eq_true] at h
   apply bc;intro z_
   obtain ⟨⟨⟨⟨⟨h1,h2⟩,h3⟩,h4⟩,h5⟩,h6⟩:=h
   apply z_;clear z_
   split at h1
   ·rename_i P hP
    cases QP h1
    split at h2
    ·rename_i x t hx
     split at h3
     ·rename_i i3 t3 hx3
      split at h4
      ·rename_i b4 hx4
       split at h5
       ·rename_i i5 t5 hx5
        refine ⟨o,vs,x,t,i3,t3,b4,i5,t5,X _ _ ho,beq_iff_eq.mp h0,hvs,hP,?_,hx,hx3,hx4,hx5,?_⟩
        ·rw [Array.getD_eq_getD_getElem?,hP]; rfl
        ·intro w; rw [w] at h6; simp at h6
       ·first | exact nS h5 | exact nB h5 | cases h5
      ·first | exact nS h4 | exact nB h4 | cases h4
     ·first | exact nS h3 | exact nB h3 | cases h3
    ·first | exact nS h2 | exact nB h2 | cases h2
   ·first | exact nS h1 | exact nB h1 | cases h1
  ·first | exact nS h | exact nB h | cases h
 ·first | exact nS h | exact nB h | cases h
theorem wU (g:GA):LamOk (Gk g) 125 qN sa where
 hC:=fun h X=>wy (K:=KK g.w.params) (T:=123) (by kernel_rfl) h X
 out:=fun F ps h=>h
 in_:=fun F c' o vs t h1 h2 h3 h4=>.inr ⟨c',o,vs,t,rfl,h1,h2,h3,h4⟩
noncomputable def tA (l:List (Str×NameKind)) (x:Str):Bool:=match l.lookup x with | some .local=>true | _=>false
set_option tactic.hygienic true in
theorem j4 {l:List (Str×NameKind)} {x:Str} (h:tA l x=true):l.lookup x=some .local:=by
 unfold tA at h
 split at h
 ·rename_i e; exact e
 ·first | exact nS h | exact nB h | cases h
noncomputable def wt (K:Frag) (d:FuncData) (x0 xn xr xs:Str):Bool:=
 d.closure.isEmpty && Nat.beq d.globals mainGlobals && Nat.beq d.builtins builtinsNs && !d.scope.isCoroutine && d.scope.isGenerator && decide (d.scope.kind=.function) && jY K d && tA d.scope.names x0 && tA d.scope.names xn && tA d.scope.names xr && tA d.scope.names xs && hJ [x0,xs,xr]
noncomputable def r4 (P:Params) (f:Nat) (x0 xn xr xs:Str):Bool:=match cG P f with
 | some d=>wt (KK P) d x0 xn xr xs
 | none=>false
set_option tactic.hygienic true in
theorem GenFn.of {g:GA} {f:Nat} {fd:FuncData} {x0 xn xr xs:Str} {p1 p2 p3 p4 p5 p6 p7 p8 p9 p10:Pos} (e:cG g.w.params f=some fd) (h:r4 g.w.params f x0 xn xr xs=true) (hbody:fd.body=.stmts (m6 xn xr xs p1 p2 p3 p4 p5 p6 p7 p8 p9 p10))
  (dn:dc xn) (dr:dc xr) (ds:dc xs) (hb:∀ sv av,peek (KK g.w.params) ⟨mt,g.w.params⟩ (bindArgs fd ⟨[sv,av],[]⟩)=some [(x0,sv),(xs,av),(xr,.type "reversed")]):GenFn (Gk g) f fd x0 xn xr xs p1 p2 p3 p4 p5 p6 p7 p8 p9 p10:=by
 unfold r4 at h
 rw [e] at h
 dsimp only at h
 unfold wt at h
 simp only [Bool.and_eq_true] at h
 apply bc;intro z_
 obtain ⟨⟨⟨⟨⟨⟨⟨⟨⟨⟨⟨h1,h2⟩,h3⟩,h4⟩,h5⟩,h6⟩,h9⟩,k0⟩,kn⟩,kr⟩,ks⟩,nd⟩:=h
 apply z_;clear z_
 refine ⟨?_,hbody,List.isEmpty_iff.mp h1,QP h2,QP h3,by simpa using h4,h5,Re h6,?_,j4 k0,j4 kn,j4 kr,j4 ks,dn,dr,ds,au nd,fun h sv av X=>Looks.of_peek (K:=KK g.w.params) X (hb sv av)⟩
 ·unfold cG at e
  show ∃ o,(KK g.w.params).lookup f=some o∧_
  cases q:(KK g.w.params).lookup f with
  | none=>rw [q] at e; first | exact nS e | exact nB e | cases e
  | some o=>
   rw [q] at e
   dsimp only at e
   refine ⟨o,rfl,?_⟩
   split at e
   ·rename_i d hd; cases e; exact hd
   ·first | exact nS e | exact nB e | cases e
 ·unfold jY at h9
  split at h9
  ·rename_i c hc
   split at h9
   ·rename_i oc hoc
    split at h9
    ·rename_i vs hvs
     split at h9
     ·rename_i q t hq
      exact ⟨c,oc,vs,t,hc,hoc,hvs,by rw [hq,beq_iff_eq.mp h9]⟩
     ·first | exact nS h9 | exact nB h9 | cases h9
    ·first | exact nS h9 | exact nB h9 | cases h9
   ·first | exact nS h9 | exact nB h9 | cases h9
  ·first | exact nS h9 | exact nB h9 | cases h9
theorem tM {l:List (Str×NameKind)} (h:(l.all fun p=>!decide (p.2=.cell))=true):∀ p∈l,p.2≠.cell:=fun p hp=>by
 have:=List.all_eq_true.mp h p hp
 simpa using this
noncomputable def KG (s:PySem.Stmt):List PySem.Stmt×List PySem.Stmt:=match s with
 | .If _ b o _=>(b,o)
 | .While _ b _ _=>(b,[])
 | .For _ _ b _ _=>(b,[])
 | .Try b _ _ _ _=>(b,[])
 | _=>([],[])
noncomputable def aN (b:List PySem.Stmt) (k:Nat):List PySem.Stmt:=(KG (ac b k)).1
noncomputable def cD (s:PySem.Stmt):List PySem.Stmt:=(KG s).1
noncomputable def iK (s:PySem.Stmt):List PySem.Stmt:=(KG s).2
noncomputable def zB (s:PySem.Stmt):List PySem.Stmt:=(KG s).1
noncomputable def mD (s:PySem.Stmt):List PySem.Stmt:=(KG s).1
noncomputable def cw (s:PySem.Stmt):List PySem.Stmt:=(KG s).1
noncomputable def o8 (l e:List PySem.Stmt):Nat→Nat→List PySem.Stmt
 | _,0=>e
 | i,n+1=>ac l i::o8 l e (i+1) n
theorem aL {G:Glob} {lv:Nat} {sc:Sc} {l:List PySem.Stmt} {n:Nat} {d:DS} (e:l=o8 l [] 0 n) (h:i8 G lv sc (o8 l [] 0 n) d):i8 G lv sc l d:=e.symm ▸ h
theorem Lm {G:Glob} {lv:Nat} {sc:Sc} {l:List PySem.Stmt} {n:Nat} {d:DS} (e:l=o8 l (l.drop n) 0 n) (h:i8 G lv sc (o8 l (l.drop n) 0 n) d):i8 G lv sc l d:=e.symm ▸ h
structure Bare (g:GA):Prop where
 gn:g.gn=AllBare
noncomputable abbrev ax (lv:Nat) (sc:Sc) (b:PySem.Stmt):=(d:DS) ×' (∀ g:GA,(Gk g).Ok→Bare g→SS (Gk g) lv sc b d)
noncomputable abbrev On (lv:Nat) (sc:Sc) (b:PySem.Stmt):=(d:DS) ×' (∀ g:GA,(Gk g).Ok→SS (Gk g) lv sc b d)
noncomputable abbrev Lc (lv:Nat) (sc:Sc) (b:List PySem.Stmt):=(d:DS) ×' (∀ g:GA,(Gk g).Ok→Bare g→i8 (Gk g) lv sc b d)
theorem Pq {lv:Nat} {sc:Sc} {b:List PySem.Stmt} (q:Lc lv sc b) (g:GA) (ok:(Gk g).Ok) (ba:Bare g):i8 (Gk g) lv sc b q.1:=q.2 g ok ba
theorem ay {lv:Nat} {sc:Sc} {b:PySem.Stmt} {r:List PySem.Stmt} {ds:DS} (q:ax lv sc b) (g:GA) (ok:(Gk g).Ok) (ba:Bare g) (h:i8 (Gk g) lv sc r ds):i8 (Gk g) lv sc (b::r) (om q.1 ds):=cr (q.2 g ok ba) h
theorem Lj {lv:Nat} {sc:Sc} {b:PySem.Stmt} {r:List PySem.Stmt} {ds:DS} (q:On lv sc b) (g:GA) (ok:(Gk g).Ok) (h:i8 (Gk g) lv sc r ds):i8 (Gk g) lv sc (b::r) (fun σ Q=>q.1 σ fun fl σ1=>match fl with | .next=>ds σ1 Q | fl=>Q fl σ1):=cr (q.2 g ok) h
theorem wu {lv:Nat} {sc:Sc} {body:List PySem.Stmt} {db:DS} (g:GA) (ok:(Gk g).Ok) (h:∀ (g:GA) (ok:(Gk g).Ok),i8 (Gk g) lv sc body db):∀ gn hp,i8 ((Gk g).pv gn hp) lv sc body db:=
 fun gn hp=>h {g with gn:=gn,hp:=hp} (ok.pv gn hp)
theorem wx {lv:Nat} {sc:Sc} {t:PySem.Expr} {dt:DT} (g:GA) (ok:(Gk g).Ok) (h:∀ (g:GA) (ok:(Gk g).Ok),ST (Gk g) lv sc t dt):∀ gn hp,ST ((Gk g).pv gn hp) lv sc t dt:=
 fun gn hp=>h {g with gn:=gn,hp:=hp} (ok.pv gn hp)
noncomputable abbrev tS (x:String):Str:=Str.ofString x
noncomputable def F7:List (Str×NameKind):=[((tS "num"),.local),((tS "val"),.local),((tS "AP"),.local),((tS "mod"),.local),((tS "int"),.globalImplicit),((tS "abs"),.globalImplicit),((tS "divmod"),.globalImplicit)]
noncomputable def e9:Sc:=⟨F7,true,174,(tS "Int2AP.<locals>.")⟩
theorem gg:NamesOk e9:=by unfold NamesOk; kernel_rfl
noncomputable def qg:FuncData:=dE (cG P0 175) default
noncomputable def iq:List PySem.Stmt:=aX (some qg)
noncomputable abbrev o4:=ac iq
theorem GE (g:GA):FnOk (Gk g) 175 qg iq e9:=FnOk.of (by kernel_rfl) (by kernel_rfl)
noncomputable def HH:ax 0 e9 (o4 0):=⟨_,fun g ok ba=>(@aB _ _ _ 1 _ _ _ _ _ Cr rfl rfl)⟩
noncomputable def HI:ax 0 e9 (o4 1):=⟨_,fun g ok ba=>(@aB _ _ _ 2 _ _ _ _ _ Cr rfl rfl)⟩
theorem Qg (g:GA):Bltin (Gk g) (tS "abs") (.builtin "abs"):=⟨by kernel_rfl,by decide,PyProof.Rows.Boot.«abs»,by kernel_rfl⟩
theorem P8 (g:GA):Bltin (Gk g) (tS "int") (.type "int"):=⟨by kernel_rfl,by decide,PyProof.Rows.Boot.«int»,by kernel_rfl⟩
noncomputable def HJ:ax 0 e9 (o4 2):=⟨_,fun g ok ba=>(@aB _ _ _ 0 _ _ _ _ _ (@ar _ _ _ _ _ _ _ _ _ (@az _ _ _ _ 4 _ _ _ _ ok rfl (P8 g) Cg) (@aA _ _ _ _ _ _ _ (@ar _ _ _ _ _ _ _ _ _ (@az _ _ _ _ 5 _ _ _ _ ok rfl (Qg g) KL) (@aA _ _ _ _ _ _ _ (@aa _ _ _ 0 _ _ _ gg rfl rfl) ab rfl) rfl) ab rfl) rfl) rfl rfl)⟩
theorem Qh (g:GA):Bltin (Gk g) (tS "divmod") (.builtin "divmod"):=⟨by kernel_rfl,by decide,PyProof.Rows.Boot.«divmod»,by kernel_rfl⟩
noncomputable def HL:ax 0 e9 (ac (zB (o4 3)) 0):=⟨_,fun g ok ba=>(@bF _ _ _ _ _ _ _ _ (@ar _ _ _ _ _ _ _ _ _ (@az _ _ _ _ 6 _ _ _ _ ok rfl (Qh g) (ur ok)) (@aA _ _ _ _ _ _ _ (@aa _ _ _ 0 _ _ _ gg rfl rfl) (@aA _ _ _ _ _ _ _ aq ab rfl) rfl) rfl) (@cn _ _ _ _ _ (@cA _ _ _ _ _ _ _ (@aR _ _ _ _ _ _ _ (@aw _ _ _ 0 _ _ _ rfl (.inl rfl)) (@aR _ _ _ _ _ _ _ (@aw _ _ _ 3 _ _ _ rfl (.inl rfl)) dA (fun _=>rfl)) (fun _=>rfl)) (fun _=>rfl) (fun _=>rfl)) (fun _=>rfl)) (fun _=>rfl) (fun _ _=>rfl))⟩
noncomputable def HM:ax 0 e9 (ac (zB (o4 3)) 1):=⟨_,fun g ok ba=>(@aB _ _ _ 1 _ _ _ _ _ (@aD _ _ _ _ _ _ _ _ _ ok (@cW _ _ _ _ _ _ _ _ _ _ _ ok (@aa _ _ _ 2 _ _ _ gg rfl rfl) (@dL _ _ _ _ _ (@aa _ _ _ 3 _ _ _ gg rfl rfl)) (@dL _ _ _ _ _ (@aD _ _ _ _ _ _ _ _ _ ok (@aa _ _ _ 3 _ _ _ gg rfl rfl) aq))) (@aa _ _ _ 1 _ _ _ gg rfl rfl)) rfl rfl)⟩
noncomputable def HN:ax 0 e9 (o4 3):=⟨_,fun g ok ba=>(@jV _ _ _ _ _ _ _ _ 60 (@bZ _ _ _ _ _ (@aa _ _ _ 0 _ _ _ gg rfl rfl) (fun _ _=>rfl)) (@aL _ _ _ (zB (o4 3)) 2 _ (by kernel_rfl) (@ay _ _ _ _ _ HL g ok ba (@ay _ _ _ _ _ HM g ok ba ai))))⟩
noncomputable def HO:ax 0 e9 (o4 4):=⟨_,fun g ok ba=>(@aF _ _ _ _ _ _ (@aa _ _ _ 1 _ _ _ gg rfl rfl))⟩
noncomputable def xL:(D:List V→List V→DE) ×' (∀ g:GA,(Gk g).Ok→Bare g→FN (Gk g) 1 175 [] D):=⟨_,fun g ok ba=>aQ (lv:=0) (fd:=qg) (body:=iq) (sc:=e9) ok (GE g) (@aI _ _ _ _ 1 [(0,.pos 0)] [(tS "num")] ok rfl (aS rfl) (au (by kernel_rfl)) (bj rfl) (fun h vals kvals X h1 h2=>by obtain ⟨u0,rfl⟩:=ji h1; obtain rfl:=d5 h2; exact Looks.of_peek (K:=KK g.w.params) X (by kernel_rfl))) (@aL _ _ _ iq 5 _ (by kernel_rfl) (@ay _ _ _ _ _ HH g ok ba (@ay _ _ _ _ _ HI g ok ba (@ay _ _ _ _ _ HJ g ok ba (@ay _ _ _ _ _ HN g ok ba (@ay _ _ _ _ _ HO g ok ba ai))))))⟩
noncomputable def Ck:List V→List V→DE:=xL.1
theorem Ex (g:GA) (ok:(Gk g).Ok) (ba:Bare g):FN (Gk g) 1 175 [] Ck:=xL.2 g ok ba
theorem qF (g:GA) (ok:(Gk g).Ok) (ba:Bare g):FN (Gk g) 1 175 [] (cj Ck):=FN.apart ba.gn fun hp=>Ex {g with gn:=AllBare,hp:=hp} (ok.pv AllBare hp) ⟨rfl⟩
noncomputable def Gi:List (Str×NameKind):=[((tS "number"),.local),((tS "Int2AP"),.globalImplicit)]
noncomputable def rg:Sc:=⟨Gi,true,384,(tS "_law_word.<locals>.")⟩
theorem Gw:NamesOk rg:=by unfold NamesOk; kernel_rfl
noncomputable def qs:FuncData:=dE (cG P0 385) default
noncomputable def ko:List PySem.Stmt:=aX (some qs)
noncomputable abbrev Ql:=ac ko
theorem GP (g:GA):FnOk (Gk g) 385 qs ko rg:=FnOk.of (by kernel_rfl) (by kernel_rfl)
theorem Pu:(tS "ascii")=(⟨([97,115,99,105,105]:List Nat).toArray⟩:Str):=by kernel_rfl
theorem Ek:dc (tS "Int2AP"):=by kernel_rfl
theorem OO (P:Params):nsIn (KK P) mainGlobals (tS "Int2AP")=some (some (.ref 175)):=by kernel_rfl
noncomputable def xW:(D:List V→List V→DE) ×' (∀ g:GA,(Gk g).Ok→Bare g→FN (Gk g) 2 385 [] D):=⟨_,fun g ok ba=>aQ (lv:=1) (fd:=qs) (body:=ko) (sc:=rg) ok (GP g) (@aI _ _ _ _ 1 [(0,.pos 0)] [(tS "number")] ok rfl (aS rfl) (au (by kernel_rfl)) (bj rfl) (fun h vals kvals X h1 h2=>by obtain ⟨u0,rfl⟩:=ji h1; obtain rfl:=d5 h2; exact Looks.of_peek (K:=KK g.w.params) X (by kernel_rfl))) (@cr _ _ _ _ _ _ _ (@aF _ _ _ _ _ _ (@dz _ _ _ _ _ (@al _ _ _ _ _ _ _ _ _ _ (@jb _ _ _ _ _ (@ar _ _ _ _ _ _ _ _ _ (@aT _ _ _ _ 1 _ _ _ _ ok Ek rfl (OO _) (@CB.up _ _ _ _ _ _ (@FN.cb _ _ _ _ _ ok (qF g ok ba)) rfl)) (@aA _ _ _ _ _ _ _ (@aD _ _ _ _ _ _ _ _ _ ok (@d3 _ _ _ _ _ _ aq) (@aa _ _ _ 0 _ _ _ Gw rfl rfl)) ab rfl) rfl)) (@aA _ _ _ _ _ _ _ (@aK _ _ _ _ _ _ _ Pu) ab rfl) (fun _=>rfl) rfl rfl rfl))) ai)⟩
noncomputable def rz:List V→List V→DE:=xW.1
theorem EG (g:GA) (ok:(Gk g).Ok) (ba:Bare g):FN (Gk g) 2 385 [] rz:=xW.2 g ok ba
theorem EW (g:GA) (ok:(Gk g).Ok) (ba:Bare g):FN (Gk g) 2 385 [] (cj rz):=FN.apart ba.gn fun hp=>EG {g with gn:=AllBare,hp:=hp} (ok.pv AllBare hp) ⟨rfl⟩
noncomputable def Bh (vs:List V):Option V:=match vs with
 | []=>none
 | v::r=>(match r with
  | []=>some v
  | _::_=>none)
theorem kU {vs:List V} {v:V} (h:Bh vs=some v):vs=[v]:=by
 cases vs with
 | nil=>exact nS h
 | cons u r=>cases r with
  | nil=>cases h; rfl
  | cons=>exact nS h
noncomputable def NC (v:V):Option (List Nat):=match v with
 | .str s=>some s
 | _=>none
theorem zp {v:V} {s:List Nat} (h:NC v=some s):v=.str s:=by cases v <;> first | exact nS h | (cases h; rfl)
noncomputable def LB (v:V):Option Bool:=match v with
 | .boo s=>some s
 | _=>none
theorem vC {v:V} {s:Bool} (h:LB v=some s):v=.boo s:=by cases v <;> first | exact nS h | (cases h; rfl)
noncomputable def Mo (v:V):Option Int:=match v with
 | .int s=>some s
 | _=>none
theorem wJ {v:V} {s:Int} (h:Mo v=some s):v=.int s:=by cases v <;> first | exact nS h | (cases h; rfl)
noncomputable def Ft (v:V):Bool:=match v with
 | .junk=>true
 | _=>false
theorem wQ {v:V} (h:Ft v=true):v=.junk:=by cases v <;> first | exact nB h | rfl
noncomputable def zD (vs kvs:List V):Option V:=match kvs with
 | []=>(Bh vs).bind fun v=>(Mo v).bind fun i=>match i with
  | .ofNat n=>(gh nO n).map .str
  | _=>none
 | _=>none
noncomputable def N8 (P:V→Prop) (p:List Nat×Nat):Prop:=rz [.int (.ofNat p.2)] [] ⟨[],[],0⟩ (fun v _=>P v)
theorem zE (P:V→Prop):aG (N8 P) nO.zipIdx=aP (fun p=>P (.str p.1)) nO.zipIdx:=by kernel_rfl
theorem Cd (vs kvs:List V) (w:V) (h:zD vs kvs=some w):aM vs=true∧aM kvs=true∧bG w=true∧∀ P:V→Prop,rz vs kvs ⟨[],[],0⟩ (fun v _=>P v)=P w:=by
 apply bc;intro z_
 cases kvs with
 | cons=>exact nS h
 | nil=>
  obtain ⟨v,h1,h⟩:=Option.bind_eq_some_iff.mp h
  obtain ⟨i,h2,h⟩:=Option.bind_eq_some_iff.mp h
  cases i with
  | negSucc=>exact nS h
  | ofNat n=>
   obtain ⟨x,hx,h⟩:=Option.map_eq_some_iff.mp h
   cases h
   cases kU h1
   cases wJ h2
   rw [dR] at hx
   apply z_;clear z_
   exact ⟨rfl,rfl,rfl,fun P=>aV (zE P) (x,n) (List.mem_zipIdx_iff_getElem?.mpr hx)⟩
theorem gZ (g:GA) (ok:(Gk g).Ok) (ba:Bare g):FN (Gk g) 2 385 [] (B7 zD):=(EW g ok ba).tab Cd
noncomputable def F8:List (Str×NameKind):=[((tS "self"),.local),((tS "ws"),.local),((tS "S"),.local),((tS "T"),.local),((tS "count"),.local),((tS "b"),.local),((tS "n"),.local),((tS "nt"),.local),((tS "ch"),.local),((tS "Whitespace"),.globalImplicit),((tS "len"),.globalImplicit),((tS "tuple"),.globalImplicit)]
noncomputable def bN:Sc:=⟨F8,true,191,(tS "Whitespace.__init__.<locals>.")⟩
theorem bf:NamesOk bN:=by unfold NamesOk; kernel_rfl
noncomputable def qh:FuncData:=dE (cG P0 192) default
noncomputable def aW:List PySem.Stmt:=aX (some qh)
noncomputable abbrev ng:=ac aW
theorem GF (g:GA):FnOk (Gk g) 192 qh aW bN:=FnOk.of (by kernel_rfl) (by kernel_rfl)
noncomputable def HP:ax 0 bN (ac (cD (ac (aN aW 4) 0)) 0):=⟨_,fun g ok ba=>(@aB _ _ _ 6 _ _ _ _ _ (@aD _ _ _ _ _ _ _ _ _ ok (@aa _ _ _ 6 _ _ _ bf rfl rfl) aq) rfl rfl)⟩
noncomputable def HQ:ax 0 bN (ac (cD (ac (aN aW 4) 0)) 1):=⟨_,fun g ok ba=>(@aB _ _ _ 5 _ _ _ _ _ (@aD _ _ _ _ _ _ _ _ _ ok (@aa _ _ _ 5 _ _ _ bf rfl rfl) aq) rfl rfl)⟩
noncomputable def HR:ax 0 bN (ac (cD (ac (iK (ac (aN aW 4) 0)) 0)) 0):=⟨_,fun g ok ba=>(@aB _ _ _ 6 _ _ _ _ _ (@aD _ _ _ _ _ _ _ _ _ ok (@aa _ _ _ 6 _ _ _ bf rfl rfl) aq) rfl rfl)⟩
noncomputable def HS:ax 0 bN (ac (cD (ac (iK (ac (aN aW 4) 0)) 0)) 1):=⟨_,fun g ok ba=>(@aB _ _ _ 7 _ _ _ _ _ (@aD _ _ _ _ _ _ _ _ _ ok (@aa _ _ _ 7 _ _ _ bf rfl rfl) aq) rfl rfl)⟩
theorem s7 (g:GA):Bltin (Gk g) (tS "len") (.builtin "len"):=⟨by kernel_rfl,by decide,PyProof.Rows.Boot.«len»,by kernel_rfl⟩
noncomputable def HT:ax 0 bN (ac (cD (ac (cD (ac (iK (ac (aN aW 4) 0)) 0)) 2)) 0):=⟨_,fun g ok ba=>(@aB _ _ _ 4 _ _ _ _ _ (@Ds _ _ _ _ _ _ _ _ ok (@aa _ _ _ 4 _ _ _ bf rfl rfl) (@aD _ _ _ _ _ _ _ _ _ ok (@b8 _ _ _ _ _ _ ok (@aA _ _ _ _ _ _ _ aq ab rfl)) (@aD _ _ _ _ _ _ _ _ _ ok (@aD _ _ _ _ _ _ _ _ _ ok (@aa _ _ _ 5 _ _ _ bf rfl rfl) (@ar _ _ _ _ _ _ _ _ _ (@az _ _ _ _ 10 _ _ _ _ ok rfl (s7 g) fJ) (@aA _ _ _ _ _ _ _ (@aa _ _ _ 4 _ _ _ bf rfl rfl) ab rfl) rfl)) aq))) rfl rfl)⟩
noncomputable def HU:ax 0 bN (ac (cD (ac (iK (ac (aN aW 4) 0)) 0)) 2):=⟨_,fun g ok ba=>(@bL _ _ _ _ _ _ _ _ _ _ (@aY _ _ _ _ _ _ _ _ _ (@aa _ _ _ 5 _ _ _ bf rfl rfl) (@ar _ _ _ _ _ _ _ _ _ (@az _ _ _ _ 10 _ _ _ _ ok rfl (s7 g) fJ) (@aA _ _ _ _ _ _ _ (@aa _ _ _ 4 _ _ _ bf rfl rfl) ab rfl) rfl) rfl) (@aL _ _ _ (cD (ac (cD (ac (iK (ac (aN aW 4) 0)) 0)) 2)) 1 _ (by kernel_rfl) (@ay _ _ _ _ _ HT g ok ba ai)) ai)⟩
noncomputable def HV:ax 0 bN (ac (cD (ac (iK (ac (aN aW 4) 0)) 0)) 3):=⟨_,fun g ok ba=>(@bF _ _ _ _ _ _ _ _ (@aD _ _ _ _ _ _ _ _ _ ok (@a9 _ _ _ _ _ _ _ _ ok (@aa _ _ _ 4 _ _ _ bf rfl rfl) (@aa _ _ _ 5 _ _ _ bf rfl rfl)) aq) (@cn _ _ _ _ _ (@Cs _ _ _ _ _ _ _ _ ok (@aa _ _ _ 4 _ _ _ bf rfl rfl) (@aa _ _ _ 5 _ _ _ bf rfl rfl)) (fun _=>rfl)) (fun _=>rfl) (fun _ _=>rfl))⟩
noncomputable def HW:ax 0 bN (ac (cD (ac (iK (ac (aN aW 4) 0)) 0)) 4):=⟨_,fun g ok ba=>(@aB _ _ _ 5 _ _ _ _ _ aq rfl rfl)⟩
noncomputable def HX:ax 0 bN (ac (iK (ac (aN aW 4) 0)) 0):=⟨_,fun g ok ba=>(@bL _ _ _ _ _ _ _ _ _ _ (@aY _ _ _ _ _ _ _ _ _ (@aa _ _ _ 8 _ _ _ bf rfl rfl) (@aa _ _ _ 3 _ _ _ bf rfl rfl) rfl) (@aL _ _ _ (cD (ac (iK (ac (aN aW 4) 0)) 0)) 5 _ (by kernel_rfl) (@ay _ _ _ _ _ HR g ok ba (@ay _ _ _ _ _ HS g ok ba (@ay _ _ _ _ _ HU g ok ba (@ay _ _ _ _ _ HV g ok ba (@ay _ _ _ _ _ HW g ok ba ai)))))) (@cr _ _ _ _ _ _ _ Ag ai))⟩
noncomputable def HY:ax 0 bN (ac (aN aW 4) 0):=⟨_,fun g ok ba=>(@bL _ _ _ _ _ _ _ _ _ _ (@aY _ _ _ _ _ _ _ _ _ (@aa _ _ _ 8 _ _ _ bf rfl rfl) (@aa _ _ _ 2 _ _ _ bf rfl rfl) rfl) (@aL _ _ _ (cD (ac (aN aW 4) 0)) 2 _ (by kernel_rfl) (@ay _ _ _ _ _ HP g ok ba (@ay _ _ _ _ _ HQ g ok ba ai))) (@aL _ _ _ (iK (ac (aN aW 4) 0)) 1 _ (by kernel_rfl) (@ay _ _ _ _ _ HX g ok ba ai)))⟩
noncomputable def pe:Lc 0 bN (aN aW 4):=⟨_,fun g ok ba=>(@aL _ _ _ (aN aW 4) 1 _ (by kernel_rfl) (@ay _ _ _ _ _ HY g ok ba ai))⟩
noncomputable def cU:DS:=pe.1
theorem Cu (g:GA):(Gk g).an[0]?=some (tS "raw"):=by kernel_rfl
theorem bV (g:GA):ClsOk (Gk g).K 237:=⟨by kernel_rfl,by kernel_rfl,by kernel_rfl,by kernel_rfl,by kernel_rfl⟩
theorem NH (P:Params):takerIn (KK P) 237 (tS "raw")=some none:=by kernel_rfl
noncomputable def BB:ax 0 bN (ng 0):=⟨_,fun g ok ba=>(@bD _ _ _ _ _ _ _ _ _ _ _ 0 (@aa _ _ _ 1 _ _ _ bf rfl rfl) ok (bV g) (Cu g) (NH _) (@aa _ _ _ 0 _ _ _ bf rfl rfl) rfl)⟩
theorem vP:dc (tS "Whitespace"):=by kernel_rfl
theorem Fd (P:Params):nsIn (KK P) mainGlobals (tS "Whitespace")=some (some (.ref 237)):=by kernel_rfl
noncomputable def BC:ax 0 bN (ng 1):=⟨_,fun g ok ba=>(@fU _ _ _ _ _ _ _ [3,2] [(tS "T"),(tS "S")] _ _ (@bA _ _ _ _ _ _ _ ok (@aA _ _ _ _ _ _ _ (@rE _ _ _ _ _ _ _ _ 9 (.type "type") [32] 566 ok vP rfl (Fd _) (by kernel_rfl) (by kernel_rfl)) (@aA _ _ _ _ _ _ _ (@rE _ _ _ _ _ _ _ _ 9 (.type "type") [9] 567 ok vP rfl (Fd _) (by kernel_rfl) (by kernel_rfl)) ab rfl) rfl) (by decide)) (fun _=>rfl) (fun env he=>(dJ he).trans (by kernel_rfl)) rfl (dq rfl))⟩
noncomputable def BD:ax 0 bN (ng 2):=⟨_,fun g ok ba=>(@aB _ _ _ 4 _ _ _ _ _ (@b8 _ _ _ _ _ _ ok ab) rfl rfl)⟩
noncomputable def BE:ax 0 bN (ng 3):=⟨_,fun g ok ba=>(@bF _ _ _ _ _ _ _ _ aq (@mJ _ _ _ _ _ _ _ _ (@aw _ _ _ 5 _ _ _ rfl (.inl rfl)) (@mJ _ _ _ _ _ _ _ _ (@aw _ _ _ 6 _ _ _ rfl (.inl rfl)) (@cn _ _ _ _ _ (@aw _ _ _ 7 _ _ _ rfl (.inl rfl)) (fun _=>rfl)) (fun _=>rfl) (fun _=>⟨_,_,rfl⟩)) (fun _=>rfl) (fun _=>⟨_,_,rfl⟩)) (fun _=>rfl) (fun _ _=>rfl))⟩
theorem LU (P:Params):findIn (KK P) (.ref 237) (tS "raw")=some none:=by kernel_rfl
noncomputable def BF:ax 0 bN (ng 4):=⟨_,fun g ok ba=>(@em _ _ _ false _ _ _ _ _ _ _ 60 (@cP _ _ _ _ _ _ ok (@dW _ _ _ _ _ _ _ _ 0 ok (bV g) (Cu g) (LU _) (@aa _ _ _ 0 _ _ _ bf rfl rfl) (fun _=>rfl))) (fun h=>nomatch h) (@aw _ _ _ 8 _ _ _ rfl (.inl rfl)) (@Pq _ _ _ pe g ok ba) (fun _ _=>rfl))⟩
theorem u9 (g:GA):(Gk g).an[1]?=some (tS "n"):=by kernel_rfl
theorem NI (P:Params):takerIn (KK P) 237 (tS "n")=some none:=by kernel_rfl
noncomputable def su:ax 0 bN (ng 5):=⟨_,fun g ok ba=>(@bD _ _ _ _ _ _ _ _ _ _ _ 1 (@aa _ _ _ 6 _ _ _ bf rfl rfl) ok (bV g) (u9 g) (NI _) (@aa _ _ _ 0 _ _ _ bf rfl rfl) rfl)⟩
theorem rH (g:GA):(Gk g).an[2]?=some (tS "nt"):=by kernel_rfl
theorem NJ (P:Params):takerIn (KK P) 237 (tS "nt")=some none:=by kernel_rfl
noncomputable def sx:ax 0 bN (ng 6):=⟨_,fun g ok ba=>(@bD _ _ _ _ _ _ _ _ _ _ _ 2 (@aa _ _ _ 7 _ _ _ bf rfl rfl) ok (bV g) (rH g) (NJ _) (@aa _ _ _ 0 _ _ _ bf rfl rfl) rfl)⟩
theorem Ot (g:GA):Bltin (Gk g) (tS "tuple") (.type "tuple"):=⟨by kernel_rfl,by decide,PyProof.Rows.Boot.«tuple»,by kernel_rfl⟩
theorem vf (g:GA):(Gk g).an[3]?=some (tS "norm"):=by kernel_rfl
theorem NK (P:Params):takerIn (KK P) 237 (tS "norm")=some none:=by kernel_rfl
noncomputable def sy:ax 0 bN (ng 7):=⟨_,fun g ok ba=>(@bD _ _ _ _ _ _ _ _ _ _ _ 3 (@bA _ _ _ _ _ _ _ ok (@aA _ _ _ _ _ _ _ (@ar _ _ _ _ _ _ _ _ _ (@az _ _ _ _ 11 _ _ _ _ ok rfl (Ot g) (zU ok)) (@aA _ _ _ _ _ _ _ (@aa _ _ _ 4 _ _ _ bf rfl rfl) ab rfl) rfl) (@aA _ _ _ _ _ _ _ (@aa _ _ _ 5 _ _ _ bf rfl rfl) ab rfl) rfl) (by decide)) ok (bV g) (vf g) (NK _) (@aa _ _ _ 0 _ _ _ bf rfl rfl) rfl)⟩
theorem vg (g:GA):(Gk g).an[4]?=some (tS "is_simple"):=by kernel_rfl
theorem NL (P:Params):takerIn (KK P) 237 (tS "is_simple")=some none:=by kernel_rfl
noncomputable def sz:ax 0 bN (ng 8):=⟨_,fun g ok ba=>(@bD _ _ _ _ _ _ _ _ _ _ _ 4 (@n8 _ _ _ _ _ _ _ _ _ (@ar _ _ _ _ _ _ _ _ _ (@az _ _ _ _ 10 _ _ _ _ ok rfl (s7 g) fJ) (@aA _ _ _ _ _ _ _ (@aa _ _ _ 4 _ _ _ bf rfl rfl) ab rfl) rfl) aq rfl) ok (bV g) (vg g) (NL _) (@aa _ _ _ 0 _ _ _ bf rfl rfl) rfl)⟩
noncomputable def xM:(D:List V→List V→DE) ×' (∀ g:GA,(Gk g).Ok→Bare g→FN (Gk g) 1 192 [] D):=⟨_,fun g ok ba=>aQ (lv:=0) (fd:=qh) (body:=aW) (sc:=bN) ok (GF g) (@aI _ _ _ _ 2 [(0,.pos 0),(1,.pos 1)] [(tS "self"),(tS "ws")] ok rfl (aS rfl) (au (by kernel_rfl)) (bj rfl) (fun h vals kvals X h1 h2=>by obtain ⟨u0,u1,rfl⟩:=jQ h1; obtain rfl:=d5 h2; exact Looks.of_peek (K:=KK g.w.params) X (by kernel_rfl))) (@aL _ _ _ aW 9 _ (by kernel_rfl) (@ay _ _ _ _ _ BB g ok ba (@ay _ _ _ _ _ BC g ok ba (@ay _ _ _ _ _ BD g ok ba (@ay _ _ _ _ _ BE g ok ba (@ay _ _ _ _ _ BF g ok ba (@ay _ _ _ _ _ su g ok ba (@ay _ _ _ _ _ sx g ok ba (@ay _ _ _ _ _ sy g ok ba (@ay _ _ _ _ _ sz g ok ba ai))))))))))⟩
noncomputable def Cl:List V→List V→DE:=xM.1
theorem Ey (g:GA) (ok:(Gk g).Ok) (ba:Bare g):FN (Gk g) 1 192 [] Cl:=xM.2 g ok ba
noncomputable def vI (n:Nat):V:=.int (.ofNat n)
noncomputable def bR:Nat→List Nat→List Nat
 | 0,[]=>[1]
 | 0,c::r=>(c+1)::r
 | b+1,[]=>0::bR b []
 | b+1,c::r=>c::bR b r
structure Nrm where
 cs:List Nat
 b:Nat
 n:Nat
 nt:Nat
noncomputable def eu:List Nat→Nrm→Nrm
 | [],w=>w
 | c::r,w=>(match Nat.beq c 32 with
  | true=>eu r ⟨w.cs,w.b+1,w.n+1,w.nt⟩
  | false=>eu r ⟨bR w.b w.cs,0,w.n+1,w.nt+1⟩)
noncomputable def aE (r:List Nat) (w:Nrm):V:=.fob 237 [.str r,vI w.n,vI w.nt,.tup [.tup (aG vI w.cs),vI w.b],.boo (Nat.ble w.cs.length 1)]
noncomputable def zK (s:List Nat):Nrm:=eu s ⟨[],0,0,0⟩
theorem fi:∀ (b:Nat) (c:List Nat),(bR b c).length=if c.length≤b then b+1 else c.length
 | 0,[]=>rfl
 | 0,c::r=>by simp [bR]
 | b+1,[]=>by have:=fi b []; simp [bR] at this ⊢; exact this
 | b+1,c::r=>by
  have:=fi b r
  simp only [bR,List.length_cons,this]
  by_cases h:r.length≤b
  ·rw [QI h,QI (by omega)]
  ·rw [QH h,QH (by omega)]
theorem gf {α β:Type} (f:α→β) (l:List α):(aG f l).length=l.length:=by
 induction l with
 | nil=>rfl
 | cons a r ih=>exact congrArg Nat.succ ih
noncomputable def wS (s:List Nat) (l:Nat) (w:Nrm) (tail:List (Nat×V)) (tl:List (Nat×AO)):St:=
 ⟨(0,.obj 237 0)::(1,.str s)::(3,.str [9])::(2,.str [32])::(4,.loc l)::(5,vI w.b)::(6,vI w.n)::(7,vI w.nt)::tail,(l,.list (aG vI w.cs))::tl,l+1⟩
theorem zF (s:List Nat) (l:Nat) (cs:List Nat) (b n nt:Nat) (tl:List (Nat×AO)) (Q:Fl→St→Prop) :
  cU (wS s l ⟨cs,b,n,nt⟩ [(8,.str [32])] tl) Q=Q .next (wS s l ⟨cs,b+1,n+1,nt⟩ [(8,.str [32])] tl):=by kernel_rfl
noncomputable abbrev P7:=List Nat→Nat→Nat→List (Nat×AO)→(Fl→St→Prop)→Prop
noncomputable def uf (c:List Nat) (p:Nat×Nat):P7:=fun s n nt tl Q=>cU (wS s (1+2*p.2) ⟨c,p.1,n,nt⟩ [(8,.str [9])] tl) Q
noncomputable def ro (c:List Nat) (p:Nat×Nat):P7:=fun s n nt tl Q=>match Nat.ble c.length p.1 with
 | true=>Q .next (wS s (1+2*(p.2+1)) ⟨bR p.1 c,0,n+1,nt+1⟩ [(8,.str [9])] ((1+2*p.2+1,.list [vI 0])::(1+2*p.2,.list (aG vI c))::tl))
 | false=>Q .next (wS s (1+2*p.2) ⟨bR p.1 c,0,n+1,nt+1⟩ [(8,.str [9])] tl)
noncomputable def OQ:Nat→List Nat
 | 0=>[0]
 | _+1=>[1,2,3,4]
noncomputable def jT (k:Nat):List (Nat×Nat):=(List.range (12 - k)).flatMap fun b=>(OQ k).map fun g=>(b,g)
theorem Mn:∀ g<5,1≤g→g∈[1,2,3,4]:=by decide +kernel
theorem A8 {k b g:Nat} (h1:b+k≤11) (h2:g≤4) (h3:k=0→g=0) (h4:1≤k→1≤g):(b,g)∈jT k:=by
 refine List.mem_flatMap.mpr ⟨b,List.mem_range.mpr (by omega),List.mem_map.mpr ⟨g,?_,rfl⟩⟩
 cases k with
 | zero=>rw [h3 rfl]; exact List.mem_singleton.mpr rfl
 | succ k=>
  have:=h4 (Nat.succ_pos k)
  exact Mn g (Nat.lt_succ_of_le h2) this
theorem PC:aG (uf []) (jT 0)=aP (ro []) (jT 0):=by kernel_rfl
theorem PD (c0:Nat):aG (uf [c0]) (jT 1)=aP (ro [c0]) (jT 1):=by kernel_rfl
theorem PE (c0 c1:Nat):aG (uf [c0,c1]) (jT 2)=aP (ro [c0,c1]) (jT 2):=by kernel_rfl
theorem PF (c0 c1 c2:Nat):aG (uf [c0,c1,c2]) (jT 3)=aP (ro [c0,c1,c2]) (jT 3):=by kernel_rfl
theorem PG (c0 c1 c2 c3:Nat):aG (uf [c0,c1,c2,c3]) (jT 4)=aP (ro [c0,c1,c2,c3]) (jT 4):=by kernel_rfl
theorem PH (c0 c1 c2 c3 c4:Nat):aG (uf [c0,c1,c2,c3,c4]) (jT 5)=aP (ro [c0,c1,c2,c3,c4]) (jT 5):=by kernel_rfl
theorem PI (c0 c1 c2 c3 c4 c5:Nat):aG (uf [c0,c1,c2,c3,c4,c5]) (jT 6)=aP (ro [c0,c1,c2,c3,c4,c5]) (jT 6):=by kernel_rfl
theorem PJ (c0 c1 c2 c3 c4 c5 c6:Nat):aG (uf [c0,c1,c2,c3,c4,c5,c6]) (jT 7)=aP (ro [c0,c1,c2,c3,c4,c5,c6]) (jT 7):=by kernel_rfl
theorem PK (c0 c1 c2 c3 c4 c5 c6 c7:Nat):aG (uf [c0,c1,c2,c3,c4,c5,c6,c7]) (jT 8)=aP (ro [c0,c1,c2,c3,c4,c5,c6,c7]) (jT 8):=by kernel_rfl
theorem PL (c0 c1 c2 c3 c4 c5 c6 c7 c8:Nat):aG (uf [c0,c1,c2,c3,c4,c5,c6,c7,c8]) (jT 9)=aP (ro [c0,c1,c2,c3,c4,c5,c6,c7,c8]) (jT 9):=by kernel_rfl
theorem NF (c0 c1 c2 c3 c4 c5 c6 c7 c8 c9:Nat):aG (uf [c0,c1,c2,c3,c4,c5,c6,c7,c8,c9]) (jT 10)=aP (ro [c0,c1,c2,c3,c4,c5,c6,c7,c8,c9]) (jT 10):=by kernel_rfl
theorem NG (c0 c1 c2 c3 c4 c5 c6 c7 c8 c9 c10:Nat):aG (uf [c0,c1,c2,c3,c4,c5,c6,c7,c8,c9,c10]) (jT 11)=aP (ro [c0,c1,c2,c3,c4,c5,c6,c7,c8,c9,c10]) (jT 11):=by kernel_rfl
theorem Kf {c:List Nat} {b g:Nat} (h1:b+c.length≤11) (h2:g≤4) (h3:c.length=0→g=0) (h4:1≤c.length→1≤g):uf c (b,g)=ro c (b,g):=by
 have m:=A8 h1 h2 h3 h4
 have hc:c.length≤11:=by omega
 clear h1 h2 h3 h4
 match c,m,hc with
 | [],m,_=>exact aV (PC) _ m
 | [c0],m,_=>exact aV (PD c0) _ m
 | [c0,c1],m,_=>exact aV (PE c0 c1) _ m
 | [c0,c1,c2],m,_=>exact aV (PF c0 c1 c2) _ m
 | [c0,c1,c2,c3],m,_=>exact aV (PG c0 c1 c2 c3) _ m
 | [c0,c1,c2,c3,c4],m,_=>exact aV (PH c0 c1 c2 c3 c4) _ m
 | [c0,c1,c2,c3,c4,c5],m,_=>exact aV (PI c0 c1 c2 c3 c4 c5) _ m
 | [c0,c1,c2,c3,c4,c5,c6],m,_=>exact aV (PJ c0 c1 c2 c3 c4 c5 c6) _ m
 | [c0,c1,c2,c3,c4,c5,c6,c7],m,_=>exact aV (PK c0 c1 c2 c3 c4 c5 c6 c7) _ m
 | [c0,c1,c2,c3,c4,c5,c6,c7,c8],m,_=>exact aV (PL c0 c1 c2 c3 c4 c5 c6 c7 c8) _ m
 | [c0,c1,c2,c3,c4,c5,c6,c7,c8,c9],m,_=>exact aV (NF c0 c1 c2 c3 c4 c5 c6 c7 c8 c9) _ m
 | [c0,c1,c2,c3,c4,c5,c6,c7,c8,c9,c10],m,_=>exact aV (NG c0 c1 c2 c3 c4 c5 c6 c7 c8 c9 c10) _ m
 | _::_::_::_::_::_::_::_::_::_::_::_::_,_,h=>simp at h
noncomputable def nX (s:List Nat):List (List V)→List (Nat×AO)
 | []=>[(0,.ns [(0,.str s)])]
 | o::r=>(1+2*r.length+1,.list [vI 0])::(1+2*r.length,.list o)::nX s r
noncomputable def gJ (i:Nat) (v:V) (σ:St) (K:St→Prop):Prop:=K (dm i v σ)
theorem kT {α:Type} {l r:List α} {i:Nat} {a:α} (h:l.drop i=a::r):gh l i=some a∧l.drop (i+1)=r:=by
 rw [dR]
 refine ⟨by have:=congrArg (·[0]?) h; simpa using this,?_⟩
 have:=congrArg (List.drop 1) h
 simpa [List.drop_drop,Nat.add_comm] using this
theorem no {α:Type} {l:List α} {i:Nat} (h:l.drop i=[]):gh l i=none:=by
 rw [dR]
 have:=congrArg (·[0]?) h
 simpa using this
structure WI (i g b c:Nat):Prop where
 h1:b+c≤i
 h2:g*(g+1)+2*b≤2*i
 h3:g≤c
 h4:1≤c→1≤g
theorem WI.four {i g b c:Nat} (w:WI i g b c) (h:i≤12):g≤4:=by
 apply Nat.le_of_not_lt
 intro hg
 have h3:5*6≤g*(g+1):=Nat.mul_le_mul hg (Nat.succ_le_succ hg)
 have h2:=w.h2
 clear w hg
 omega
theorem WI.blank {i g b c:Nat} (w:WI i g b c):WI (i+1) g (b+1) c:=⟨by rw [Nat.add_right_comm]; exact Nat.succ_le_succ w.h1,Nat.add_le_add_right w.h2 2,w.h3,w.h4⟩
theorem WI.tabT {i g b c:Nat} (w:WI i g b c) (q:c≤b):WI (i+1) (g+1) 0 (b+1):=by
 have h1:=w.h1
 have h2:=w.h2
 have h3:=QC w.h3 q
 refine ⟨?_,?_,Nat.succ_le_succ h3,fun _=>Nat.succ_pos _⟩
 ·rw [Nat.zero_add]; exact Nat.succ_le_succ (QC (Nat.le_add_right _ _) h1)
 ·rw [Nat.add_mul g 1 (g+1+1),Nat.mul_add g (g+1) 1]
  clear w q h1
  omega
theorem WI.tabF {i g b c:Nat} (w:WI i g b c):WI (i+1) g 0 c:=
 ⟨by rw [Nat.zero_add]; exact Nat.le_succ_of_le (QC (Nat.le_add_left _ _) w.h1),QC (QC (Nat.le_add_right _ _) w.h2) (Nat.mul_le_mul_left 2 (Q0 i)),w.h3,w.h4⟩
theorem j7 {K:Fl→St→Prop} {s:List Nat}:∀ (r:List Nat) (k i g:Nat) (w:Nrm) (tail:List (Nat×V)) (o:List (List V)),s.drop i=r→r.length<k→(∀ c∈r,c=32∨c=9)→i+r.length≤12 →
  WI i g w.b w.cs.length→o.length=g→(tail=[]∨∃ x,tail=[(8,x)]) →
  (∀ tail o,o.length≤4→(tail=[]∨∃ x,tail=[(8,x)])→K .next (wS s (1+2*o.length) (eu r w) tail (nX s o))) →
  bW (dD (.str s)) (gJ 8) cU k i (wS s (1+2*g) w tail (nX s o)) K
 | r,0,_,_,_,_,_,_,h,_,_,_,_,_,_=>absurd h (Nat.not_lt_zero _)
 | [],k+1,i,g,w,tail,o,hd,_,_,hi,hw,h5,h6,hK=>by
  have hn:gh s i=none:=no hd
  show (match (some (G4 (gh s i)):Option (Option V)) with
   | some (some v)=>gJ 8 v _ fun σ1=>cU σ1 _
   | some none=>K .next _
   | none=>False)
  rw [hn]
  have:=hK tail o (h5.symm ▸ hw.four hi) h6
  rw [h5] at this
  exact this
 | c::r,k+1,i,g,w,tail,o,hd,hk,hc,hi,hw,h5,h6,hK=>by
  obtain ⟨hn,hd'⟩:=kT hd
  show (match (some (G4 (gh s i)):Option (Option V)) with
   | some (some v)=>gJ 8 v (wS s (1+2*g) w tail (nX s o)) fun σ1=>cU σ1 (fun fl σ2=>match fl with
    | .next=>bW (dD (.str s)) (gJ 8) cU k (i+1) σ2 K
    | .cont=>bW (dD (.str s)) (gJ 8) cU k (i+1) σ2 K
    | .brk=>K .next σ2
    | .ret v=>K (.ret v) σ2)
   | some none=>K .next (wS s (1+2*g) w tail (nX s o))
   | none=>False)
  rw [hn]
  have hk':r.length<k:=Nat.lt_of_succ_lt_succ hk
  have hi':i+1+r.length≤12:=by rw [Nat.add_right_comm]; exact hi
  have et:dm 8 (.str [c]) (wS s (1+2*g) w tail (nX s o))=wS s (1+2*g) w [(8,.str [c])] (nX s o):=by
   rcases h6 with rfl | ⟨x,rfl⟩ <;> rfl
  show cU (dm 8 (.str [c]) (wS s (1+2*g) w tail (nX s o))) _
  rw [et]
  obtain ⟨cs,b,n,nt⟩:=w
  have hw:WI i g b cs.length:=hw
  have hc':∀ c∈r,c=32∨c=9:=fun c h=>hc c (QE _ h)
  rcases hc c (QL ..) with rfl | rfl
  ·rw [zF]
   exact j7 r k (i+1) g ⟨cs,b+1,n+1,nt⟩ _ o hd' hk' hc' hi' hw.blank h5 (.inr ⟨_,rfl⟩) hK
  ·have i11:i≤11:=Nat.le_of_succ_le_succ (QC (Nat.le_add_right (i+1) r.length) hi')
   have e:=Q9 (Q9 (Q9 (Q9 (Kf (c:=cs) (b:=b) (g:=g) (QC hw.h1 i11) (hw.four (Nat.le_succ_of_le i11)) (fun e=>Nat.le_zero.mp (e ▸ hw.h3)) hw.h4) s) n) nt) (nX s o)
   have e:∀ Q,cU (wS s (1+2*g) ⟨cs,b,n,nt⟩ [(8,.str [9])] (nX s o)) Q=ro cs (b,g) s n nt (nX s o) Q:=fun Q=>Q9 e Q
   rw [e]
   have hl:=fi b cs
   unfold ro
   dsimp only
   cases q:Nat.ble cs.length b with
   | true=>
    have q:=QD q
    rw [QI q] at hl
    have:=j7 r k (i+1) (g+1) ⟨bR b cs,0,n+1,nt+1⟩ [(8,.str [9])] (aG vI cs::o) hd' hk' hc' hi' (by show WI _ _ 0 (bR b cs).length; rw [hl]; exact hw.tabT q) (congrArg Nat.succ h5) (.inr ⟨_,rfl⟩) hK
    unfold nX at this
    rw [h5] at this
    exact this
   | false=>
    have q:¬ cs.length≤b:=fun h=>by rw [QQ h] at q; cases q
    rw [QH q] at hl
    exact j7 r k (i+1) g ⟨bR b cs,0,n+1,nt+1⟩ [(8,.str [9])] o hd' hk' hc' hi' (by show WI _ _ 0 (bR b cs).length; rw [hl]; exact hw.tabF) h5 (.inr ⟨_,rfl⟩) hK
noncomputable def eI (d:DS) (K:Fl→St→Prop) (fl:Fl) (σ:St):Prop:=match fl with
 | .next=>d σ K
 | .ret v=>K (.ret v) σ
 | .brk=>K .brk σ
 | .cont=>K .cont σ
noncomputable def Qr (σ:St) (Q:V→St→Prop) (fl:Fl) (σ1:St):Prop:=onT (ma (mx fl)) (EQ (.obj 237 0) {σ1 with lo:=[]} (fM σ Q))
noncomputable def KJ (σ:St) (Q:V→St→Prop):Fl→St→Prop:=eI su.1 (eI sx.1 (eI sy.1 (eI sz.1 (Qr σ Q))))
noncomputable def Qe:List V→List V→DE:=cj (LW (pW 237 Cl))
theorem Ce (s:List Nat) (σ:St) (Q:V→St→Prop):Qe [.str s] [] σ Q=onT (D1 s) (bW (dD (.str s)) (gJ 8) cU 60 0 (wS s 1 ⟨[],0,0,0⟩ [] (nX s [])) (KJ σ Q)):=by kernel_rfl
noncomputable def Ku (r:List Nat) (w:Nrm) (σ:St) (Q:V→St→Prop):Prop:=fits (aG vI w.cs).length (fits (aG vI w.cs).length (fM σ Q (.fob 237 [.str r,vI w.n,vI w.nt,.tup [.tup (aG vI w.cs),vI w.b],.boo (decide (((aG vI w.cs).length:Int)≤1))]) σ))
theorem PO (s cs:List Nat) (b n nt:Nat) (tail:List (Nat×V)) (σ:St) (Q:V→St→Prop):KJ σ Q .next (wS s 1 ⟨cs,b,n,nt⟩ tail (nX s []))=Ku s ⟨cs,b,n,nt⟩ σ Q:=by kernel_rfl
theorem PQ (o0:List V) (s cs:List Nat) (b n nt:Nat) (tail:List (Nat×V)) (σ:St) (Q:V→St→Prop):KJ σ Q .next (wS s 3 ⟨cs,b,n,nt⟩ tail (nX s [o0]))=Ku s ⟨cs,b,n,nt⟩ σ Q:=by kernel_rfl
theorem PR (o0 o1:List V) (s cs:List Nat) (b n nt:Nat) (tail:List (Nat×V)) (σ:St) (Q:V→St→Prop):KJ σ Q .next (wS s 5 ⟨cs,b,n,nt⟩ tail (nX s [o0,o1]))=Ku s ⟨cs,b,n,nt⟩ σ Q:=by kernel_rfl
theorem PT (o0 o1 o2:List V) (s cs:List Nat) (b n nt:Nat) (tail:List (Nat×V)) (σ:St) (Q:V→St→Prop):KJ σ Q .next (wS s 7 ⟨cs,b,n,nt⟩ tail (nX s [o0,o1,o2]))=Ku s ⟨cs,b,n,nt⟩ σ Q:=by kernel_rfl
theorem PU (o0 o1 o2 o3:List V) (s cs:List Nat) (b n nt:Nat) (tail:List (Nat×V)) (σ:St) (Q:V→St→Prop):KJ σ Q .next (wS s 9 ⟨cs,b,n,nt⟩ tail (nX s [o0,o1,o2,o3]))=Ku s ⟨cs,b,n,nt⟩ σ Q:=by kernel_rfl
theorem Bj (l:List Nat):aM (aG vI l)=true:=by
 induction l with
 | nil=>rfl
 | cons a r ih=>exact ih
theorem lb {l:List V} (h:aM l=true):bG (.tup l)=true:=dh.trans h
theorem yc {C:Nat} {l:List V} (h:aM l=true):bG (.fob C l)=true:=dh.trans h
theorem bC {v:V} {l:List V} (h1:bG v=true) (h2:aM l=true):aM (v::l)=true:=by
 show @Bool.rec (fun _=>Bool) false (aM l) (bG v)=true
 rw [h1]; exact h2
theorem fm (r:List Nat) (w:Nrm):bG (aE r w)=true:=
 yc (bC rfl (bC rfl (bC rfl (bC (lb (bC (lb (Bj _)) rfl)) (bC rfl rfl)))))
theorem cK {n:Nat} {P:Prop} (h:n≤1000000) (p:P):fits n P:=by
 unfold fits
 rw [QQ h]; exact p
theorem Kv {r:List Nat} {w:Nrm} {σ:St} {Q:V→St→Prop} (h:w.cs.length≤1000000) (q:Q (aE r w) σ):Ku r w σ Q:=by
 unfold Ku
 have e:decide (((aG vI w.cs).length:Int)≤1)=Nat.ble w.cs.length 1:=by
  rw [gf]
  cases q:Nat.ble w.cs.length 1 with
  | true=>have:=QD q; exact QS (by omega)
  | false=>exact QR fun h=>by rw [QQ (by omega)] at q; cases q
 rw [e]
 refine cK (by rw [gf]; exact h) (cK (by rw [gf]; exact h) ?_)
 show fM σ Q (aE r w) σ
 unfold fM
 rw [fm]; exact q
theorem i7:∀ (r:List Nat) (w:Nrm),(eu r w).cs.length≤w.cs.length+w.b+r.length
 | [],w=>by show w.cs.length≤_; omega
 | c::r,w=>by
  show (match Nat.beq c 32 with
   | true=>eu r ⟨w.cs,w.b+1,w.n+1,w.nt⟩
   | false=>eu r ⟨bR w.b w.cs,0,w.n+1,w.nt+1⟩).cs.length≤_
  simp only [List.length_cons]
  cases Nat.beq c 32 with
  | true=>have:=i7 r ⟨w.cs,w.b+1,w.n+1,w.nt⟩; dsimp only at this ⊢; omega
  | false=>
   have:=i7 r ⟨bR w.b w.cs,0,w.n+1,w.nt+1⟩
   have hl:=fi w.b w.cs
   dsimp only at this ⊢
   by_cases h:w.cs.length≤w.b
   ·rw [QI h] at hl; omega
   ·rw [QH h] at hl; omega
theorem vm:∀ {s:List Nat},(∀ c∈s,c=32∨c=9)→D1 s=true
 | [],_=>rfl
 | c::r,h=>by
  have:=vm (s:=r) fun c hc=>h c (QE _ hc)
  show and (Nat.ble c 127) (D1 r)=true
  rw [this]
  rcases h c (QL ..) with rfl | rfl <;> rfl
theorem Kx {s:List Nat} {σ:St} {Q:V→St→Prop} (h:∀ c∈s,c=32∨c=9) (hl:s.length≤12) (q:Q (aE s (zK s)) σ):Qe [.str s] [] σ Q:=by
 rw [Ce,vm h]
 refine j7 s 60 0 0 ⟨[],0,0,0⟩ [] [] rfl (by omega) h (by omega) ⟨QF _,QF _,QF _,fun h=>nomatch h⟩ rfl (.inl rfl) fun tail o ho ht=>?_
 have hn:=i7 s ⟨[],0,0,0⟩
 dsimp only [List.length_nil] at hn
 have q:Q (aE s (eu s ⟨[],0,0,0⟩)) σ:=q
 generalize eu s ⟨[],0,0,0⟩=w at hn q
 have hw:=Kv (by omega) q
 obtain ⟨cs,b,n,nt⟩:=w
 match o,ho with
 | [],_=>exact (PO s cs b n nt tail σ Q).symm ▸ hw
 | [o0],_=>exact (PQ o0 s cs b n nt tail σ Q).symm ▸ hw
 | [o0,o1],_=>exact (PR o0 o1 s cs b n nt tail σ Q).symm ▸ hw
 | [o0,o1,o2],_=>exact (PT o0 o1 o2 s cs b n nt tail σ Q).symm ▸ hw
 | [o0,o1,o2,o3],_=>exact (PU o0 o1 o2 o3 s cs b n nt tail σ Q).symm ▸ hw
 | _::_::_::_::_::_,h=>simp at h
noncomputable def Kw (vs kvs:List V) (σ:St) (Q:V→St→Prop):Prop:=∃ s:List Nat,vs=[.str s]∧kvs=[]∧(∀ c∈s,c=32∨c=9)∧s.length≤12∧Q (aE s (zK s)) σ
theorem Qn (P:Params):makesIn (KK P) 237=true:=by kernel_rfl
theorem Qo (P:Params):specialIn (KK P) (.ref 237) "__call__"=some (some (.builtin "type.__call__")):=by kernel_rfl
theorem Qp (P:Params):findIn (KK P) (.ref 237) (tS "__init__")=some (some (.ref 192)):=by kernel_rfl
theorem Qq (P:Params):typeIn (KK P) (.ref 192)=some (.type "function"):=by kernel_rfl
theorem AJ (g:GA) (ok:(Gk g).Ok) (ba:Bare g):CB (Gk g) 2 (.ref 237) [] Kw:=fun vs kvs σ Q ⟨s,e1,e2,hc,hl,q⟩=>by
 subst e1 e2
 exact CBs.fob ok ba.gn (fun hp=>lL (G:=(Gk g).pv AllBare hp) (ok.pv AllBare hp) (Qn _) (Qp _) (Qq _) (Qo _) (by kernel_rfl) (Ey {g with gn:=AllBare,hp:=hp} (ok.pv AllBare hp) ⟨rfl⟩)) [.str s] [] σ Q (Kx hc hl q)
noncomputable def F9:List (Str×NameKind):=[((tS "self"),.local),((tS "count"),.local),((tS "trailing"),.local),((tS "max"),.globalImplicit),((tS "len"),.globalImplicit)]
noncomputable def lh:Sc:=⟨F9,true,198,(tS "Whitespace.longest_run_of_spaces.<locals>.")⟩
theorem qZ:NamesOk lh:=by unfold NamesOk; kernel_rfl
noncomputable def qi:FuncData:=dE (cG P0 199) default
noncomputable def ir:List PySem.Stmt:=aX (some qi)
noncomputable abbrev MF:=ac ir
theorem GG (g:GA):FnOk (Gk g) 199 qi ir lh:=FnOk.of (by kernel_rfl) (by kernel_rfl)
theorem CK (P:Params):findIn (KK P) (.ref 237) (tS "norm")=some none:=by kernel_rfl
noncomputable def HZ:ax 0 lh (MF 0):=⟨_,fun g ok ba=>(@bF _ _ _ _ _ _ _ _ (@dW _ _ _ _ _ _ _ _ 3 ok (bV g) (vf g) (CK _) (@aa _ _ _ 0 _ _ _ qZ rfl rfl) (fun _=>rfl)) (@cn _ _ _ _ _ (@cA _ _ _ _ _ _ _ (@aR _ _ _ _ _ _ _ (@aw _ _ _ 1 _ _ _ rfl (.inl rfl)) (@aR _ _ _ _ _ _ _ (@aw _ _ _ 2 _ _ _ rfl (.inl rfl)) dA (fun _=>rfl)) (fun _=>rfl)) (fun _=>rfl) (fun _=>rfl)) (fun _=>rfl)) (fun _=>rfl) (fun _ _=>rfl))⟩
theorem vq (g:GA):Bltin (Gk g) (tS "max") (.builtin "max"):=⟨by kernel_rfl,by decide,PyProof.Rows.Boot.«max»,by kernel_rfl⟩
noncomputable def H0:ax 0 lh (MF 1):=⟨_,fun g ok ba=>(@aF _ _ _ _ _ _ (@ar _ _ _ _ _ _ _ _ _ (@az _ _ _ _ 3 _ _ _ _ ok rfl (vq g) n5) (@aA _ _ _ _ _ _ _ (@aD _ _ _ _ _ _ _ _ _ ok (@ar _ _ _ _ _ _ _ _ _ (@az _ _ _ _ 4 _ _ _ _ ok rfl (s7 g) fJ) (@aA _ _ _ _ _ _ _ (@aa _ _ _ 1 _ _ _ qZ rfl rfl) ab rfl) rfl) aq) (@aA _ _ _ _ _ _ _ (@aa _ _ _ 2 _ _ _ qZ rfl rfl) ab rfl) rfl) rfl))⟩
noncomputable def xN:(D:List V→List V→DE) ×' (∀ g:GA,(Gk g).Ok→Bare g→FN (Gk g) 1 199 [] D):=⟨_,fun g ok ba=>aQ (lv:=0) (fd:=qi) (body:=ir) (sc:=lh) ok (GG g) (@aI _ _ _ _ 1 [(0,.pos 0)] [(tS "self")] ok rfl (aS rfl) (au (by kernel_rfl)) (bj rfl) (fun h vals kvals X h1 h2=>by obtain ⟨u0,rfl⟩:=ji h1; obtain rfl:=d5 h2; exact Looks.of_peek (K:=KK g.w.params) X (by kernel_rfl))) (@aL _ _ _ ir 2 _ (by kernel_rfl) (@ay _ _ _ _ _ HZ g ok ba (@ay _ _ _ _ _ H0 g ok ba ai)))⟩
noncomputable def rx:List V→List V→DE:=xN.1
theorem Ez (g:GA) (ok:(Gk g).Ok) (ba:Bare g):FN (Gk g) 1 199 [] rx:=xN.2 g ok ba
theorem ES (g:GA) (ok:(Gk g).Ok) (ba:Bare g):FN (Gk g) 1 199 [] (cj rx):=FN.apart ba.gn fun hp=>Ez {g with gn:=AllBare,hp:=hp} (ok.pv AllBare hp) ⟨rfl⟩
noncomputable def A3 (vs kvs:List V) (σ:St) (Q:V→St→Prop):Prop:=∃ (r n t s:V) (cs:List Nat) (b:Nat),vs=[.fob 237 [r,n,t,.tup [.tup (aG vI cs),vI b],s]]∧aM vs=true∧kvs=[]∧cs.length≤1000∧Q (vI (max (cs.length - 1) b)) σ
theorem A4 (r n t s:V) (cs:List Nat) (b:Nat) (P:V→Prop):rx [.fob 237 [r,n,t,.tup [.tup (aG vI cs),vI b],s]] [] ⟨[],[],0⟩ (fun v _=>P v) =
  fits (aG vI cs).length (match decide (((aG vI cs).length:Int) - 1<(Int.ofNat b)) with
   | true=>P (vI b)
   | false=>P (.int (((aG vI cs).length:Int) - 1))):=by kernel_rfl
theorem Pf {a b:Nat} (h:(a:Int) - 1<(b:Int)):max (a - 1) b=b:=by omega
theorem ME {a b:Nat} (h:¬ (a:Int) - 1<(b:Int)):max (a - 1) b=a - 1∧(a:Int) - 1=Int.ofNat (a - 1):=by simp only [Int.ofNat_eq_natCast]; omega
theorem wo (g:GA) (ok:(Gk g).Ok) (ba:Bare g):FN (Gk g) 1 199 [] A3:=by
 refine (ES g ok ba).mono fun vs kvs σ Q y_=>?_
 apply bc;intro z_
 obtain ⟨r,n,t,s,cs,b,e1,hp,e2,hl,q⟩:=y_
 apply z_;clear z_
 subst e1 e2
 unfold cj
 rw [hp]
 show rx _ _ _ (fun v _=>match bG v with
  | true=>Q v σ
  | false=>False)
 rw [A4]
 refine cK (by rw [gf]; exact QC hl (by decide)) ?_
 rw [gf]
 by_cases h:((cs.length:Int) - 1<Int.ofNat b)
 ·rw [QS h]
  have h:(cs.length:Int) - 1<(b:Int):=h
  rw [Pf h] at q
  exact q
 ·rw [QR h]
  have h:¬ (cs.length:Int) - 1<(b:Int):=h
  rw [(ME h).1] at q
  rw [(ME h).2]
  exact q
noncomputable def Ga:List (Str×NameKind):=[((tS "self"),.local),((tS "tabsize"),.local),((tS "count"),.local),((tS "trailing"),.local),((tS "il"),.local),((tS "i"),.local),((tS "range"),.globalImplicit),((tS "len"),.globalImplicit)]
noncomputable def gj:Sc:=⟨Ga,true,205,(tS "Whitespace.indent_level.<locals>.")⟩
theorem ed:NamesOk gj:=by unfold NamesOk; kernel_rfl
noncomputable def qj:FuncData:=dE (cG P0 206) default
noncomputable def iu:List PySem.Stmt:=aX (some qj)
noncomputable abbrev tD:=ac iu
theorem GH (g:GA):FnOk (Gk g) 206 qj iu gj:=FnOk.of (by kernel_rfl) (by kernel_rfl)
noncomputable def H5:ax 0 gj (tD 0):=⟨_,fun g ok ba=>(@bF _ _ _ _ _ _ _ _ (@dW _ _ _ _ _ _ _ _ 3 ok (bV g) (vf g) (CK _) (@aa _ _ _ 0 _ _ _ ed rfl rfl) (fun _=>rfl)) (@cn _ _ _ _ _ (@cA _ _ _ _ _ _ _ (@aR _ _ _ _ _ _ _ (@aw _ _ _ 2 _ _ _ rfl (.inl rfl)) (@aR _ _ _ _ _ _ _ (@aw _ _ _ 3 _ _ _ rfl (.inl rfl)) dA (fun _=>rfl)) (fun _=>rfl)) (fun _=>rfl) (fun _=>rfl)) (fun _=>rfl)) (fun _=>rfl) (fun _ _=>rfl))⟩
noncomputable def H6:ax 0 gj (tD 1):=⟨_,fun g ok ba=>(@aB _ _ _ 4 _ _ _ _ _ aq rfl rfl)⟩
theorem lB (g:GA):Bltin (Gk g) (tS "range") (.type "range"):=⟨by kernel_rfl,by decide,PyProof.Rows.Boot.«range»,by kernel_rfl⟩
noncomputable def H7:ax 0 gj (ac (cw (tD 2)) 0):=⟨_,fun g ok ba=>(@aB _ _ _ 4 _ _ _ _ _ (@aD _ _ _ _ _ _ _ _ _ ok (@aa _ _ _ 4 _ _ _ ed rfl rfl) (@aD _ _ _ _ _ _ _ _ _ ok (@aD _ _ _ _ _ _ _ _ _ ok (@aa _ _ _ 5 _ _ _ ed rfl rfl) (@aa _ _ _ 1 _ _ _ ed rfl rfl)) (@a9 _ _ _ _ _ _ _ _ ok (@aa _ _ _ 2 _ _ _ ed rfl rfl) (@aa _ _ _ 5 _ _ _ ed rfl rfl)))) rfl rfl)⟩
noncomputable def H8:ax 0 gj (tD 2):=⟨_,fun g ok ba=>(@em _ _ _ false _ _ _ _ _ _ _ 60 (@cB _ _ _ _ _ 6 _ _ _ _ _ _ ok rfl (lB g) (fun _ h=>nomatch h) (eO ok) (@aA _ _ _ _ _ _ _ (@aa _ _ _ 1 _ _ _ ed rfl rfl) (@aA _ _ _ _ _ _ _ (@ar _ _ _ _ _ _ _ _ _ (@az _ _ _ _ 7 _ _ _ _ ok rfl (s7 g) fJ) (@aA _ _ _ _ _ _ _ (@aa _ _ _ 2 _ _ _ ed rfl rfl) ab rfl) rfl) ab rfl) rfl) (fun _ _=>rfl)) (fun h=>nomatch h) (@aw _ _ _ 5 _ _ _ rfl (.inl rfl)) (@aL _ _ _ (cw (tD 2)) 1 _ (by kernel_rfl) (@ay _ _ _ _ _ H7 g ok ba ai)) (fun _ _=>rfl))⟩
theorem we (P:Params):findIn (KK P) (.ref 237) (tS "nt")=some none:=by kernel_rfl
noncomputable def H9:ax 0 gj (tD 3):=⟨_,fun g ok ba=>(@aF _ _ _ _ _ _ (@aD _ _ _ _ _ _ _ _ _ ok (@aa _ _ _ 3 _ _ _ ed rfl rfl) (@aD _ _ _ _ _ _ _ _ _ ok (@aa _ _ _ 1 _ _ _ ed rfl rfl) (@aD _ _ _ _ _ _ _ _ _ ok (@aa _ _ _ 4 _ _ _ ed rfl rfl) (@dW _ _ _ _ _ _ _ _ 2 ok (bV g) (rH g) (we _) (@aa _ _ _ 0 _ _ _ ed rfl rfl) (fun _=>rfl))))))⟩
noncomputable def xO:(D:List V→List V→DE) ×' (∀ g:GA,(Gk g).Ok→Bare g→FN (Gk g) 1 206 [] D):=⟨_,fun g ok ba=>aQ (lv:=0) (fd:=qj) (body:=iu) (sc:=gj) ok (GH g) (@aI _ _ _ _ 2 [(0,.pos 0),(1,.pos 1)] [(tS "self"),(tS "tabsize")] ok rfl (aS rfl) (au (by kernel_rfl)) (bj rfl) (fun h vals kvals X h1 h2=>by obtain ⟨u0,u1,rfl⟩:=jQ h1; obtain rfl:=d5 h2; exact Looks.of_peek (K:=KK g.w.params) X (by kernel_rfl))) (@aL _ _ _ iu 4 _ (by kernel_rfl) (@ay _ _ _ _ _ H5 g ok ba (@ay _ _ _ _ _ H6 g ok ba (@ay _ _ _ _ _ H8 g ok ba (@ay _ _ _ _ _ H9 g ok ba ai)))))⟩
noncomputable def uz:List V→List V→DE:=xO.1
theorem EA (g:GA) (ok:(Gk g).Ok) (ba:Bare g):FN (Gk g) 1 206 [] uz:=xO.2 g ok ba
theorem ET (g:GA) (ok:(Gk g).Ok) (ba:Bare g):FN (Gk g) 1 206 [] (cj uz):=FN.apart ba.gn fun hp=>EA {g with gn:=AllBare,hp:=hp} (ok.pv AllBare hp) ⟨rfl⟩
noncomputable def g0 (ts:Nat):Nat→List Nat→Nat→Nat
 | _,[],acc=>acc
 | i,c::r,acc=>(match Nat.ble ts i with
  | true=>g0 ts (i+1) r (acc+i / ts*c)
  | false=>g0 ts (i+1) r acc)
noncomputable def d4 (w:Nrm) (ts:Nat):Nat:=w.b+ts*(g0 ts 0 w.cs 0+w.nt)
noncomputable def wF (vs kvs:List V) (σ:St) (Q:V→St→Prop):Prop:=∃ (r:List Nat) (w:Nrm) (ts:Nat),vs=[aE r w,vI ts]∧kvs=[]∧w.cs.length≤12∧2≤ts∧ts≤14∧Q (vI (d4 w ts)) σ
noncomputable abbrev PX:=List Nat→Nat→Nat→Nat→V→(V→Prop)→Prop
noncomputable def qL (c:List Nat) (ts:Nat):PX:=fun r n nt b s P=>uz [.fob 237 [.str r,vI n,vI nt,.tup [.tup (aG vI c),vI b],s],vI ts] [] ⟨[],[],0⟩ (fun v _=>P v)
noncomputable def r5 (c:List Nat) (ts:Nat):PX:=fun r n nt b s P=>P (vI (d4 ⟨c,b,n,nt⟩ ts))
noncomputable def i9:List Nat:=[2,3,4,5,6,7,8,9,10,11,12,13,14]
theorem OS:aG (qL []) i9=aP (r5 []) i9:=by kernel_rfl
theorem OT (c0:Nat):aG (qL [c0]) i9=aP (r5 [c0]) i9:=by kernel_rfl
theorem OU (c0 c1:Nat):aG (qL [c0,c1]) i9=aP (r5 [c0,c1]) i9:=by kernel_rfl
theorem OV (c0 c1 c2:Nat):aG (qL [c0,c1,c2]) i9=aP (r5 [c0,c1,c2]) i9:=by kernel_rfl
theorem OW (c0 c1 c2 c3:Nat):aG (qL [c0,c1,c2,c3]) i9=aP (r5 [c0,c1,c2,c3]) i9:=by kernel_rfl
theorem OX (c0 c1 c2 c3 c4:Nat):aG (qL [c0,c1,c2,c3,c4]) i9=aP (r5 [c0,c1,c2,c3,c4]) i9:=by kernel_rfl
theorem OY (c0 c1 c2 c3 c4 c5:Nat):aG (qL [c0,c1,c2,c3,c4,c5]) i9=aP (r5 [c0,c1,c2,c3,c4,c5]) i9:=by kernel_rfl
theorem OZ (c0 c1 c2 c3 c4 c5 c6:Nat):aG (qL [c0,c1,c2,c3,c4,c5,c6]) i9=aP (r5 [c0,c1,c2,c3,c4,c5,c6]) i9:=by kernel_rfl
theorem O0 (c0 c1 c2 c3 c4 c5 c6 c7:Nat):aG (qL [c0,c1,c2,c3,c4,c5,c6,c7]) i9=aP (r5 [c0,c1,c2,c3,c4,c5,c6,c7]) i9:=by kernel_rfl
theorem O1 (c0 c1 c2 c3 c4 c5 c6 c7 c8:Nat):aG (qL [c0,c1,c2,c3,c4,c5,c6,c7,c8]) i9=aP (r5 [c0,c1,c2,c3,c4,c5,c6,c7,c8]) i9:=by kernel_rfl
theorem Mk (c0 c1 c2 c3 c4 c5 c6 c7 c8 c9:Nat):aG (qL [c0,c1,c2,c3,c4,c5,c6,c7,c8,c9]) i9=aP (r5 [c0,c1,c2,c3,c4,c5,c6,c7,c8,c9]) i9:=by kernel_rfl
theorem Ml (c0 c1 c2 c3 c4 c5 c6 c7 c8 c9 c10:Nat):aG (qL [c0,c1,c2,c3,c4,c5,c6,c7,c8,c9,c10]) i9=aP (r5 [c0,c1,c2,c3,c4,c5,c6,c7,c8,c9,c10]) i9:=by kernel_rfl
theorem Mm (c0 c1 c2 c3 c4 c5 c6 c7 c8 c9 c10 c11:Nat):aG (qL [c0,c1,c2,c3,c4,c5,c6,c7,c8,c9,c10,c11]) i9=aP (r5 [c0,c1,c2,c3,c4,c5,c6,c7,c8,c9,c10,c11]) i9:=by kernel_rfl
theorem Fq:∀ n<15,2≤n→n∈i9:=by decide +kernel
theorem Fn {c:List Nat} {ts:Nat} (h:c.length≤12) (h1:2≤ts) (h2:ts≤14):qL c ts=r5 c ts:=by
 have m:ts∈i9:=Fq ts (Nat.lt_succ_of_le h2) h1
 clear h1 h2
 match c,h with
 | [],_=>exact aV (OS) _ m
 | [c0],_=>exact aV (OT c0) _ m
 | [c0,c1],_=>exact aV (OU c0 c1) _ m
 | [c0,c1,c2],_=>exact aV (OV c0 c1 c2) _ m
 | [c0,c1,c2,c3],_=>exact aV (OW c0 c1 c2 c3) _ m
 | [c0,c1,c2,c3,c4],_=>exact aV (OX c0 c1 c2 c3 c4) _ m
 | [c0,c1,c2,c3,c4,c5],_=>exact aV (OY c0 c1 c2 c3 c4 c5) _ m
 | [c0,c1,c2,c3,c4,c5,c6],_=>exact aV (OZ c0 c1 c2 c3 c4 c5 c6) _ m
 | [c0,c1,c2,c3,c4,c5,c6,c7],_=>exact aV (O0 c0 c1 c2 c3 c4 c5 c6 c7) _ m
 | [c0,c1,c2,c3,c4,c5,c6,c7,c8],_=>exact aV (O1 c0 c1 c2 c3 c4 c5 c6 c7 c8) _ m
 | [c0,c1,c2,c3,c4,c5,c6,c7,c8,c9],_=>exact aV (Mk c0 c1 c2 c3 c4 c5 c6 c7 c8 c9) _ m
 | [c0,c1,c2,c3,c4,c5,c6,c7,c8,c9,c10],_=>exact aV (Ml c0 c1 c2 c3 c4 c5 c6 c7 c8 c9 c10) _ m
 | [c0,c1,c2,c3,c4,c5,c6,c7,c8,c9,c10,c11],_=>exact aV (Mm c0 c1 c2 c3 c4 c5 c6 c7 c8 c9 c10 c11) _ m
 | _::_::_::_::_::_::_::_::_::_::_::_::_::_,h=>simp at h
theorem wp (g:GA) (ok:(Gk g).Ok) (ba:Bare g):FN (Gk g) 1 206 [] wF:=by
 refine (ET g ok ba).mono fun vs kvs σ Q y_=>?_
 apply bc;intro z_
 obtain ⟨r,w,ts,e1,e2,hl,h1,h2,q⟩:=y_
 apply z_;clear z_
 subst e1 e2
 have hp:aM [aE r w,vI ts]=true:=bC (fm r w) rfl
 unfold cj
 rw [hp]
 have e:=Q9 (Q9 (Q9 (Q9 (Q9 (Q9 (Fn hl h1 h2) r) w.n) w.nt) w.b) (.boo (Nat.ble w.cs.length 1))) (fun v=>match bG v with
  | true=>Q v σ
  | false=>False)
 show qL w.cs ts r w.n w.nt w.b (.boo (Nat.ble w.cs.length 1)) (fun v=>match bG v with
  | true=>Q v σ
  | false=>False)
 rw [e]
 exact q
noncomputable def Gb:List (Str×NameKind):=[((tS "self"),.local),((tS "other"),.local),((tS "n"),.local),((tS "ts"),.local),((tS "max"),.globalImplicit),((tS "range"),.globalImplicit)]
noncomputable def gk:Sc:=⟨Gb,true,226,(tS "Whitespace.less.<locals>.")⟩
theorem dP:NamesOk gk:=by unfold NamesOk; kernel_rfl
noncomputable def qk:FuncData:=dE (cG P0 227) default
noncomputable def iw:List PySem.Stmt:=aX (some qk)
noncomputable abbrev tE:=ac iw
theorem GI (g:GA):FnOk (Gk g) 227 qk iw gk:=FnOk.of (by kernel_rfl) (by kernel_rfl)
theorem CL (P:Params):findIn (KK P) (.ref 237) (tS "n")=some none:=by kernel_rfl
noncomputable def q6:ax 1 gk (tE 0):=⟨_,fun g ok ba=>(@bL _ _ _ _ _ _ _ _ _ _ (@aY _ _ _ _ _ _ _ _ _ (@dW _ _ _ _ _ _ _ _ 1 ok (bV g) (u9 g) (CL _) (@aa _ _ _ 0 _ _ _ dP rfl rfl) (fun _=>rfl)) (@dW _ _ _ _ _ _ _ _ 1 ok (bV g) (u9 g) (CL _) (@aa _ _ _ 1 _ _ _ dP rfl rfl) (fun _=>rfl)) rfl) (@cr _ _ _ _ _ _ _ (@aF _ _ _ _ _ _ b7) ai) ai)⟩
theorem CM (P:Params):findIn (KK P) (.ref 237) (tS "is_simple")=some none:=by kernel_rfl
noncomputable def nE:ax 1 gk (tE 1):=⟨_,fun g ok ba=>(@bL _ _ _ _ _ _ _ _ _ _ (@fV _ _ _ _ _ _ _ (@dw _ _ _ _ _ _ _ (@bZ _ _ _ _ _ (@dW _ _ _ _ _ _ _ _ 4 ok (bV g) (vg g) (CM _) (@aa _ _ _ 0 _ _ _ dP rfl rfl) (fun _=>rfl)) (fun _ _=>rfl)) (@dw _ _ _ _ _ _ _ (@bZ _ _ _ _ _ (@dW _ _ _ _ _ _ _ _ 4 ok (bV g) (vg g) (CM _) (@aa _ _ _ 1 _ _ _ dP rfl rfl) (fun _=>rfl)) (fun _ _=>rfl)) fw))) (@cr _ _ _ _ _ _ _ (@aF _ _ _ _ _ _ (@n8 _ _ _ _ _ _ _ _ _ (@dW _ _ _ _ _ _ _ _ 2 ok (bV g) (rH g) (we _) (@aa _ _ _ 0 _ _ _ dP rfl rfl) (fun _=>rfl)) (@dW _ _ _ _ _ _ _ _ 2 ok (bV g) (rH g) (we _) (@aa _ _ _ 1 _ _ _ dP rfl rfl) (fun _=>rfl)) rfl)) ai) ai)⟩
theorem Cv (g:GA):(Gk g).an[5]?=some (tS "longest_run_of_spaces"):=by kernel_rfl
theorem CY (P:Params):findIn (KK P) (.ref 237) (tS "longest_run_of_spaces")=some (some (.ref 199)):=by kernel_rfl
theorem Dh (P:Params):typeIn (KK P) (.ref 199)=some (.type "function"):=by kernel_rfl
noncomputable def nG:ax 1 gk (tE 2):=⟨_,fun g ok ba=>(@aB _ _ _ 2 _ _ _ _ _ (@aD _ _ _ _ _ _ _ _ _ ok (@ar _ _ _ _ _ _ _ _ _ (@az _ _ _ _ 4 _ _ _ _ ok rfl (vq g) n5) (@aA _ _ _ _ _ _ _ (@al _ _ _ _ _ _ _ _ _ _ (@kc _ _ _ _ _ _ _ 5 _ _ _ ok (bV g) (Cv g) (CY _) (Dh _) (@aa _ _ _ 0 _ _ _ dP rfl rfl) (@CB.up _ _ _ _ _ _ (@FN.cb _ _ _ _ _ ok (wo g ok ba)) rfl)) ab (fun _=>rfl) rfl rfl rfl) (@aA _ _ _ _ _ _ _ (@al _ _ _ _ _ _ _ _ _ _ (@kc _ _ _ _ _ _ _ 5 _ _ _ ok (bV g) (Cv g) (CY _) (Dh _) (@aa _ _ _ 1 _ _ _ dP rfl rfl) (@CB.up _ _ _ _ _ _ (@FN.cb _ _ _ _ _ ok (wo g ok ba)) rfl)) ab (fun _=>rfl) rfl rfl rfl) ab rfl) rfl) rfl) aq) rfl rfl)⟩
theorem Cw (g:GA):(Gk g).an[6]?=some (tS "indent_level"):=by kernel_rfl
theorem CZ (P:Params):findIn (KK P) (.ref 237) (tS "indent_level")=some (some (.ref 206)):=by kernel_rfl
theorem Di (P:Params):typeIn (KK P) (.ref 206)=some (.type "function"):=by kernel_rfl
noncomputable def yd:ax 1 gk (ac (cw (tE 3)) 0):=⟨_,fun g ok ba=>(@bL _ _ _ _ _ _ _ _ _ _ (@aY _ _ _ _ _ _ _ _ _ (@al _ _ _ _ _ _ _ _ _ _ (@kc _ _ _ _ _ _ _ 6 _ _ _ ok (bV g) (Cw g) (CZ _) (Di _) (@aa _ _ _ 0 _ _ _ dP rfl rfl) (@CB.up _ _ _ _ _ _ (@FN.cb _ _ _ _ _ ok (wp g ok ba)) rfl)) (@aA _ _ _ _ _ _ _ (@aa _ _ _ 3 _ _ _ dP rfl rfl) ab rfl) (fun _=>rfl) rfl rfl rfl) (@al _ _ _ _ _ _ _ _ _ _ (@kc _ _ _ _ _ _ _ 6 _ _ _ ok (bV g) (Cw g) (CZ _) (Di _) (@aa _ _ _ 1 _ _ _ dP rfl rfl) (@CB.up _ _ _ _ _ _ (@FN.cb _ _ _ _ _ ok (wp g ok ba)) rfl)) (@aA _ _ _ _ _ _ _ (@aa _ _ _ 3 _ _ _ dP rfl rfl) ab rfl) (fun _=>rfl) rfl rfl rfl) rfl) (@cr _ _ _ _ _ _ _ (@aF _ _ _ _ _ _ b7) ai) ai)⟩
noncomputable def nH:ax 1 gk (tE 3):=⟨_,fun g ok ba=>(@em _ _ _ false _ _ _ _ _ _ _ 60 (@cB _ _ _ _ _ 5 _ _ _ _ _ _ ok rfl (lB g) (fun _ h=>nomatch h) (eO ok) (@aA _ _ _ _ _ _ _ aq (@aA _ _ _ _ _ _ _ (@aD _ _ _ _ _ _ _ _ _ ok (@aa _ _ _ 2 _ _ _ dP rfl rfl) aq) ab rfl) rfl) (fun _ _=>rfl)) (fun h=>nomatch h) (@aw _ _ _ 3 _ _ _ rfl (.inl rfl)) (@aL _ _ _ (cw (tE 3)) 1 _ (by kernel_rfl) (@ay _ _ _ _ _ yd g ok ba ai)) (fun _ _=>rfl))⟩
noncomputable def xP:(D:List V→List V→DE) ×' (∀ g:GA,(Gk g).Ok→Bare g→FN (Gk g) 2 227 [] D):=⟨_,fun g ok ba=>aQ (lv:=1) (fd:=qk) (body:=iw) (sc:=gk) ok (GI g) (@aI _ _ _ _ 2 [(0,.pos 0),(1,.pos 1)] [(tS "self"),(tS "other")] ok rfl (aS rfl) (au (by kernel_rfl)) (bj rfl) (fun h vals kvals X h1 h2=>by obtain ⟨u0,u1,rfl⟩:=jQ h1; obtain rfl:=d5 h2; exact Looks.of_peek (K:=KK g.w.params) X (by kernel_rfl))) (@aL _ _ _ iw 5 _ (by kernel_rfl) (@ay _ _ _ _ _ q6 g ok ba (@ay _ _ _ _ _ nE g ok ba (@ay _ _ _ _ _ nG g ok ba (@ay _ _ _ _ _ nH g ok ba (@cr _ _ _ _ _ _ _ (@aF _ _ _ _ _ _ b7) ai))))))⟩
noncomputable def ry:List V→List V→DE:=xP.1
theorem EB (g:GA) (ok:(Gk g).Ok) (ba:Bare g):FN (Gk g) 2 227 [] ry:=xP.2 g ok ba
theorem EU (g:GA) (ok:(Gk g).Ok) (ba:Bare g):FN (Gk g) 2 227 [] (cj ry):=FN.apart ba.gn fun hp=>EB {g with gn:=AllBare,hp:=hp} (ok.pv AllBare hp) ⟨rfl⟩
noncomputable def fQ (v w:V) (tail:List (Nat×V)):St:=⟨(0,v)::(1,w)::tail,[],0⟩
noncomputable def O8 (K:V→St→Prop) (fl:Fl) (σ:St):Prop:=K (mx fl) {σ with lo:=[]}
noncomputable def Pt (σ:St) (Q:Fl→St→Prop):Prop:=Q (.ret (.boo true)) σ
theorem A6 (v w:V) (K:V→St→Prop):ry [v,w] [] ⟨[],[],0⟩ K=q6.1 (fQ v w []) (eI nE.1 (eI nG.1 (eI nH.1 (eI Pt (O8 K))))):=by kernel_rfl
theorem O9 (r1 r2:List Nat) (w1 w2:Nrm) (K:Fl→St→Prop):q6.1 (fQ (aE r1 w1) (aE r2 w2) []) K=(match decide (Int.ofNat w2.n≤Int.ofNat w1.n) with
 | true=>K (.ret (.boo false)) (fQ (aE r1 w1) (aE r2 w2) [])
 | false=>K .next (fQ (aE r1 w1) (aE r2 w2) [])):=by kernel_rfl
theorem Mw (r1 r2:List Nat) (w1 w2:Nrm) (K:Fl→St→Prop):nE.1 (fQ (aE r1 w1) (aE r2 w2) []) K=(match Nat.ble w1.cs.length 1 with
 | true=>(match Nat.ble w2.cs.length 1 with
  | true=>K (.ret (.boo (decide (Int.ofNat w1.nt≤Int.ofNat w2.nt)))) (fQ (aE r1 w1) (aE r2 w2) [])
  | false=>K .next (fQ (aE r1 w1) (aE r2 w2) []))
 | false=>K .next (fQ (aE r1 w1) (aE r2 w2) [])):=by kernel_rfl
theorem Pa (r1 r2:List Nat) (w1 w2:Nrm) (K:Fl→St→Prop):nG.1 (fQ (aE r1 w1) (aE r2 w2) []) K =
 A3 [aE r1 w1] [] (fQ (aE r1 w1) (aE r2 w2) []) fun a σ1=>A3 [aE r2 w2] [] σ1 fun b σ2=>FD [a,b] σ2 fun m σ3=>D3 .Add m (.int 1) σ3 fun x σ4=>K .next (dm 2 x σ4):=by kernel_rfl
noncomputable def zN (w1 w2:Nrm):Nat:=max (max (w1.cs.length - 1) w1.b) (max (w2.cs.length - 1) w2.b)+1
theorem sg {r:List Nat} {w:Nrm} {σ:St} {Q:V→St→Prop} (h:w.cs.length≤12) (q:Q (vI (max (w.cs.length - 1) w.b)) σ):A3 [aE r w] [] σ Q:=
 ⟨.str r,vI w.n,vI w.nt,.boo (Nat.ble w.cs.length 1),w.cs,w.b,rfl,bC (fm r w) rfl,rfl,by omega,q⟩
theorem FE {a b:Nat} {σ:St} {Q:V→St→Prop} (q:Q (vI (max a b)) σ):FD [vI a,vI b] σ Q:=by
 show (match decide ((Int.ofNat a)<(Int.ofNat b)) with
  | true=>Q (vI b) σ
  | false=>Q (vI a) σ)
 by_cases h:a<b
 ·have e:decide ((Int.ofNat a)<(Int.ofNat b))=true:=QS (Int.ofNat_lt.mpr h)
  rw [e]
  rw [Nat.max_eq_right (Nat.le_of_lt h)] at q; exact q
 ·have e:decide ((Int.ofNat a)<(Int.ofNat b))=false:=QR fun z=>h (Int.ofNat_lt.mp z)
  rw [e]
  rw [Nat.max_eq_left (Nat.le_of_not_lt h)] at q; exact q
theorem bY {d:DS} {K:Fl→St→Prop} {σ:St}:eI d K .next σ=d σ K:=rfl
theorem gp {d:DS} {K:Fl→St→Prop} {v:V} {σ:St}:eI d K (.ret v) σ=K (.ret v) σ:=rfl
theorem FC {P:V→Prop} {σ:St}:eI Pt (O8 fun v _=>P v) .next σ=P (.boo true):=rfl
theorem qV {P:V→Prop} {v:V} {σ:St}:eI Pt (O8 fun v _=>P v) (.ret v) σ=P v:=rfl
theorem w6 {r1 r2:List Nat} {w1 w2:Nrm} {K:Fl→St→Prop} (h1:w1.cs.length≤12) (h2:w2.cs.length≤12) (q:K .next (fQ (aE r1 w1) (aE r2 w2) [(2,vI (zN w1 w2))])):nG.1 (fQ (aE r1 w1) (aE r2 w2) []) K:=by
 rw [Pa]
 exact sg h1 (sg h2 (FE q))
noncomputable def oW (σ:St) (Q:Fl→St→Prop):Prop:=yd.1 σ (eI (fun σ Q=>Q .next σ) Q)
noncomputable abbrev PY:=V→V→(Fl→St→Prop)→Prop
noncomputable def Qj (N:Nat):PY:=fun v w K=>nH.1 (fQ v w [(2,vI N)]) K
noncomputable def Qk (N:Nat):PY:=fun v w K=>bW (iJ 2 1 (N - 1)) (gJ 3) oW 60 0 (fQ v w [(2,vI N)]) K
noncomputable def Od:List Nat:=[1,2,3,4,5,6,7,8,9,10,11,12,13]
theorem Pc:aG Qj Od=aP Qk Od:=by kernel_rfl
theorem Pb (v w:V) (N ts:Nat) (r1 r2:List Nat) (w1 w2:Nrm) (K:Fl→St→Prop):oW (fQ (aE r1 w1) (aE r2 w2) [(2,vI N),(3,vI ts)]) K =
 wF [aE r1 w1,vI ts] [] (fQ (aE r1 w1) (aE r2 w2) [(2,vI N),(3,vI ts)]) fun a σ1=>wF [aE r2 w2,vI ts] [] σ1 fun b σ2=>G5 .GtE a b σ2 fun z σ3=>(match z with
  | true=>K (.ret (.boo false)) σ3
  | false=>K .next σ3):=by kernel_rfl
theorem w7 {N ts:Nat} {r1 r2:List Nat} {w1 w2:Nrm} {K:Fl→St→Prop} (h1:w1.cs.length≤12) (h2:w2.cs.length≤12) (h3:2≤ts) (h4:ts≤14)
  (q:(match Nat.ble (d4 w2 ts) (d4 w1 ts) with
   | true=>K (.ret (.boo false)) (fQ (aE r1 w1) (aE r2 w2) [(2,vI N),(3,vI ts)])
   | false=>K .next (fQ (aE r1 w1) (aE r2 w2) [(2,vI N),(3,vI ts)]))):oW (fQ (aE r1 w1) (aE r2 w2) [(2,vI N),(3,vI ts)]) K:=by
 rw [Pb (aE r1 w1) (aE r2 w2)]
 refine ⟨r1,w1,ts,rfl,rfl,h1,h3,h4,⟨r2,w2,ts,rfl,rfl,h2,h3,h4,?_⟩⟩
 show (match decide ((Int.ofNat (d4 w2 ts))≤(Int.ofNat (d4 w1 ts))) with
  | true=>K (.ret (.boo false)) _
  | false=>K .next _)
 have e:decide ((Int.ofNat (d4 w2 ts))≤(Int.ofNat (d4 w1 ts)))=Nat.ble (d4 w2 ts) (d4 w1 ts):=by
  cases h:Nat.ble (d4 w2 ts) (d4 w1 ts) with
  | true=>exact QS (Int.ofNat_le.mpr (QD h))
  | false=>exact QR fun z=>by rw [QQ (Int.ofNat_le.mp z)] at h; cases h
 rw [e]
 exact q
theorem N4 (i:Nat):(2:Int)+(i:Int)*1=Int.ofNat (2+i):=by
 simp only [Int.ofNat_eq_natCast]; omega
theorem si {v w:V} {N i:Nat} {k m:Nat} {tail:List (Nat×V)} {K:Fl→St→Prop} (h:i<m) (ht:tail=[]∨∃ x,tail=[(3,x)])
  (q:oW (fQ v w [(2,vI N),(3,vI (2+i))]) (fun fl σ2=>match fl with
    | .next=>bW (iJ 2 1 m) (gJ 3) oW k (i+1) σ2 K
    | .cont=>bW (iJ 2 1 m) (gJ 3) oW k (i+1) σ2 K
    | .brk=>K .next σ2
    | .ret v=>K (.ret v) σ2)):bW (iJ 2 1 m) (gJ 3) oW (k+1) i (fQ v w ((2,vI N)::tail)) K:=by
 show (match (match Nat.ble m i with
   | true=>some none
   | false=>some (some (V.int ((2:Int)+(i:Int)*1))):Option (Option V)) with
  | some (some u)=>gJ 3 u (fQ v w ((2,vI N)::tail)) fun σ1=>oW σ1 (fun fl σ2=>match fl with
    | .next=>bW (iJ 2 1 m) (gJ 3) oW k (i+1) σ2 K
    | .cont=>bW (iJ 2 1 m) (gJ 3) oW k (i+1) σ2 K
    | .brk=>K .next σ2
    | .ret v=>K (.ret v) σ2)
  | some none=>K .next (fQ v w ((2,vI N)::tail))
  | none=>False)
 have e:Nat.ble m i=false:=by
  cases z:Nat.ble m i with
  | false=>rfl
  | true=>exact absurd h (QT (QD z))
 rw [e,N4]
 show oW (dm 3 (vI (2+i)) (fQ v w ((2,vI N)::tail))) _
 have et:dm 3 (vI (2+i)) (fQ v w ((2,vI N)::tail))=fQ v w [(2,vI N),(3,vI (2+i))]:=by
  rcases ht with rfl | ⟨x,rfl⟩ <;> rfl
 rw [et]
 exact q
theorem FA {v w:V} {N i:Nat} {k m:Nat} {tail:List (Nat×V)} {K:Fl→St→Prop} (h:m≤i) (q:K .next (fQ v w ((2,vI N)::tail))):bW (iJ 2 1 m) (gJ 3) oW (k+1) i (fQ v w ((2,vI N)::tail)) K:=by
 show (match (match Nat.ble m i with
   | true=>some none
   | false=>some (some (V.int ((2:Int)+(i:Int)*1))):Option (Option V)) with
  | some (some u)=>gJ 3 u (fQ v w ((2,vI N)::tail)) fun σ1=>oW σ1 (fun fl σ2=>match fl with
    | .next=>bW (iJ 2 1 m) (gJ 3) oW k (i+1) σ2 K
    | .cont=>bW (iJ 2 1 m) (gJ 3) oW k (i+1) σ2 K
    | .brk=>K .next σ2
    | .ret v=>K (.ret v) σ2)
  | some none=>K .next (fQ v w ((2,vI N)::tail))
  | none=>False)
 rw [QQ h]
 exact q
theorem w8 {r1 r2:List Nat} {w1 w2:Nrm} {N:Nat} {K:Fl→St→Prop} (h1:w1.cs.length≤12) (h2:w2.cs.length≤12) (hN:N≤13) (H:∀ ts,2≤ts→ts≤N→d4 w1 ts<d4 w2 ts) (hK:∀ tail,(tail=[]∨∃ x,tail=[(3,x)])→K .next (fQ (aE r1 w1) (aE r2 w2) ((2,vI N)::tail))) :
  ∀ (d k i:Nat) (tail:List (Nat×V)),i+d=N - 1→d<k→(tail=[]∨∃ x,tail=[(3,x)])→bW (iJ 2 1 (N - 1)) (gJ 3) oW k i (fQ (aE r1 w1) (aE r2 w2) ((2,vI N)::tail)) K
 | _,0,_,_,_,h,_=>absurd h (Nat.not_lt_zero _)
 | 0,k+1,i,tail,hi,_,ht=>FA (Rc hi.symm) (hK tail ht)
 | d+1,k+1,i,tail,hi,hk,ht=>by
  have lt:i<N - 1:=by rw [← hi]; exact Nat.lt_add_of_pos_right (Nat.succ_pos d)
  have l2:2+i≤N:=by rw [Nat.add_comm]; exact Nat.lt_sub_iff_add_lt.mp lt
  have hs:=H (2+i) (Nat.le_add_right 2 i) l2
  refine si lt ht (w7 h1 h2 (Nat.le_add_right 2 i) (QC l2 (Nat.le_succ_of_le hN)) ?_)
  have:Nat.ble (d4 w2 (2+i)) (d4 w1 (2+i))=false:=by
   cases z:Nat.ble (d4 w2 (2+i)) (d4 w1 (2+i)) with
   | false=>rfl
   | true=>exact absurd hs (QT (QD z))
  rw [this]
  exact w8 h1 h2 hN H hK d k (i+1) _ ((Nat.add_right_comm i 1 d).trans hi) (Nat.lt_of_succ_lt_succ hk) (.inr ⟨_,rfl⟩)
inductive LessIs (w1 w2:Nrm):Bool→Prop
 | far (h:w2.n≤w1.n):LessIs w1 w2 false
 | plain (h:w1.n<w2.n) (h1:w1.cs.length≤1) (h2:w2.cs.length≤1):LessIs w1 w2 (decide (w1.nt≤w2.nt))
 | all (h:w1.n<w2.n) (h0:¬ (w1.cs.length≤1∧w2.cs.length≤1)) (H:∀ ts,2≤ts→d4 w1 ts<d4 w2 ts):LessIs w1 w2 true
 | two (h:w1.n<w2.n) (h0:¬ (w1.cs.length≤1∧w2.cs.length≤1)) (H:d4 w2 2≤d4 w1 2):LessIs w1 w2 false
noncomputable def eW (vs kvs:List V) (σ:St) (Q:V→St→Prop):Prop:=∃ (r1 r2:List Nat) (w1 w2:Nrm) (z:Bool),vs=[aE r1 w1,aE r2 w2]∧kvs=[]∧w1.cs.length≤12∧w2.cs.length≤12∧w1.b≤12∧w2.b≤12∧LessIs w1 w2 z∧Q (.boo z) σ
theorem Kh {w1 w2:Nrm} (h1:w1.cs.length≤12) (h2:w2.cs.length≤12) (b1:w1.b≤12) (b2:w2.b≤12):zN w1 w2≤13:=
 Nat.succ_le_succ (Nat.max_le.mpr ⟨Nat.max_le.mpr ⟨QC (Nat.sub_le _ _) h1,b1⟩,Nat.max_le.mpr ⟨QC (Nat.sub_le _ _) h2,b2⟩⟩)
theorem Ca {w1 w2:Nrm} (h0:¬ (w1.cs.length≤1∧w2.cs.length≤1)):2≤zN w1 w2:=by
 rcases Nat.lt_or_ge 1 w1.cs.length with h | h
 ·exact Nat.succ_le_succ (QC (QC (Nat.le_sub_of_add_le h) (Nat.le_max_left _ _)) (Nat.le_max_left _ _))
 ·rcases Nat.lt_or_ge 1 w2.cs.length with h' | h'
  ·exact Nat.succ_le_succ (QC (QC (Nat.le_sub_of_add_le h') (Nat.le_max_left _ _)) (Nat.le_max_right _ _))
  ·exact absurd ⟨h,h'⟩ h0
theorem Fp:∀ n<14,1≤n→n∈Od:=by decide +kernel
theorem AX {r1 r2:List Nat} {w1 w2:Nrm} {z:Bool} {P:V→Prop} (h1:w1.cs.length≤12) (h2:w2.cs.length≤12) (b1:w1.b≤12) (b2:w2.b≤12) (L:LessIs w1 w2 z) (q:P (.boo z)):ry [aE r1 w1,aE r2 w2] [] ⟨[],[],0⟩ (fun v _=>P v):=by
 rw [A6,O9]
 have e0:∀ h:w1.n<w2.n,decide (Int.ofNat w2.n≤Int.ofNat w1.n)=false:=fun h=>QR fun z=>by exact absurd h (QT (Int.ofNat_le.mp z))
 have e1:¬ (w1.cs.length≤1∧w2.cs.length≤1)→∀ K:Fl→St→Prop,nE.1 (fQ (aE r1 w1) (aE r2 w2) []) K=K .next (fQ (aE r1 w1) (aE r2 w2) []):=fun h K=>by
  rw [Mw]
  cases y1:Nat.ble w1.cs.length 1 with
  | false=>rfl
  | true=>
   cases y2:Nat.ble w2.cs.length 1 with
   | false=>rfl
   | true=>exact absurd ⟨QD y1,QD y2⟩ h
 have hN:zN w1 w2≤13:=Kh h1 h2 b1 b2
 have e4:∀ K:Fl→St→Prop,nH.1 (fQ (aE r1 w1) (aE r2 w2) [(2,vI (zN w1 w2))]) K=bW (iJ 2 1 (zN w1 w2 - 1)) (gJ 3) oW 60 0 (fQ (aE r1 w1) (aE r2 w2) [(2,vI (zN w1 w2))]) K:=fun K=>by
  have m:zN w1 w2∈Od:=by
   exact Fp _ (Nat.lt_succ_of_le hN) (Nat.succ_pos _)
  exact Q9 (Q9 (Q9 (aV Pc _ m) _) _) K
 cases L with
 | far h=>
  have:decide (Int.ofNat w2.n≤Int.ofNat w1.n)=true:=QS (Int.ofNat_le.mpr h)
  rw [this]
  dsimp only
  rw [gp,gp,gp,qV]
  exact q
 | plain h k1 k2=>
  rw [e0 h]
  dsimp only
  rw [bY,Mw,QQ k1,QQ k2]
  dsimp only
  rw [gp,gp,qV]
  have:decide (Int.ofNat w1.nt≤Int.ofNat w2.nt)=decide (w1.nt≤w2.nt):=by simp
  rw [this]
  exact q
 | all h h0 H=>
  rw [e0 h]
  dsimp only
  rw [bY,e1 h0,bY]
  refine w6 h1 h2 ?_
  rw [bY,e4]
  exact w8 h1 h2 hN (fun ts h _=>H ts h) (fun tail _=>by rw [FC]; exact q) (zN w1 w2 - 1) 60 0 [] (Nat.zero_add _) (Rb (Nat.sub_le _ _) (Rb hN (by decide))) (.inl rfl)
 | two h h0 H=>
  rw [e0 h]
  dsimp only
  rw [bY,e1 h0,bY]
  refine w6 h1 h2 ?_
  rw [bY,e4]
  have:2≤zN w1 w2:=Ca h0
  refine si (Nat.le_sub_of_add_le this) (.inl rfl) (w7 h1 h2 (by decide) (by decide) ?_)
  rw [show (2+0:Nat)=2 from rfl,QQ H]
  dsimp only
  rw [qV]
  exact q
theorem E9 (g:GA) (ok:(Gk g).Ok) (ba:Bare g):FN (Gk g) 2 227 [] eW:=by
 refine (EU g ok ba).mono fun vs kvs σ Q y_=>?_
 apply bc;intro z_
 obtain ⟨r1,r2,w1,w2,z,e1,e2,h1,h2,b1,b2,L,q⟩:=y_
 apply z_;clear z_
 subst e1 e2
 have hp:aM [aE r1 w1,aE r2 w2]=true:=bC (fm r1 w1) (bC (fm r2 w2) rfl)
 unfold cj
 rw [hp]
 exact AX (P:=fun v=>match bG v with
  | true=>Q v σ
  | false=>False) h1 h2 b1 b2 L q
noncomputable def Gd:List (Str×NameKind):=[((tS "self"),.local),((tS "value"),.local),((tS "name"),.local),((tS "regex"),.local),((tS "type"),.globalImplicit),((tS "str"),.globalImplicit),((tS "_name_disallowed_re"),.globalImplicit),((tS "_value_disallowed_re"),.globalImplicit),((tS "ValueError"),.globalImplicit),((tS "AssertionError"),.globalImplicit),((tS "repr"),.globalImplicit)]
noncomputable def hO:Sc:=⟨Gd,true,272,(tS "Headers._convert_string_type.<locals>.")⟩
theorem kP:NamesOk hO:=by unfold NamesOk; kernel_rfl
noncomputable def qm:FuncData:=dE (cG P0 273) default
noncomputable def iy:List PySem.Stmt:=aX (some qm)
noncomputable abbrev xe:=ac iy
theorem GL (g:GA):FnOk (Gk g) 273 qm iy hO:=FnOk.of (by kernel_rfl) (by kernel_rfl)
theorem LA (g:GA):Bltin (Gk g) (tS "type") (.type "type"):=⟨by kernel_rfl,by decide,PyProof.Rows.Boot.«type»,by kernel_rfl⟩
theorem D2 (g:GA):Bltin (Gk g) (tS "str") (.type "str"):=⟨by kernel_rfl,by decide,PyProof.Rows.Boot.«str»,by kernel_rfl⟩
theorem LF:dc (tS "_name_disallowed_re"):=by kernel_rfl
theorem OM (P:Params):nsIn (KK P) mainGlobals (tS "_name_disallowed_re")=some (some (.ref 246)):=by kernel_rfl
theorem LG:dc (tS "_value_disallowed_re"):=by kernel_rfl
theorem ON (P:Params):nsIn (KK P) mainGlobals (tS "_value_disallowed_re")=some (some (.ref 251)):=by kernel_rfl
noncomputable def Ig:ax 0 hO (ac (cD (xe 0)) 0):=⟨_,fun g ok ba=>(@aB _ _ _ 3 _ _ _ _ _ (@gK _ _ _ _ _ _ _ _ _ _ (@bZ _ _ _ _ _ (@aa _ _ _ 2 _ _ _ kP rfl rfl) (fun _ _=>rfl)) (@uV _ _ _ 6 _ _ _ ok LF rfl (OM _)) (@uV _ _ _ 7 _ _ _ ok LG rfl (ON _))) rfl rfl)⟩
noncomputable def Ih:ax 0 hO (ac (cD (xe 0)) 1):=⟨_,fun g ok ba=>(@bL _ _ _ _ _ _ _ _ _ _ (@bZ _ _ _ _ _ (@al _ _ _ _ _ _ _ _ _ _ (@uR _ _ _ _ _ _ _ ok (Nf g) (@aa _ _ _ 3 _ _ _ kP rfl rfl)) (@aA _ _ _ _ _ _ _ (@aa _ _ _ 1 _ _ _ kP rfl rfl) ab rfl) (fun _=>rfl) rfl rfl rfl) (fun _ _=>rfl)) cu ai)⟩
noncomputable def Ii:ax 0 hO (ac (cD (xe 0)) 2):=⟨_,fun g ok ba=>(@aF _ _ _ _ _ _ (@aa _ _ _ 1 _ _ _ kP rfl rfl))⟩
noncomputable def Ij:ax 0 hO (xe 0):=⟨_,fun g ok ba=>(@bL _ _ _ _ _ _ _ _ _ _ (@aY _ _ _ _ _ _ _ _ _ (@ar _ _ _ _ _ _ _ _ _ (@az _ _ _ _ 4 _ _ _ _ ok rfl (LA g) uu) (@aA _ _ _ _ _ _ _ (@aa _ _ _ 1 _ _ _ kP rfl rfl) ab rfl) rfl) (@K9 _ _ _ 5 _ _ _ ok rfl (D2 g)) rfl) (@aL _ _ _ (cD (xe 0)) 3 _ (by kernel_rfl) (@ay _ _ _ _ _ Ig g ok ba (@ay _ _ _ _ _ Ih g ok ba (@ay _ _ _ _ _ Ii g ok ba ai)))) ai)⟩
noncomputable def xR:(D:List V→List V→DE) ×' (∀ g:GA,(Gk g).Ok→Bare g→FN (Gk g) 1 273 [(tS "name")] D):=⟨_,fun g ok ba=>aQ (lv:=0) (fd:=qm) (body:=iy) (sc:=hO) ok (GL g) (@aI _ _ _ _ 2 [(0,.pos 0),(1,.pos 1),(2,.kw 0)] [(tS "self"),(tS "value"),(tS "name")] ok rfl (aS rfl) (au (by kernel_rfl)) (bj rfl) (fun h vals kvals X h1 h2=>by obtain ⟨u0,u1,rfl⟩:=jQ h1; obtain ⟨w0,rfl⟩:=ji h2; exact Looks.of_peek (K:=KK g.w.params) X (by kernel_rfl))) (@Lm _ _ _ iy 1 _ (by kernel_rfl) (@ay _ _ _ _ _ Ij g ok ba cu))⟩
noncomputable def n7:List V→List V→DE:=xR.1
theorem ED (g:GA) (ok:(Gk g).Ok) (ba:Bare g):FN (Gk g) 1 273 [(tS "name")] n7:=xR.2 g ok ba
theorem EV (g:GA) (ok:(Gk g).Ok) (ba:Bare g):FN (Gk g) 1 273 [(tS "name")] (cj n7):=FN.apart ba.gn fun hp=>ED {g with gn:=AllBare,hp:=hp} (ok.pv AllBare hp) ⟨rfl⟩
noncomputable def sP (s:List Nat):Bool:=gM s dC
theorem zG {s:List Nat} (h:sP s=true):s∈dC:=by
 unfold sP at h; rw [cF] at h; exact List.contains_iff_mem.mp h
noncomputable def LD (P:V→Prop) (b:Bool) (s:List Nat):Prop:=n7 [.junk,.str s] [.boo b] ⟨[],[],0⟩ (fun v _=>P v)
noncomputable def vH (vs kvs:List V):Option V:=match vs with
 | []=>none
 | u::r=>(Bh r).bind fun v=>(Bh kvs).bind fun k=>(LB k).bind fun _=>(NC v).bind fun s=>match Ft u && sP s with
  | true=>some (.str s)
  | false=>none
theorem vJ (P:V→Prop) (s:List Nat) (hs:s∈dC) (b:Bool):n7 [.junk,.str s] [.boo b] ⟨[],[],0⟩ (fun v _=>P v)=P (.str s):=
 aV (f:=LD P b) (g:=fun s=>P (.str s)) (l:=dC) (by cases b <;> kernel_rfl) s hs
theorem Ao (vs kvs:List V) (w:V) (h:vH vs kvs=some w):aM vs=true∧aM kvs=true∧bG w=true∧∀ P:V→Prop,n7 vs kvs ⟨[],[],0⟩ (fun v _=>P v)=P w:=by
 apply bc;intro z_
 cases vs with
 | nil=>exact nS h
 | cons u r=>
  obtain ⟨v,h1,h⟩:=Option.bind_eq_some_iff.mp h
  obtain ⟨k,h2,h⟩:=Option.bind_eq_some_iff.mp h
  obtain ⟨b,h3,h⟩:=Option.bind_eq_some_iff.mp h
  obtain ⟨s,h4,h⟩:=Option.bind_eq_some_iff.mp h
  cases q:Ft u && sP s with
  | false=>rw [q] at h; exact nS h
  | true=>
   rw [q] at h
   cases h
   have q:=Bool.and_eq_true_iff.mp q
   cases wQ q.1
   cases kU h1
   cases kU h2
   cases vC h3
   cases zp h4
   apply z_;clear z_
   exact ⟨rfl,rfl,rfl,fun P=>vJ P _ (zG q.2) _⟩
theorem gY (g:GA) (ok:(Gk g).Ok) (ba:Bare g):FN (Gk g) 1 273 [tS "name"] (pV (B7 vH)):=((EV g ok ba).tab Ao).blind
noncomputable def Gc:List (Str×NameKind):=[((tS "self"),.local),((tS "headers"),.local),((tS "k"),.local),((tS "v"),.local),((tS "type"),.globalImplicit),((tS "list"),.globalImplicit),((tS "TypeError"),.globalImplicit),((tS "__debug__"),.globalImplicit)]
noncomputable def gm:Sc:=⟨Gc,true,265,(tS "Headers.__init__.<locals>.")⟩
theorem jn:NamesOk gm:=by unfold NamesOk; kernel_rfl
noncomputable def ql:FuncData:=dE (cG P0 266) default
noncomputable def ix:List PySem.Stmt:=aX (some ql)
noncomputable abbrev tF:=ac ix
theorem GK (g:GA):FnOk (Gk g) 266 ql ix gm:=FnOk.of (by kernel_rfl) (by kernel_rfl)
noncomputable def Ia:ax 0 gm (tF 0):=⟨_,fun g ok ba=>(@aB _ _ _ 1 _ _ _ _ _ (@gK _ _ _ _ _ _ _ _ _ _ (@aY _ _ _ _ _ _ _ _ _ (@aa _ _ _ 1 _ _ _ jn rfl rfl) cZ rfl) (@aa _ _ _ 1 _ _ _ jn rfl rfl) (@b8 _ _ _ _ _ _ ok ab)) rfl rfl)⟩
theorem Ou (g:GA):Bltin (Gk g) (tS "list") (.type "list"):=⟨by kernel_rfl,by decide,PyProof.Rows.Boot.«list»,by kernel_rfl⟩
noncomputable def Ib:ax 0 gm (tF 1):=⟨_,fun g ok ba=>(@bL _ _ _ _ _ _ _ _ _ _ (@aY _ _ _ _ _ _ _ _ _ (@ar _ _ _ _ _ _ _ _ _ (@az _ _ _ _ 4 _ _ _ _ ok rfl (LA g) uu) (@aA _ _ _ _ _ _ _ (@aa _ _ _ 1 _ _ _ jn rfl rfl) ab rfl) rfl) (@K9 _ _ _ 5 _ _ _ ok rfl (Ou g)) rfl) cu ai)⟩
theorem kh (g:GA):(Gk g).an[8]?=some (tS "_headers"):=by kernel_rfl
theorem bP (g:GA):ClsOk (Gk g).K 374:=⟨by kernel_rfl,by kernel_rfl,by kernel_rfl,by kernel_rfl,by kernel_rfl⟩
theorem NM (P:Params):takerIn (KK P) 374 (tS "_headers")=some none:=by kernel_rfl
noncomputable def Ic:ax 0 gm (tF 2):=⟨_,fun g ok ba=>(@bD _ _ _ _ _ _ _ _ _ _ _ 8 (@aa _ _ _ 1 _ _ _ jn rfl rfl) ok (bP g) (kh g) (NM _) (@aa _ _ _ 0 _ _ _ jn rfl rfl) rfl)⟩
noncomputable def Id:ax 0 gm (ac (cD (tF 3)) 0):=⟨_,fun g ok ba=>(@em _ _ _ false _ _ _ _ _ _ _ 60 (@cP _ _ _ _ _ _ ok (@aa _ _ _ 1 _ _ _ jn rfl rfl)) (fun h=>nomatch h) (@cA _ _ _ _ _ _ _ (@aR _ _ _ _ _ _ _ (@aw _ _ _ 2 _ _ _ rfl (.inl rfl)) (@aR _ _ _ _ _ _ _ (@aw _ _ _ 3 _ _ _ rfl (.inl rfl)) dA (fun _=>rfl)) (fun _=>rfl)) (fun _=>rfl) (fun _=>rfl)) cu (fun _ _=>rfl))⟩
noncomputable def Ie:ax 0 gm (tF 3):=⟨_,fun g ok ba=>(@bL _ _ _ _ _ _ _ _ _ _ (@bZ _ _ _ _ _ b7 (fun _ _=>rfl)) (@aL _ _ _ (cD (tF 3)) 1 _ (by kernel_rfl) (@ay _ _ _ _ _ Id g ok ba ai)) ai)⟩
noncomputable def xQ:(D:List V→List V→DE) ×' (∀ g:GA,(Gk g).Ok→Bare g→FN (Gk g) 1 266 [] D):=⟨_,fun g ok ba=>aQ (lv:=0) (fd:=ql) (body:=ix) (sc:=gm) ok (GK g) (@aI _ _ _ _ 1 [(0,.pos 0),(1,.dfl .non .none)] [(tS "self"),(tS "headers")] ok rfl (aS rfl) (au (by kernel_rfl)) (bj rfl) (fun h vals kvals X h1 h2=>by obtain ⟨u0,rfl⟩:=ji h1; obtain rfl:=d5 h2; exact Looks.of_peek (K:=KK g.w.params) X (by kernel_rfl))) (@aL _ _ _ ix 4 _ (by kernel_rfl) (@ay _ _ _ _ _ Ia g ok ba (@ay _ _ _ _ _ Ib g ok ba (@ay _ _ _ _ _ Ic g ok ba (@ay _ _ _ _ _ Ie g ok ba ai)))))⟩
noncomputable def KV:List V→List V→DE:=xQ.1
theorem EC (g:GA) (ok:(Gk g).Ok) (ba:Bare g):FN (Gk g) 1 266 [] KV:=xQ.2 g ok ba
noncomputable def Gg:List (Str×NameKind):=[((tS "self"),.local),((tS "name"),.local),((tS "default"),.local),((tS "k"),.local),((tS "v"),.local)]
noncomputable def eg:Sc:=⟨Gg,true,320,(tS "Headers.get.<locals>.")⟩
theorem dH:NamesOk eg:=by unfold NamesOk; kernel_rfl
noncomputable def mX:FuncData:=dE (cG P0 321) default
noncomputable def fg:List PySem.Stmt:=aX (some mX)
noncomputable abbrev lF:=ac fg
theorem xB (g:GA):FnOk (Gk g) 321 mX fg eg:=FnOk.of (by kernel_rfl) (by kernel_rfl)
theorem ki (g:GA):(Gk g).an[9]?=some (tS "_convert_string_type"):=by kernel_rfl
theorem kI (P:Params):findIn (KK P) (.ref 374) (tS "_convert_string_type")=some (some (.ref 273)):=by kernel_rfl
theorem lu (P:Params):typeIn (KK P) (.ref 273)=some (.type "function"):=by kernel_rfl
noncomputable def Ip:ax 1 eg (lF 0):=⟨_,fun g ok ba=>(@aB _ _ _ 1 _ _ _ _ _ (@fS _ _ _ _ _ _ _ _ _ _ _ _ _ (@dB _ _ _ _ _ _ _ 9 _ _ _ ok (bP g) (ki g) (kI _) (lu _) (@aa _ _ _ 0 _ _ _ dH rfl rfl) (@CB.up _ _ _ _ _ _ (@FN.cb _ _ _ _ _ ok (gY g ok ba)) rfl)) (@aA _ _ _ _ _ _ _ (@dz _ _ _ _ _ (@al _ _ _ _ _ _ _ _ _ _ (@dX _ _ _ _ _ (@aa _ _ _ 1 _ _ _ dH rfl rfl)) ab (fun _=>rfl) rfl rfl rfl)) ab rfl) (@fT _ _ _ _ _ _ _ _ _ b7 eP) (fun _=>rfl) rfl (fun _ _=>rfl) (fun _ _=>rfl) (fun _ _=>rfl) (fun _ _=>rfl)) rfl rfl)⟩
theorem l5 (P:Params):findIn (KK P) (.ref 374) (tS "_headers")=some none:=by kernel_rfl
noncomputable def Iq:ax 1 eg (ac (cw (lF 1)) 0):=⟨_,fun g ok ba=>(@bL _ _ _ _ _ _ _ _ _ _ (@aY _ _ _ _ _ _ _ _ _ (@dz _ _ _ _ _ (@al _ _ _ _ _ _ _ _ _ _ (@dX _ _ _ _ _ (@aa _ _ _ 3 _ _ _ dH rfl rfl)) ab (fun _=>rfl) rfl rfl rfl)) (@aa _ _ _ 1 _ _ _ dH rfl rfl) rfl) (@cr _ _ _ _ _ _ _ (@aF _ _ _ _ _ _ (@aa _ _ _ 4 _ _ _ dH rfl rfl)) ai) ai)⟩
noncomputable def Ir:ax 1 eg (lF 1):=⟨_,fun g ok ba=>(@em _ _ _ false _ _ _ _ _ _ _ 60 (@cP _ _ _ _ _ _ ok (@aU _ _ _ _ _ _ _ _ 8 ok (bP g) (kh g) (l5 _) (@aa _ _ _ 0 _ _ _ dH rfl rfl) (fun _=>rfl))) (fun h=>nomatch h) (@cA _ _ _ _ _ _ _ (@aR _ _ _ _ _ _ _ (@aw _ _ _ 3 _ _ _ rfl (.inl rfl)) (@aR _ _ _ _ _ _ _ (@aw _ _ _ 4 _ _ _ rfl (.inl rfl)) dA (fun _=>rfl)) (fun _=>rfl)) (fun _=>rfl) (fun _=>rfl)) (@aL _ _ _ (cw (lF 1)) 1 _ (by kernel_rfl) (@ay _ _ _ _ _ Iq g ok ba ai)) (fun _ _=>rfl))⟩
noncomputable def It:ax 1 eg (lF 2):=⟨_,fun g ok ba=>(@aF _ _ _ _ _ _ (@aa _ _ _ 2 _ _ _ dH rfl rfl))⟩
noncomputable def xU:(D:List V→List V→DE) ×' (∀ g:GA,(Gk g).Ok→Bare g→FN (Gk g) 2 321 [] D):=⟨_,fun g ok ba=>aQ (lv:=1) (fd:=mX) (body:=fg) (sc:=eg) ok (xB g) (@aI _ _ _ _ 2 [(0,.pos 0),(1,.pos 1),(2,.dfl .non .none)] [(tS "self"),(tS "name"),(tS "default")] ok rfl (aS rfl) (au (by kernel_rfl)) (bj rfl) (fun h vals kvals X h1 h2=>by obtain ⟨u0,u1,rfl⟩:=jQ h1; obtain rfl:=d5 h2; exact Looks.of_peek (K:=KK g.w.params) X (by kernel_rfl))) (@aL _ _ _ fg 3 _ (by kernel_rfl) (@ay _ _ _ _ _ Ip g ok ba (@ay _ _ _ _ _ Ir g ok ba (@ay _ _ _ _ _ It g ok ba ai))))⟩
noncomputable def KZ:List V→List V→DE:=xU.1
theorem m3 (g:GA) (ok:(Gk g).Ok) (ba:Bare g):FN (Gk g) 2 321 [] KZ:=xU.2 g ok ba
noncomputable def BG:ax 1 eg (lF 0):=⟨_,fun g ok ba=>(@aB _ _ _ 1 _ _ _ _ _ (@fS _ _ _ _ _ _ _ _ _ _ _ _ _ (@dB _ _ _ _ _ _ _ 9 _ _ _ ok (bP g) (ki g) (kI _) (lu _) (@aa _ _ _ 0 _ _ _ dH rfl rfl) (@CB.up _ _ _ _ _ _ (@FN.cb _ _ _ _ _ ok (gY g ok ba)) rfl)) (@aA _ _ _ _ _ _ _ (@dz _ _ _ _ _ (@al _ _ _ _ _ _ _ _ _ _ (@dX _ _ _ _ _ (@aa _ _ _ 1 _ _ _ dH rfl rfl)) ab (fun _=>rfl) rfl rfl rfl)) ab rfl) (@fT _ _ _ _ _ _ _ _ _ b7 eP) (fun _=>rfl) rfl (fun _ _=>rfl) (fun _ _=>rfl) (fun _ _=>rfl) (fun _ _=>rfl)) rfl rfl)⟩
noncomputable def BH:ax 1 eg (ac (cw (lF 1)) 0):=⟨_,fun g ok ba=>(@bL _ _ _ _ _ _ _ _ _ _ (@aY _ _ _ _ _ _ _ _ _ (@dz _ _ _ _ _ (@al _ _ _ _ _ _ _ _ _ _ (@dX _ _ _ _ _ (@aa _ _ _ 3 _ _ _ dH rfl rfl)) ab (fun _=>rfl) rfl rfl rfl)) (@aa _ _ _ 1 _ _ _ dH rfl rfl) rfl) (@cr _ _ _ _ _ _ _ (@aF _ _ _ _ _ _ (@aa _ _ _ 4 _ _ _ dH rfl rfl)) ai) ai)⟩
noncomputable def BI:ax 1 eg (lF 1):=⟨_,fun g ok ba=>(@em _ _ _ false _ _ _ _ _ _ _ 60 (@cP _ _ _ _ _ _ ok (@aU _ _ _ _ _ _ _ _ 8 ok (bP g) (kh g) (l5 _) (@aa _ _ _ 0 _ _ _ dH rfl rfl) (fun _=>rfl))) (fun h=>nomatch h) (@cA _ _ _ _ _ _ _ (@aR _ _ _ _ _ _ _ (@aw _ _ _ 3 _ _ _ rfl (.inl rfl)) (@aR _ _ _ _ _ _ _ (@aw _ _ _ 4 _ _ _ rfl (.inl rfl)) dA (fun _=>rfl)) (fun _=>rfl)) (fun _=>rfl) (fun _=>rfl)) (@aL _ _ _ (cw (lF 1)) 1 _ (by kernel_rfl) (@ay _ _ _ _ _ BH g ok ba ai)) (fun _ _=>rfl))⟩
noncomputable def BJ:ax 1 eg (lF 2):=⟨_,fun g ok ba=>(@aF _ _ _ _ _ _ (@aa _ _ _ 2 _ _ _ dH rfl rfl))⟩
noncomputable def sq:(D:List V→List V→DE) ×' (∀ g:GA,(Gk g).Ok→Bare g→FN (Gk g) 2 321 [] D):=⟨_,fun g ok ba=>aQ (lv:=1) (fd:=mX) (body:=fg) (sc:=eg) ok (xB g) (@aI _ _ _ _ 3 [(0,.pos 0),(1,.pos 1),(2,.pos 2)] [(tS "self"),(tS "name"),(tS "default")] ok rfl (aS rfl) (au (by kernel_rfl)) (bj rfl) (fun h vals kvals X h1 h2=>by obtain ⟨u0,u1,u2,rfl⟩:=AW h1; obtain rfl:=d5 h2; exact Looks.of_peek (K:=KK g.w.params) X (by kernel_rfl))) (@aL _ _ _ fg 3 _ (by kernel_rfl) (@ay _ _ _ _ _ BG g ok ba (@ay _ _ _ _ _ BI g ok ba (@ay _ _ _ _ _ BJ g ok ba ai))))⟩
noncomputable def Dr:List V→List V→DE:=sq.1
theorem rX (g:GA) (ok:(Gk g).Ok) (ba:Bare g):FN (Gk g) 2 321 [] Dr:=sq.2 g ok ba
noncomputable def Gh:List (Str×NameKind):=[((tS "self"),.local),((tS "name"),.local),((tS "value"),.local),((tS "result"),.local)]
noncomputable def hU:Sc:=⟨Gh,true,363,(tS "Headers.setdefault.<locals>.")⟩
theorem eZ:NamesOk hU:=by unfold NamesOk; kernel_rfl
noncomputable def qr:FuncData:=dE (cG P0 364) default
noncomputable def iB:List PySem.Stmt:=aX (some qr)
noncomputable abbrev xf:=ac iB
theorem GO (g:GA):FnOk (Gk g) 364 qr iB hU:=FnOk.of (by kernel_rfl) (by kernel_rfl)
theorem lR (g:GA):(Gk g).an[10]?=some (tS "get"):=by kernel_rfl
theorem mi (P:Params):findIn (KK P) (.ref 374) (tS "get")=some (some (.ref 321)):=by kernel_rfl
theorem mF (P:Params):typeIn (KK P) (.ref 321)=some (.type "function"):=by kernel_rfl
noncomputable def Iu:ax 2 hU (xf 0):=⟨_,fun g ok ba=>(@aB _ _ _ 3 _ _ _ _ _ (@al _ _ _ _ _ _ _ _ _ _ (@dB _ _ _ _ _ _ _ 10 _ _ _ ok (bP g) (lR g) (mi _) (mF _) (@aa _ _ _ 0 _ _ _ eZ rfl rfl) (@CB.up _ _ _ _ _ _ (@FN.cb _ _ _ _ _ ok (m3 g ok ba)) rfl)) (@aA _ _ _ _ _ _ _ (@aa _ _ _ 1 _ _ _ eZ rfl rfl) ab rfl) (fun _=>rfl) rfl rfl rfl) rfl rfl)⟩
noncomputable def Iv:ax 2 hU (ac (cD (xf 1)) 0):=⟨_,fun g ok ba=>(@bH _ _ _ _ _ _ (@al _ _ _ _ _ _ _ _ _ _ (@cg _ _ _ _ _ (@aU _ _ _ _ _ _ _ _ 8 ok (bP g) (kh g) (l5 _) (@aa _ _ _ 0 _ _ _ eZ rfl rfl) (fun _=>rfl))) (@aA _ _ _ _ _ _ _ (@bA _ _ _ _ _ _ _ ok (@aA _ _ _ _ _ _ _ (@fS _ _ _ _ _ _ _ _ _ _ _ _ _ (@dB _ _ _ _ _ _ _ 9 _ _ _ ok (bP g) (ki g) (kI _) (lu _) (@aa _ _ _ 0 _ _ _ eZ rfl rfl) (@CB.up _ _ _ _ _ _ (@FN.cb _ _ _ _ _ ok (gY g ok ba)) rfl)) (@aA _ _ _ _ _ _ _ (@aa _ _ _ 1 _ _ _ eZ rfl rfl) ab rfl) (@fT _ _ _ _ _ _ _ _ _ b7 eP) (fun _=>rfl) rfl (fun _ _=>rfl) (fun _ _=>rfl) (fun _ _=>rfl) (fun _ _=>rfl)) (@aA _ _ _ _ _ _ _ (@fS _ _ _ _ _ _ _ _ _ _ _ _ _ (@dB _ _ _ _ _ _ _ 9 _ _ _ ok (bP g) (ki g) (kI _) (lu _) (@aa _ _ _ 0 _ _ _ eZ rfl rfl) (@CB.up _ _ _ _ _ _ (@FN.cb _ _ _ _ _ ok (gY g ok ba)) rfl)) (@aA _ _ _ _ _ _ _ (@aa _ _ _ 2 _ _ _ eZ rfl rfl) ab rfl) (@fT _ _ _ _ _ _ _ _ _ b7 eP) (fun _=>rfl) rfl (fun _ _=>rfl) (fun _ _=>rfl) (fun _ _=>rfl) (fun _ _=>rfl)) ab rfl) rfl) (by decide)) ab rfl) (fun _=>rfl) rfl rfl rfl) (fun _=>rfl))⟩
noncomputable def Iw:ax 2 hU (ac (cD (xf 1)) 1):=⟨_,fun g ok ba=>(@aF _ _ _ _ _ _ (@aa _ _ _ 2 _ _ _ eZ rfl rfl))⟩
noncomputable def Ix:ax 2 hU (xf 1):=⟨_,fun g ok ba=>(@bL _ _ _ _ _ _ _ _ _ _ (@aY _ _ _ _ _ _ _ _ _ (@aa _ _ _ 3 _ _ _ eZ rfl rfl) cZ rfl) (@aL _ _ _ (cD (xf 1)) 2 _ (by kernel_rfl) (@ay _ _ _ _ _ Iv g ok ba (@ay _ _ _ _ _ Iw g ok ba ai))) (@cr _ _ _ _ _ _ _ (@aF _ _ _ _ _ _ (@aa _ _ _ 3 _ _ _ eZ rfl rfl)) ai))⟩
noncomputable def xV:(D:List V→List V→DE) ×' (∀ g:GA,(Gk g).Ok→Bare g→FN (Gk g) 3 364 [] D):=⟨_,fun g ok ba=>aQ (lv:=2) (fd:=qr) (body:=iB) (sc:=hU) ok (GO g) (@aI _ _ _ _ 3 [(0,.pos 0),(1,.pos 1),(2,.pos 2)] [(tS "self"),(tS "name"),(tS "value")] ok rfl (aS rfl) (au (by kernel_rfl)) (bj rfl) (fun h vals kvals X h1 h2=>by obtain ⟨u0,u1,u2,rfl⟩:=AW h1; obtain rfl:=d5 h2; exact Looks.of_peek (K:=KK g.w.params) X (by kernel_rfl))) (@aL _ _ _ iB 2 _ (by kernel_rfl) (@ay _ _ _ _ _ Iu g ok ba (@ay _ _ _ _ _ Ix g ok ba ai)))⟩
noncomputable def K0:List V→List V→DE:=xV.1
theorem wh (g:GA) (ok:(Gk g).Ok) (ba:Bare g):FN (Gk g) 3 364 [] K0:=xV.2 g ok ba
noncomputable def Gf:List (Str×NameKind):=[((tS "self"),.local),((tS "name"),.cell)]
noncomputable def lj:Sc:=⟨Gf,true,291,(tS "Headers.__delitem__.<locals>.")⟩
theorem nj:NamesOk lj:=by unfold NamesOk; kernel_rfl
noncomputable def qq:FuncData:=dE (cG P0 292) default
noncomputable def iA:List PySem.Stmt:=aX (some qq)
noncomputable abbrev MH:=ac iA
theorem GN (g:GA):FnOk (Gk g) 292 qq iA lj:=FnOk.of (by kernel_rfl) (by kernel_rfl)
noncomputable def Im:ax 1 lj (MH 0):=⟨_,fun g ok ba=>(@bF _ _ _ _ _ _ _ _ (@fS _ _ _ _ _ _ _ _ _ _ _ _ _ (@dB _ _ _ _ _ _ _ 9 _ _ _ ok (bP g) (ki g) (kI _) (lu _) (@aa _ _ _ 0 _ _ _ nj rfl rfl) (@CB.up _ _ _ _ _ _ (@FN.cb _ _ _ _ _ ok (gY g ok ba)) rfl)) (@aA _ _ _ _ _ _ _ (@dz _ _ _ _ _ (@al _ _ _ _ _ _ _ _ _ _ (@dX _ _ _ _ _ (@aa _ _ _ 1 _ _ _ nj rfl rfl)) ab (fun _=>rfl) rfl rfl rfl)) ab rfl) (@fT _ _ _ _ _ _ _ _ _ b7 eP) (fun _=>rfl) rfl (fun _ _=>rfl) (fun _ _=>rfl) (fun _ _=>rfl) (fun _ _=>rfl)) (@cn _ _ _ _ _ (@aw _ _ _ 1 _ _ _ rfl (.inr ⟨rfl,rfl⟩)) (fun _=>rfl)) (fun _=>rfl) (fun _ _=>rfl))⟩
noncomputable def xm:List (Str×NameKind):=[((tS ".0"),.local),((tS "kv"),.local),((tS "name"),.cell)]
noncomputable def pA:Sc:=⟨xm,false,0,(tS "")⟩
theorem kQ:NamesOk pA:=by unfold NamesOk; kernel_rfl
noncomputable def Io:ax 1 lj (MH 1):=⟨_,fun g ok ba=>(@lP _ _ _ _ _ _ _ _ (@cY _ _ _ pA false _ _ _ _ _ _ _ _ _ _ ok (@CompOk.of _ _ _ [(2,1)] (by kernel_rfl)) (@cP _ _ _ _ _ _ ok (@aU _ _ _ _ _ _ _ _ 8 ok (bP g) (kh g) (l5 _) (@aa _ _ _ 0 _ _ _ nj rfl rfl) (fun _=>rfl))) (fun _ _=>rfl) (@cT _ _ _ _ _ _ _ _ _ _ _ _ _ 60 (fun h=>nomatch h) (@aw _ _ _ 1 _ _ _ rfl (.inl rfl)) (@mK _ _ _ _ _ (@aY _ _ _ _ _ _ _ _ _ (@dz _ _ _ _ _ (@al _ _ _ _ _ _ _ _ _ _ (@dX _ _ _ _ _ (@a9 _ _ _ _ _ _ _ _ ok (@aa _ _ _ 1 _ _ _ kQ rfl rfl) aq)) ab (fun _=>rfl) rfl rfl rfl)) (@aa _ _ _ 2 _ _ _ kQ rfl rfl) rfl)) (@aa _ _ _ 1 _ _ _ kQ rfl rfl))) (@cn _ _ _ _ _ (@K4 _ _ _ _ _ _ _ ok (@aU _ _ _ _ _ _ _ _ 8 ok (bP g) (kh g) (l5 _) (@aa _ _ _ 0 _ _ _ nj rfl rfl) (fun _=>rfl))) (fun _=>rfl)) (fun _ _=>rfl) (fun _ _=>rfl))⟩
noncomputable def xT:(D:List V→List V→DE) ×' (∀ g:GA,(Gk g).Ok→Bare g→FN (Gk g) 2 292 [] D):=⟨_,fun g ok ba=>aQ (lv:=1) (fd:=qq) (body:=iA) (sc:=lj) ok (GN g) (@aI _ _ _ _ 2 [(0,.pos 0),(1,.pos 1)] [(tS "self"),(tS "name")] ok rfl (aS rfl) (au (by kernel_rfl)) (bj rfl) (fun h vals kvals X h1 h2=>by obtain ⟨u0,u1,rfl⟩:=jQ h1; obtain rfl:=d5 h2; exact Looks.of_peek (K:=KK g.w.params) X (by kernel_rfl))) (@aL _ _ _ iA 2 _ (by kernel_rfl) (@ay _ _ _ _ _ Im g ok ba (@ay _ _ _ _ _ Io g ok ba ai)))⟩
noncomputable def KY:List V→List V→DE:=xT.1
theorem EF (g:GA) (ok:(Gk g).Ok) (ba:Bare g):FN (Gk g) 2 292 [] KY:=xT.2 g ok ba
noncomputable def Ge:List (Str×NameKind):=[((tS "self"),.local),((tS "name"),.local),((tS "val"),.local)]
noncomputable def li:Sc:=⟨Ge,true,286,(tS "Headers.__setitem__.<locals>.")⟩
theorem g9:NamesOk li:=by unfold NamesOk; kernel_rfl
noncomputable def qp:FuncData:=dE (cG P0 287) default
noncomputable def iz:List PySem.Stmt:=aX (some qp)
noncomputable abbrev MG:=ac iz
theorem GM (g:GA):FnOk (Gk g) 287 qp iz li:=FnOk.of (by kernel_rfl) (by kernel_rfl)
theorem My (P:Params):findIn (KK P) (.ref 374) (tS "__delitem__")=some (some (.ref 292)):=by kernel_rfl
theorem N6 (P:Params):typeIn (KK P) (.ref 292)=some (.type "function"):=by kernel_rfl
noncomputable def Ik:ax 2 li (MG 0):=⟨_,fun g ok ba=>(@uY _ _ _ _ _ _ _ _ _ _ 374 _ ok (by kernel_rfl) (My _) (N6 _) (@aa _ _ _ 0 _ _ _ g9 rfl rfl) (@aa _ _ _ 1 _ _ _ g9 rfl rfl) (@CB.up _ _ _ _ _ _ (@FN.cb _ _ _ _ _ ok (EF g ok ba)) rfl))⟩
noncomputable def Il:ax 2 li (MG 1):=⟨_,fun g ok ba=>(@bH _ _ _ _ _ _ (@al _ _ _ _ _ _ _ _ _ _ (@cg _ _ _ _ _ (@aU _ _ _ _ _ _ _ _ 8 ok (bP g) (kh g) (l5 _) (@aa _ _ _ 0 _ _ _ g9 rfl rfl) (fun _=>rfl))) (@aA _ _ _ _ _ _ _ (@bA _ _ _ _ _ _ _ ok (@aA _ _ _ _ _ _ _ (@fS _ _ _ _ _ _ _ _ _ _ _ _ _ (@dB _ _ _ _ _ _ _ 9 _ _ _ ok (bP g) (ki g) (kI _) (lu _) (@aa _ _ _ 0 _ _ _ g9 rfl rfl) (@CB.up _ _ _ _ _ _ (@FN.cb _ _ _ _ _ ok (gY g ok ba)) rfl)) (@aA _ _ _ _ _ _ _ (@aa _ _ _ 1 _ _ _ g9 rfl rfl) ab rfl) (@fT _ _ _ _ _ _ _ _ _ b7 eP) (fun _=>rfl) rfl (fun _ _=>rfl) (fun _ _=>rfl) (fun _ _=>rfl) (fun _ _=>rfl)) (@aA _ _ _ _ _ _ _ (@fS _ _ _ _ _ _ _ _ _ _ _ _ _ (@dB _ _ _ _ _ _ _ 9 _ _ _ ok (bP g) (ki g) (kI _) (lu _) (@aa _ _ _ 0 _ _ _ g9 rfl rfl) (@CB.up _ _ _ _ _ _ (@FN.cb _ _ _ _ _ ok (gY g ok ba)) rfl)) (@aA _ _ _ _ _ _ _ (@aa _ _ _ 2 _ _ _ g9 rfl rfl) ab rfl) (@fT _ _ _ _ _ _ _ _ _ b7 eP) (fun _=>rfl) rfl (fun _ _=>rfl) (fun _ _=>rfl) (fun _ _=>rfl) (fun _ _=>rfl)) ab rfl) rfl) (by decide)) ab rfl) (fun _=>rfl) rfl rfl rfl) (fun _=>rfl))⟩
noncomputable def xS:(D:List V→List V→DE) ×' (∀ g:GA,(Gk g).Ok→Bare g→FN (Gk g) 3 287 [] D):=⟨_,fun g ok ba=>aQ (lv:=2) (fd:=qp) (body:=iz) (sc:=li) ok (GM g) (@aI _ _ _ _ 3 [(0,.pos 0),(1,.pos 1),(2,.pos 2)] [(tS "self"),(tS "name"),(tS "val")] ok rfl (aS rfl) (au (by kernel_rfl)) (bj rfl) (fun h vals kvals X h1 h2=>by obtain ⟨u0,u1,u2,rfl⟩:=AW h1; obtain rfl:=d5 h2; exact Looks.of_peek (K:=KK g.w.params) X (by kernel_rfl))) (@aL _ _ _ iz 2 _ (by kernel_rfl) (@ay _ _ _ _ _ Ik g ok ba (@ay _ _ _ _ _ Il g ok ba ai)))⟩
noncomputable def KW:List V→List V→DE:=xS.1
theorem EE (g:GA) (ok:(Gk g).Ok) (ba:Bare g):FN (Gk g) 3 287 [] KW:=xS.2 g ok ba
noncomputable def MI:List (Str×NameKind):=[((tS "self"),.local),((tS "write"),.local),((tS "with_comments"),.local),((tS "strip_text"),.local),((tS "rewrite_prefixes"),.local),((tS "qname_aware_tags"),.local),((tS "qname_aware_attrs"),.local),((tS "exclude_attrs"),.local),((tS "exclude_tags"),.local),((tS "set"),.globalImplicit),((tS "list"),.globalImplicit),((tS "_namespace_map"),.globalImplicit)]
noncomputable def cC:Sc:=⟨MI,true,66,(tS "C14NWriterTarget.__init__.<locals>.")⟩
theorem bX:NamesOk cC:=by unfold NamesOk; kernel_rfl
noncomputable def v4:FuncData:=dE (cG P0 67) default
noncomputable def jW:List PySem.Stmt:=aX (some v4)
noncomputable abbrev kL:=ac jW
theorem ML (g:GA):FnOk (Gk g) 67 v4 jW cC:=FnOk.of (by kernel_rfl) (by kernel_rfl)
theorem vh (g:GA):(Gk g).an[12]?=some (tS "_write"):=by kernel_rfl
theorem aC (g:GA):ClsOk (Gk g).K 150:=⟨by kernel_rfl,by kernel_rfl,by kernel_rfl,by kernel_rfl,by kernel_rfl⟩
theorem NN (P:Params):takerIn (KK P) 150 (tS "_write")=some none:=by kernel_rfl
noncomputable def MU:ax 0 cC (kL 0):=⟨_,fun g ok ba=>(@bD _ _ _ _ _ _ _ _ _ _ _ 12 (@aa _ _ _ 1 _ _ _ bX rfl rfl) ok (aC g) (vh g) (NN _) (@aa _ _ _ 0 _ _ _ bX rfl rfl) rfl)⟩
theorem vj (g:GA):(Gk g).an[13]?=some (tS "_data"):=by kernel_rfl
theorem NO (P:Params):takerIn (KK P) 150 (tS "_data")=some none:=by kernel_rfl
noncomputable def MV:ax 0 cC (kL 1):=⟨_,fun g ok ba=>(@bD _ _ _ _ _ _ _ _ _ _ _ 13 (@b8 _ _ _ _ _ _ ok ab) ok (aC g) (vj g) (NO _) (@aa _ _ _ 0 _ _ _ bX rfl rfl) rfl)⟩
theorem Lr (g:GA):(Gk g).an[14]?=some (tS "_with_comments"):=by kernel_rfl
theorem NP (P:Params):takerIn (KK P) 150 (tS "_with_comments")=some none:=by kernel_rfl
noncomputable def MW:ax 0 cC (kL 2):=⟨_,fun g ok ba=>(@bD _ _ _ _ _ _ _ _ _ _ _ 14 (@aa _ _ _ 2 _ _ _ bX rfl rfl) ok (aC g) (Lr g) (NP _) (@aa _ _ _ 0 _ _ _ bX rfl rfl) rfl)⟩
theorem Ls (g:GA):(Gk g).an[15]?=some (tS "_strip_text"):=by kernel_rfl
theorem NQ (P:Params):takerIn (KK P) 150 (tS "_strip_text")=some none:=by kernel_rfl
noncomputable def MX:ax 0 cC (kL 3):=⟨_,fun g ok ba=>(@bD _ _ _ _ _ _ _ _ _ _ _ 15 (@aa _ _ _ 3 _ _ _ bX rfl rfl) ok (aC g) (Ls g) (NQ _) (@aa _ _ _ 0 _ _ _ bX rfl rfl) rfl)⟩
theorem Cx (g:GA):(Gk g).an[16]?=some (tS "_exclude_attrs"):=by kernel_rfl
theorem NR (P:Params):takerIn (KK P) 150 (tS "_exclude_attrs")=some none:=by kernel_rfl
noncomputable def MY:ax 0 cC (kL 4):=⟨_,fun g ok ba=>(@bD _ _ _ _ _ _ _ _ _ _ _ 16 (@gK _ _ _ _ _ _ _ _ _ _ (@bZ _ _ _ _ _ (@aa _ _ _ 7 _ _ _ bX rfl rfl) (fun _ _=>rfl)) jA cZ) ok (aC g) (Cx g) (NR _) (@aa _ _ _ 0 _ _ _ bX rfl rfl) rfl)⟩
theorem vk (g:GA):(Gk g).an[17]?=some (tS "_exclude_tags"):=by kernel_rfl
theorem NS (P:Params):takerIn (KK P) 150 (tS "_exclude_tags")=some none:=by kernel_rfl
noncomputable def MZ:ax 0 cC (kL 5):=⟨_,fun g ok ba=>(@bD _ _ _ _ _ _ _ _ _ _ _ 17 (@gK _ _ _ _ _ _ _ _ _ _ (@bZ _ _ _ _ _ (@aa _ _ _ 8 _ _ _ bX rfl rfl) (fun _ _=>rfl)) jA cZ) ok (aC g) (vk g) (NS _) (@aa _ _ _ 0 _ _ _ bX rfl rfl) rfl)⟩
theorem Cy (g:GA):(Gk g).an[18]?=some (tS "_rewrite_prefixes"):=by kernel_rfl
theorem NT (P:Params):takerIn (KK P) 150 (tS "_rewrite_prefixes")=some none:=by kernel_rfl
noncomputable def M0:ax 0 cC (kL 6):=⟨_,fun g ok ba=>(@bD _ _ _ _ _ _ _ _ _ _ _ 18 (@aa _ _ _ 4 _ _ _ bX rfl rfl) ok (aC g) (Cy g) (NT _) (@aa _ _ _ 0 _ _ _ bX rfl rfl) rfl)⟩
theorem vl (g:GA):(Gk g).an[19]?=some (tS "_qname_aware_tags"):=by kernel_rfl
theorem NU (P:Params):takerIn (KK P) 150 (tS "_qname_aware_tags")=some none:=by kernel_rfl
noncomputable def M1:ax 0 cC (ac (iK (kL 7)) 0):=⟨_,fun g ok ba=>(@bD _ _ _ _ _ _ _ _ _ _ _ 19 cZ ok (aC g) (vl g) (NU _) (@aa _ _ _ 0 _ _ _ bX rfl rfl) rfl)⟩
noncomputable def M2:ax 0 cC (kL 7):=⟨_,fun g ok ba=>(@bL _ _ _ _ _ _ _ _ _ _ (@bZ _ _ _ _ _ (@aa _ _ _ 5 _ _ _ bX rfl rfl) (fun _ _=>rfl)) cu (@aL _ _ _ (iK (kL 7)) 1 _ (by kernel_rfl) (@ay _ _ _ _ _ M1 g ok ba ai)))⟩
theorem Cz (g:GA):(Gk g).an[20]?=some (tS "_find_qname_aware_attrs"):=by kernel_rfl
theorem NV (P:Params):takerIn (KK P) 150 (tS "_find_qname_aware_attrs")=some none:=by kernel_rfl
noncomputable def M3:ax 0 cC (ac (iK (kL 8)) 0):=⟨_,fun g ok ba=>(@bD _ _ _ _ _ _ _ _ _ _ _ 20 cZ ok (aC g) (Cz g) (NV _) (@aa _ _ _ 0 _ _ _ bX rfl rfl) rfl)⟩
noncomputable def JP:ax 0 cC (kL 8):=⟨_,fun g ok ba=>(@bL _ _ _ _ _ _ _ _ _ _ (@bZ _ _ _ _ _ (@aa _ _ _ 6 _ _ _ bX rfl rfl) (fun _ _=>rfl)) cu (@aL _ _ _ (iK (kL 8)) 1 _ (by kernel_rfl) (@ay _ _ _ _ _ M3 g ok ba ai)))⟩
theorem Pv:(tS "http://www.w3.org/XML/1998/namespace")=(⟨([104,116,116,112,58,47,47,119,119,119,46,119,51,46,111,114,103,47,88,77,76,47,49,57,57,56,47,110,97,109,101,115,112,97,99,101]:List Nat).toArray⟩:Str):=by kernel_rfl
theorem Pw:(tS "xml")=(⟨([120,109,108]:List Nat).toArray⟩:Str):=by kernel_rfl
theorem on (g:GA):(Gk g).an[21]?=some (tS "_declared_ns_stack"):=by kernel_rfl
theorem NW (P:Params):takerIn (KK P) 150 (tS "_declared_ns_stack")=some none:=by kernel_rfl
noncomputable def JQ:ax 0 cC (kL 9):=⟨_,fun g ok ba=>(@bD _ _ _ _ _ _ _ _ _ _ _ 21 (@b8 _ _ _ _ _ _ ok (@aA _ _ _ _ _ _ _ (@b8 _ _ _ _ _ _ ok (@aA _ _ _ _ _ _ _ (@bA _ _ _ _ _ _ _ ok (@aA _ _ _ _ _ _ _ (@aK _ _ _ _ _ _ _ Pv) (@aA _ _ _ _ _ _ _ (@aK _ _ _ _ _ _ _ Pw) ab rfl) rfl) (by decide)) ab rfl)) ab rfl)) ok (aC g) (on g) (NW _) (@aa _ _ _ 0 _ _ _ bX rfl rfl) rfl)⟩
theorem rI (g:GA):(Gk g).an[22]?=some (tS "_ns_stack"):=by kernel_rfl
theorem NX (P:Params):takerIn (KK P) 150 (tS "_ns_stack")=some none:=by kernel_rfl
noncomputable def JR:ax 0 cC (kL 10):=⟨_,fun g ok ba=>(@bD _ _ _ _ _ _ _ _ _ _ _ 22 (@b8 _ _ _ _ _ _ ok ab) ok (aC g) (rI g) (NX _) (@aa _ _ _ 0 _ _ _ bX rfl rfl) rfl)⟩
noncomputable def JS:ax 0 cC (kL 11):=⟨_,fun g ok ba=>(@bL _ _ _ _ _ _ _ _ _ _ (@Ct _ _ _ _ _ _ (@bZ _ _ _ _ _ (@aa _ _ _ 4 _ _ _ bX rfl rfl) (fun _ _=>rfl))) cu ai)⟩
theorem wf (P:Params):findIn (KK P) (.ref 150) (tS "_ns_stack")=some none:=by kernel_rfl
noncomputable def JT:ax 0 cC (kL 12):=⟨_,fun g ok ba=>(@bH _ _ _ _ _ _ (@al _ _ _ _ _ _ _ _ _ _ (@cg _ _ _ _ _ (@aU _ _ _ _ _ _ _ _ 22 ok (aC g) (rI g) (wf _) (@aa _ _ _ 0 _ _ _ bX rfl rfl) (fun _=>rfl))) (@aA _ _ _ _ _ _ _ (@b8 _ _ _ _ _ _ ok ab) ab rfl) (fun _=>rfl) rfl rfl rfl) (fun _=>rfl))⟩
theorem ou (g:GA):(Gk g).an[23]?=some (tS "_prefix_map"):=by kernel_rfl
theorem NY (P:Params):takerIn (KK P) 150 (tS "_prefix_map")=some none:=by kernel_rfl
noncomputable def JU:ax 0 cC (kL 13):=⟨_,fun g ok ba=>(@bD _ _ _ _ _ _ _ _ _ _ _ 23 (@mI _ _ _ _ ok) ok (aC g) (ou g) (NY _) (@aa _ _ _ 0 _ _ _ bX rfl rfl) rfl)⟩
theorem ow (g:GA):(Gk g).an[24]?=some (tS "_preserve_space"):=by kernel_rfl
theorem NZ (P:Params):takerIn (KK P) 150 (tS "_preserve_space")=some none:=by kernel_rfl
noncomputable def JV:ax 0 cC (kL 14):=⟨_,fun g ok ba=>(@bD _ _ _ _ _ _ _ _ _ _ _ 24 (@b8 _ _ _ _ _ _ ok (@aA _ _ _ _ _ _ _ b7 ab rfl)) ok (aC g) (ow g) (NZ _) (@aa _ _ _ 0 _ _ _ bX rfl rfl) rfl)⟩
theorem Lu (g:GA):(Gk g).an[25]?=some (tS "_pending_start"):=by kernel_rfl
theorem N0 (P:Params):takerIn (KK P) 150 (tS "_pending_start")=some none:=by kernel_rfl
noncomputable def JW:ax 0 cC (kL 15):=⟨_,fun g ok ba=>(@bD _ _ _ _ _ _ _ _ _ _ _ 25 cZ ok (aC g) (Lu g) (N0 _) (@aa _ _ _ 0 _ _ _ bX rfl rfl) rfl)⟩
theorem CA (g:GA):(Gk g).an[26]?=some (tS "_root_seen"):=by kernel_rfl
theorem Dg (P:Params):takerIn (KK P) 150 (tS "_root_seen")=some none:=by kernel_rfl
noncomputable def JX:ax 0 cC (kL 16):=⟨_,fun g ok ba=>(@bD _ _ _ _ _ _ _ _ _ _ _ 26 b7 ok (aC g) (CA g) (Dg _) (@aa _ _ _ 0 _ _ _ bX rfl rfl) rfl)⟩
theorem u7 (g:GA):(Gk g).an[27]?=some (tS "_root_done"):=by kernel_rfl
theorem zs (P:Params):takerIn (KK P) 150 (tS "_root_done")=some none:=by kernel_rfl
noncomputable def JY:ax 0 cC (kL 17):=⟨_,fun g ok ba=>(@bD _ _ _ _ _ _ _ _ _ _ _ 27 b7 ok (aC g) (u7 g) (zs _) (@aa _ _ _ 0 _ _ _ bX rfl rfl) rfl)⟩
theorem pT (g:GA):(Gk g).an[28]?=some (tS "_ignored_depth"):=by kernel_rfl
theorem Kg (P:Params):takerIn (KK P) 150 (tS "_ignored_depth")=some none:=by kernel_rfl
noncomputable def JZ:ax 0 cC (kL 18):=⟨_,fun g ok ba=>(@bD _ _ _ _ _ _ _ _ _ _ _ 28 aq ok (aC g) (pT g) (Kg _) (@aa _ _ _ 0 _ _ _ bX rfl rfl) rfl)⟩
noncomputable def C5:(D:List V→List V→DE) ×' (∀ g:GA,(Gk g).Ok→Bare g→FN (Gk g) 1 67 [(tS "rewrite_prefixes")] D):=⟨_,fun g ok ba=>aQ (lv:=0) (fd:=v4) (body:=jW) (sc:=cC) ok (ML g) (@aI _ _ _ _ 2 [(0,.pos 0),(1,.pos 1),(2,.dfl (.boo false) (.bool false)),(3,.dfl (.boo false) (.bool false)),(4,.kw 0),(5,.dfl .non .none),(6,.dfl .non .none),(7,.dfl .non .none),(8,.dfl .non .none)] [(tS "self"),(tS "write"),(tS "with_comments"),(tS "strip_text"),(tS "rewrite_prefixes"),(tS "qname_aware_tags"),(tS "qname_aware_attrs"),(tS "exclude_attrs"),(tS "exclude_tags")] ok rfl (aS rfl) (au (by kernel_rfl)) (bj rfl) (fun h vals kvals X h1 h2=>by obtain ⟨u0,u1,rfl⟩:=jQ h1; obtain ⟨w0,rfl⟩:=ji h2; exact Looks.of_peek (K:=KK g.w.params) X (by kernel_rfl))) (@aL _ _ _ jW 19 _ (by kernel_rfl) (@ay _ _ _ _ _ MU g ok ba (@ay _ _ _ _ _ MV g ok ba (@ay _ _ _ _ _ MW g ok ba (@ay _ _ _ _ _ MX g ok ba (@ay _ _ _ _ _ MY g ok ba (@ay _ _ _ _ _ MZ g ok ba (@ay _ _ _ _ _ M0 g ok ba (@ay _ _ _ _ _ M2 g ok ba (@ay _ _ _ _ _ JP g ok ba (@ay _ _ _ _ _ JQ g ok ba (@ay _ _ _ _ _ JR g ok ba (@ay _ _ _ _ _ JS g ok ba (@ay _ _ _ _ _ JT g ok ba (@ay _ _ _ _ _ JU g ok ba (@ay _ _ _ _ _ JV g ok ba (@ay _ _ _ _ _ JW g ok ba (@ay _ _ _ _ _ JX g ok ba (@ay _ _ _ _ _ JY g ok ba (@ay _ _ _ _ _ JZ g ok ba ai))))))))))))))))))))⟩
noncomputable def Og:List V→List V→DE:=C5.1
theorem LV (g:GA) (ok:(Gk g).Ok) (ba:Bare g):FN (Gk g) 1 67 [(tS "rewrite_prefixes")] Og:=C5.2 g ok ba
noncomputable def F6:List (Str×NameKind):=[((tS "text"),.local),((tS "TypeError"),.globalImplicit),((tS "AttributeError"),.globalImplicit),((tS "_raise_serialization_error"),.globalImplicit)]
noncomputable def cH:Sc:=⟨F6,true,167,(tS "_escape_attrib_c14n.<locals>.")⟩
theorem g8:NamesOk cH:=by unfold NamesOk; kernel_rfl
noncomputable def qf:FuncData:=dE (cG P0 168) default
noncomputable def ip:List PySem.Stmt:=aX (some qf)
noncomputable abbrev eX:=ac ip
theorem GD (g:GA):FnOk (Gk g) 168 qf ip cH:=FnOk.of (by kernel_rfl) (by kernel_rfl)
theorem Nh:(tS "&")=(⟨([38]:List Nat).toArray⟩:Str):=by kernel_rfl
noncomputable def Hx:ax 0 cH (ac (cD (ac (mD (eX 0)) 0)) 0):=⟨_,fun g ok ba=>(@aB _ _ _ 0 _ _ _ _ _ jA rfl rfl)⟩
noncomputable def Hy:ax 0 cH (ac (mD (eX 0)) 0):=⟨_,fun g ok ba=>(@bL _ _ _ _ _ _ _ _ _ _ (@lQ _ _ _ _ _ _ _ _ (@aK _ _ _ _ _ _ _ Nh) (@aa _ _ _ 0 _ _ _ g8 rfl rfl) rfl) (@aL _ _ _ (cD (ac (mD (eX 0)) 0)) 1 _ (by kernel_rfl) (@ay _ _ _ _ _ Hx g ok ba ai)) ai)⟩
theorem sB:(tS "<")=(⟨([60]:List Nat).toArray⟩:Str):=by kernel_rfl
noncomputable def Hz:ax 0 cH (ac (cD (ac (mD (eX 0)) 1)) 0):=⟨_,fun g ok ba=>(@aB _ _ _ 0 _ _ _ _ _ jA rfl rfl)⟩
noncomputable def HA:ax 0 cH (ac (mD (eX 0)) 1):=⟨_,fun g ok ba=>(@bL _ _ _ _ _ _ _ _ _ _ (@lQ _ _ _ _ _ _ _ _ (@aK _ _ _ _ _ _ _ sB) (@aa _ _ _ 0 _ _ _ g8 rfl rfl) rfl) (@aL _ _ _ (cD (ac (mD (eX 0)) 1)) 1 _ (by kernel_rfl) (@ay _ _ _ _ _ Hz g ok ba ai)) ai)⟩
theorem y3:(tS "\"")=(⟨([34]:List Nat).toArray⟩:Str):=by kernel_rfl
noncomputable def HB:ax 0 cH (ac (cD (ac (mD (eX 0)) 2)) 0):=⟨_,fun g ok ba=>(@aB _ _ _ 0 _ _ _ _ _ jA rfl rfl)⟩
noncomputable def HC:ax 0 cH (ac (mD (eX 0)) 2):=⟨_,fun g ok ba=>(@bL _ _ _ _ _ _ _ _ _ _ (@lQ _ _ _ _ _ _ _ _ (@aK _ _ _ _ _ _ _ y3) (@aa _ _ _ 0 _ _ _ g8 rfl rfl) rfl) (@aL _ _ _ (cD (ac (mD (eX 0)) 2)) 1 _ (by kernel_rfl) (@ay _ _ _ _ _ HB g ok ba ai)) ai)⟩
theorem C9:(tS "\t")=(⟨([9]:List Nat).toArray⟩:Str):=by kernel_rfl
noncomputable def HD:ax 0 cH (ac (cD (ac (mD (eX 0)) 3)) 0):=⟨_,fun g ok ba=>(@aB _ _ _ 0 _ _ _ _ _ jA rfl rfl)⟩
noncomputable def HE:ax 0 cH (ac (mD (eX 0)) 3):=⟨_,fun g ok ba=>(@bL _ _ _ _ _ _ _ _ _ _ (@lQ _ _ _ _ _ _ _ _ (@aK _ _ _ _ _ _ _ C9) (@aa _ _ _ 0 _ _ _ g8 rfl rfl) rfl) (@aL _ _ _ (cD (ac (mD (eX 0)) 3)) 1 _ (by kernel_rfl) (@ay _ _ _ _ _ HD g ok ba ai)) ai)⟩
theorem Ni:(tS "\n")=(⟨([10]:List Nat).toArray⟩:Str):=by kernel_rfl
noncomputable def HF:ax 0 cH (ac (cD (ac (mD (eX 0)) 4)) 0):=⟨_,fun g ok ba=>(@aB _ _ _ 0 _ _ _ _ _ jA rfl rfl)⟩
noncomputable def HG:ax 0 cH (ac (mD (eX 0)) 4):=⟨_,fun g ok ba=>(@bL _ _ _ _ _ _ _ _ _ _ (@lQ _ _ _ _ _ _ _ _ (@aK _ _ _ _ _ _ _ Ni) (@aa _ _ _ 0 _ _ _ g8 rfl rfl) rfl) (@aL _ _ _ (cD (ac (mD (eX 0)) 4)) 1 _ (by kernel_rfl) (@ay _ _ _ _ _ HF g ok ba ai)) ai)⟩
theorem Nj:(tS "\x0d")=(⟨([13]:List Nat).toArray⟩:Str):=by kernel_rfl
noncomputable def Bx:ax 0 cH (ac (cD (ac (mD (eX 0)) 5)) 0):=⟨_,fun g ok ba=>(@aB _ _ _ 0 _ _ _ _ _ jA rfl rfl)⟩
noncomputable def By:ax 0 cH (ac (mD (eX 0)) 5):=⟨_,fun g ok ba=>(@bL _ _ _ _ _ _ _ _ _ _ (@lQ _ _ _ _ _ _ _ _ (@aK _ _ _ _ _ _ _ Nj) (@aa _ _ _ 0 _ _ _ g8 rfl rfl) rfl) (@aL _ _ _ (cD (ac (mD (eX 0)) 5)) 1 _ (by kernel_rfl) (@ay _ _ _ _ _ Bx g ok ba ai)) ai)⟩
noncomputable def Bz:ax 0 cH (ac (mD (eX 0)) 6):=⟨_,fun g ok ba=>(@aF _ _ _ _ _ _ (@aa _ _ _ 0 _ _ _ g8 rfl rfl))⟩
noncomputable def BA:ax 0 cH (eX 0):=⟨_,fun g ok ba=>(@Lk _ _ _ _ _ _ _ _ (@aL _ _ _ (mD (eX 0)) 7 _ (by kernel_rfl) (@ay _ _ _ _ _ Hy g ok ba (@ay _ _ _ _ _ HA g ok ba (@ay _ _ _ _ _ HC g ok ba (@ay _ _ _ _ _ HE g ok ba (@ay _ _ _ _ _ HG g ok ba (@ay _ _ _ _ _ By g ok ba (@ay _ _ _ _ _ Bz g ok ba ai)))))))))⟩
noncomputable def xK:(D:List V→List V→DE) ×' (∀ g:GA,(Gk g).Ok→Bare g→FN (Gk g) 1 168 [] D):=⟨_,fun g ok ba=>aQ (lv:=0) (fd:=qf) (body:=ip) (sc:=cH) ok (GD g) (@aI _ _ _ _ 1 [(0,.pos 0)] [(tS "text")] ok rfl (aS rfl) (au (by kernel_rfl)) (bj rfl) (fun h vals kvals X h1 h2=>by obtain ⟨u0,rfl⟩:=ji h1; obtain rfl:=d5 h2; exact Looks.of_peek (K:=KK g.w.params) X (by kernel_rfl))) (@aL _ _ _ ip 1 _ (by kernel_rfl) (@ay _ _ _ _ _ BA g ok ba ai))⟩
noncomputable def KU:List V→List V→DE:=xK.1
theorem Ew (g:GA) (ok:(Gk g).Ok) (ba:Bare g):FN (Gk g) 1 168 [] KU:=xK.2 g ok ba
noncomputable def MJ:List (Str×NameKind):=[((tS "self"),.local),((tS "qname"),.local),((tS "uri"),.local),((tS "tag"),.local),((tS "prefixes_seen"),.local),((tS "u"),.local),((tS "prefix"),.local),((tS "set"),.globalImplicit),((tS "len"),.globalImplicit),((tS "ValueError"),.globalImplicit)]
noncomputable def en:Sc:=⟨MJ,true,89,(tS "C14NWriterTarget._qname.<locals>.")⟩
theorem bB:NamesOk en:=by unfold NamesOk; kernel_rfl
noncomputable def v5:FuncData:=dE (cG P0 90) default
noncomputable def jX:List PySem.Stmt:=aX (some v5)
noncomputable abbrev ni:=ac jX
theorem MM (g:GA):FnOk (Gk g) 90 v5 jX en:=FnOk.of (by kernel_rfl) (by kernel_rfl)
theorem Da:(tS "{")=(⟨([123]:List Nat).toArray⟩:Str):=by kernel_rfl
theorem y4:(tS "}")=(⟨([125]:List Nat).toArray⟩:Str):=by kernel_rfl
theorem lg:(tS "")=(⟨([]:List Nat).toArray⟩:Str):=by kernel_rfl
noncomputable def M4:ax 0 en (ac (cD (ni 0)) 0):=⟨_,fun g ok ba=>(@bF _ _ _ _ _ _ _ _ (@gK _ _ _ _ _ _ _ _ _ _ (@aY _ _ _ _ _ _ _ _ _ (@cW _ _ _ _ _ _ _ _ _ _ _ ok (@aa _ _ _ 1 _ _ _ bB rfl rfl) ez (@dL _ _ _ _ _ aq)) (@aK _ _ _ _ _ _ _ Da) rfl) (@dz _ _ _ _ _ (@al _ _ _ _ _ _ _ _ _ _ (@uQ _ _ _ _ _ ok (@cW _ _ _ _ _ _ _ _ _ _ _ ok (@aa _ _ _ 1 _ _ _ bB rfl rfl) (@dL _ _ _ _ _ aq) ez)) (@aA _ _ _ _ _ _ _ (@aK _ _ _ _ _ _ _ y4) (@aA _ _ _ _ _ _ _ aq ab rfl) rfl) (fun _=>rfl) rfl rfl rfl)) (@bA _ _ _ _ _ _ _ ok (@aA _ _ _ _ _ _ _ (@aK _ _ _ _ _ _ _ lg) (@aA _ _ _ _ _ _ _ (@aa _ _ _ 1 _ _ _ bB rfl rfl) ab rfl) rfl) (by decide))) (@cn _ _ _ _ _ (@uL _ _ _ _ _ _ _ (@aR _ _ _ _ _ _ _ (@aw _ _ _ 2 _ _ _ rfl (.inl rfl)) (@aR _ _ _ _ _ _ _ (@aw _ _ _ 3 _ _ _ rfl (.inl rfl)) dA (fun _=>rfl)) (fun _=>rfl)) (fun _=>rfl) (fun _=>rfl)) (fun _=>rfl)) (fun _=>rfl) (fun _ _=>rfl))⟩
noncomputable def M5:ax 0 en (ac (iK (ni 0)) 0):=⟨_,fun g ok ba=>(@aB _ _ _ 3 _ _ _ _ _ (@aa _ _ _ 1 _ _ _ bB rfl rfl) rfl rfl)⟩
noncomputable def M6:ax 0 en (ni 0):=⟨_,fun g ok ba=>(@bL _ _ _ _ _ _ _ _ _ _ (@aY _ _ _ _ _ _ _ _ _ (@aa _ _ _ 2 _ _ _ bB rfl rfl) cZ rfl) (@aL _ _ _ (cD (ni 0)) 1 _ (by kernel_rfl) (@ay _ _ _ _ _ M4 g ok ba ai)) (@aL _ _ _ (iK (ni 0)) 1 _ (by kernel_rfl) (@ay _ _ _ _ _ M5 g ok ba ai)))⟩
theorem Lw (g:GA):Bltin (Gk g) (tS "set") (.type "set"):=⟨by kernel_rfl,by decide,PyProof.Rows.Boot.«set»,by kernel_rfl⟩
noncomputable def M7:ax 0 en (ni 1):=⟨_,fun g ok ba=>(@aB _ _ _ 4 _ _ _ _ _ (@ar _ _ _ _ _ _ _ _ _ (@az _ _ _ _ 7 _ _ _ _ ok rfl (Lw g) (Dp ok)) ab rfl) rfl rfl)⟩
theorem DR (g:GA):(Gk g).an[29]?=some (tS "_iter_namespaces"):=by kernel_rfl
noncomputable def LT:FuncData:=dE (cG P0 75) default
theorem Mi (g:GA):GenFn (Gk g) 75 LT (tS "self") (tS "namespaces") (tS "_reversed") (tS "ns_stack") ⟨42,12,42,22⟩ ⟨42,26,42,35⟩ ⟨42,36,42,44⟩ ⟨42,26,42,45⟩ ⟨43,15,43,25⟩ ⟨44,27,44,37⟩ ⟨44,16,44,37⟩ ⟨44,16,44,37⟩ ⟨43,12,44,37⟩ ⟨42,8,44,37⟩:=GenFn.of (by kernel_rfl) (by kernel_rfl) (by kernel_rfl) (by kernel_rfl) (by kernel_rfl) (by kernel_rfl) (fun sv av=>by kernel_rfl)
theorem FJ (P:Params):findIn (KK P) (.ref 150) (tS "_iter_namespaces")=some (some (.ref 75)):=by kernel_rfl
theorem Km (P:Params):typeIn (KK P) (.ref 75)=some (.type "function"):=by kernel_rfl
theorem mY (P:Params):findIn (KK P) (.ref 150) (tS "_declared_ns_stack")=some none:=by kernel_rfl
theorem Db:(tS ":")=(⟨([58]:List Nat).toArray⟩:Str):=by kernel_rfl
noncomputable def M8:On 0 en (ac (cw (ni 2)) 0):=⟨_,fun g ok=>(@bL _ _ _ _ _ _ _ _ _ _ (@fV _ _ _ _ _ _ _ (@dw _ _ _ _ _ _ _ (@aY _ _ _ _ _ _ _ _ _ (@aa _ _ _ 5 _ _ _ bB rfl rfl) (@aa _ _ _ 2 _ _ _ bB rfl rfl) rfl) (@dw _ _ _ _ _ _ _ (@aY _ _ _ _ _ _ _ _ _ (@aa _ _ _ 6 _ _ _ bB rfl rfl) (@aa _ _ _ 4 _ _ _ bB rfl rfl) rfl) fw))) (@cr _ _ _ _ _ _ _ (@aF _ _ _ _ _ _ (@bA _ _ _ _ _ _ _ ok (@aA _ _ _ _ _ _ _ (@gK _ _ _ _ _ _ _ _ _ _ (@bZ _ _ _ _ _ (@aa _ _ _ 6 _ _ _ bB rfl rfl) (fun _ _=>rfl)) (@dz _ _ _ _ _ (@fR _ _ _ _ _ _ (@ke _ _ _ _ _ _ _ _ (@aa _ _ _ 6 _ _ _ bB rfl rfl) (@eQ _ _ _ _ _ _ _ _ _ Db rfl (@ke _ _ _ _ _ _ _ _ (@aa _ _ _ 3 _ _ _ bB rfl rfl) oa (fun _=>rfl)) (fun _=>rfl)) (fun _=>rfl)) (by decide) (by decide))) (@aa _ _ _ 3 _ _ _ bB rfl rfl)) (@aA _ _ _ _ _ _ _ (@aa _ _ _ 3 _ _ _ bB rfl rfl) (@aA _ _ _ _ _ _ _ (@aa _ _ _ 2 _ _ _ bB rfl rfl) ab rfl) rfl) rfl) (by decide))) ai) ai)⟩
noncomputable def M9:On 0 en (ac (cw (ni 2)) 1):=⟨_,fun g ok=>(@bH _ _ _ _ _ _ (@al _ _ _ _ _ _ _ _ _ _ (@K8 _ _ _ _ _ (@aa _ _ _ 4 _ _ _ bB rfl rfl)) (@aA _ _ _ _ _ _ _ (@aa _ _ _ 6 _ _ _ bB rfl rfl) ab rfl) (fun _=>rfl) rfl rfl rfl) (fun _=>rfl))⟩
noncomputable def Na:ax 0 en (ni 2):=⟨_,fun g ok ba=>(@Li _ _ _ _ _ _ _ _ _ _ _ _ _ _ _ _ 29 _ _ _ _ _ _ _ _ _ _ _ _ _ _ _ _ ok ba.gn (aC g) (DR g) (FJ _) (Km _) (Mi g) (@aa _ _ _ 0 _ _ _ bB rfl rfl) (@aU _ _ _ _ _ _ _ _ 21 ok (aC g) (on g) (mY _) (@aa _ _ _ 0 _ _ _ bB rfl rfl) (fun _=>rfl)) (fun _=>rfl) rfl (fun _ _=>rfl) (fun _ _=>rfl) (fun _ _=>rfl) (fun _ _=>rfl) (wx g ok (fun g ok=>(@cA _ _ _ _ _ _ _ (@aR _ _ _ _ _ _ _ (@aw _ _ _ 5 _ _ _ rfl (.inl rfl)) (@aR _ _ _ _ _ _ _ (@aw _ _ _ 6 _ _ _ rfl (.inl rfl)) dA (fun _=>rfl)) (fun _=>rfl)) (fun _=>rfl) (fun _=>rfl)))) (wu g ok (fun g ok=>(@aL _ _ _ (cw (ni 2)) 2 _ (by kernel_rfl) (@Lj _ _ _ _ _ M8 g ok (@Lj _ _ _ _ _ M9 g ok ai))))))⟩
theorem Em (P:Params):findIn (KK P) (.ref 150) (tS "_rewrite_prefixes")=some none:=by kernel_rfl
theorem mZ (P:Params):findIn (KK P) (.ref 150) (tS "_prefix_map")=some none:=by kernel_rfl
noncomputable def Nb:ax 0 en (ac (cD (ac (cD (ni 3)) 0)) 0):=⟨_,fun g ok ba=>(@aB _ _ _ 6 _ _ _ _ _ (@a9 _ _ _ _ _ _ _ _ ok (@aU _ _ _ _ _ _ _ _ 23 ok (aC g) (ou g) (mZ _) (@aa _ _ _ 0 _ _ _ bB rfl rfl) (fun _=>rfl)) (@aa _ _ _ 2 _ _ _ bB rfl rfl)) rfl rfl)⟩
theorem y5:(tS "n")=(⟨([110]:List Nat).toArray⟩:Str):=by kernel_rfl
noncomputable def Nc:ax 0 en (ac (iK (ac (cD (ni 3)) 0)) 0):=⟨_,fun g ok ba=>(@bF _ _ _ _ _ _ _ _ (@dz _ _ _ _ _ (@fR _ _ _ _ _ _ (@eQ _ _ _ _ _ _ _ _ _ y5 rfl (@La _ _ _ _ _ _ _ _ (@ar _ _ _ _ _ _ _ _ _ (@az _ _ _ _ 8 _ _ _ _ ok rfl (s7 g) Do) (@aA _ _ _ _ _ _ _ (@aU _ _ _ _ _ _ _ _ 23 ok (aC g) (ou g) (mZ _) (@aa _ _ _ 0 _ _ _ bB rfl rfl) (fun _=>rfl)) ab rfl) rfl) oa (fun _=>rfl)) (fun _=>rfl)) (by decide) (by decide))) (@mJ _ _ _ _ _ _ _ _ (@aw _ _ _ 6 _ _ _ rfl (.inl rfl)) (@cn _ _ _ _ _ (@Dz _ _ _ _ _ _ _ _ ok (@aU _ _ _ _ _ _ _ _ 23 ok (aC g) (ou g) (mZ _) (@aa _ _ _ 0 _ _ _ bB rfl rfl) (fun _=>rfl)) (@aa _ _ _ 2 _ _ _ bB rfl rfl)) (fun _=>rfl)) (fun _=>rfl) (fun _=>⟨_,_,rfl⟩)) (fun _=>rfl) (fun _ _=>rfl))⟩
noncomputable def Nd:ax 0 en (ac (cD (ni 3)) 0):=⟨_,fun g ok ba=>(@bL _ _ _ _ _ _ _ _ _ _ (@aY _ _ _ _ _ _ _ _ _ (@aa _ _ _ 2 _ _ _ bB rfl rfl) (@aU _ _ _ _ _ _ _ _ 23 ok (aC g) (ou g) (mZ _) (@aa _ _ _ 0 _ _ _ bB rfl rfl) (fun _=>rfl)) rfl) (@aL _ _ _ (cD (ac (cD (ni 3)) 0)) 1 _ (by kernel_rfl) (@ay _ _ _ _ _ Nb g ok ba ai)) (@aL _ _ _ (iK (ac (cD (ni 3)) 0)) 1 _ (by kernel_rfl) (@ay _ _ _ _ _ Nc g ok ba ai)))⟩
noncomputable def J0:ax 0 en (ac (cD (ni 3)) 1):=⟨_,fun g ok ba=>(@bH _ _ _ _ _ _ (@al _ _ _ _ _ _ _ _ _ _ (@cg _ _ _ _ _ (@a9 _ _ _ _ _ _ _ _ ok (@aU _ _ _ _ _ _ _ _ 21 ok (aC g) (on g) (mY _) (@aa _ _ _ 0 _ _ _ bB rfl rfl) (fun _=>rfl)) (@d3 _ _ _ _ _ _ aq))) (@aA _ _ _ _ _ _ _ (@bA _ _ _ _ _ _ _ ok (@aA _ _ _ _ _ _ _ (@aa _ _ _ 2 _ _ _ bB rfl rfl) (@aA _ _ _ _ _ _ _ (@aa _ _ _ 6 _ _ _ bB rfl rfl) ab rfl) rfl) (by decide)) ab rfl) (fun _=>rfl) rfl rfl rfl) (fun _=>rfl))⟩
noncomputable def J1:ax 0 en (ac (cD (ni 3)) 2):=⟨_,fun g ok ba=>(@aF _ _ _ _ _ _ (@bA _ _ _ _ _ _ _ ok (@aA _ _ _ _ _ _ _ (@dz _ _ _ _ _ (@fR _ _ _ _ _ _ (@ke _ _ _ _ _ _ _ _ (@aa _ _ _ 6 _ _ _ bB rfl rfl) (@eQ _ _ _ _ _ _ _ _ _ Db rfl (@ke _ _ _ _ _ _ _ _ (@aa _ _ _ 3 _ _ _ bB rfl rfl) oa (fun _=>rfl)) (fun _=>rfl)) (fun _=>rfl)) (by decide) (by decide))) (@aA _ _ _ _ _ _ _ (@aa _ _ _ 3 _ _ _ bB rfl rfl) (@aA _ _ _ _ _ _ _ (@aa _ _ _ 2 _ _ _ bB rfl rfl) ab rfl) rfl) rfl) (by decide)))⟩
noncomputable def J2:ax 0 en (ni 3):=⟨_,fun g ok ba=>(@bL _ _ _ _ _ _ _ _ _ _ (@bZ _ _ _ _ _ (@aU _ _ _ _ _ _ _ _ 18 ok (aC g) (Cy g) (Em _) (@aa _ _ _ 0 _ _ _ bB rfl rfl) (fun _=>rfl)) (fun _ _=>rfl)) (@aL _ _ _ (cD (ni 3)) 3 _ (by kernel_rfl) (@ay _ _ _ _ _ Nd g ok ba (@ay _ _ _ _ _ J0 g ok ba (@ay _ _ _ _ _ J1 g ok ba ai)))) ai)⟩
noncomputable def C6:(D:List V→List V→DE) ×' (∀ g:GA,(Gk g).Ok→Bare g→FN (Gk g) 1 90 [] D):=⟨_,fun g ok ba=>aQ (lv:=0) (fd:=v5) (body:=jX) (sc:=en) ok (MM g) (@aI _ _ _ _ 2 [(0,.pos 0),(1,.pos 1),(2,.dfl .non .none)] [(tS "self"),(tS "qname"),(tS "uri")] ok rfl (aS rfl) (au (by kernel_rfl)) (bj rfl) (fun h vals kvals X h1 h2=>by obtain ⟨u0,u1,rfl⟩:=jQ h1; obtain rfl:=d5 h2; exact Looks.of_peek (K:=KK g.w.params) X (by kernel_rfl))) (@Lm _ _ _ jX 4 _ (by kernel_rfl) (@ay _ _ _ _ _ M6 g ok ba (@ay _ _ _ _ _ M7 g ok ba (@ay _ _ _ _ _ Na g ok ba (@ay _ _ _ _ _ J2 g ok ba cu)))))⟩
noncomputable def Oh:List V→List V→DE:=C6.1
theorem CP (g:GA) (ok:(Gk g).Ok) (ba:Bare g):FN (Gk g) 1 90 [] Oh:=C6.2 g ok ba
noncomputable def FY:List (Str×NameKind):=[((tS "self"),.cell),((tS "tag"),.local),((tS "attrs"),.local),((tS "new_namespaces"),.local),((tS "qname_text"),.local),((tS "k"),.local),((tS "v"),.local),((tS "qnames"),.local),((tS "resolved_names"),.local),((tS "qname"),.local),((tS "qattrs"),.local),((tS "attr_name"),.local),((tS "value"),.local),((tS "parse_qname"),.cell),((tS "parsed_qnames"),.local),((tS "uri"),.local),((tS "attr_list"),.local),((tS "attr_qname"),.local),((tS "space_behaviour"),.local),((tS "write"),.local),((tS "_looks_like_prefix_name"),.globalImplicit),((tS "sorted"),.globalImplicit),((tS "_escape_cdata_c14n"),.globalImplicit)]
noncomputable def bw:Sc:=⟨FY,true,125,(tS "C14NWriterTarget._start.<locals>.")⟩
theorem be:NamesOk bw:=by unfold NamesOk; kernel_rfl
noncomputable def qd:FuncData:=dE (cG P0 126) default
noncomputable def im:List PySem.Stmt:=aX (some qd)
noncomputable abbrev dO:=ac im
theorem GB (g:GA):FnOk (Gk g) 126 qd im bw:=FnOk.of (by kernel_rfl) (by kernel_rfl)
theorem En (P:Params):findIn (KK P) (.ref 150) (tS "_exclude_attrs")=some none:=by kernel_rfl
noncomputable def Hf:ax 3 bw (dO 0):=⟨_,fun g ok ba=>(@bL _ _ _ _ _ _ _ _ _ _ (@fV _ _ _ _ _ _ _ (@dw _ _ _ _ _ _ _ (@aY _ _ _ _ _ _ _ _ _ (@aU _ _ _ _ _ _ _ _ 16 ok (aC g) (Cx g) (En _) (@aa _ _ _ 0 _ _ _ be rfl rfl) (fun _=>rfl)) cZ rfl) (@dw _ _ _ _ _ _ _ (@bZ _ _ _ _ _ (@aa _ _ _ 2 _ _ _ be rfl rfl) (fun _ _=>rfl)) fw))) cu ai)⟩
theorem Fu (P:Params):kdsCode (KK P) (.ref 125)=true:=by kernel_rfl
noncomputable def Hg:ax 3 bw (dO 1):=⟨_,fun g ok ba=>(@aB _ _ _ 7 _ _ _ _ _ (@Dw _ _ _ _ _ _ _ _ _ ok (by decide) (Fu _) (@aa _ _ _ 1 _ _ _ be rfl rfl) (@aa _ _ _ 2 _ _ _ be rfl rfl) (fun _=>rfl) rfl) rfl rfl)⟩
noncomputable def Hh:ax 3 bw (dO 2):=⟨_,fun g ok ba=>(@aB _ _ _ 8 _ _ _ _ _ (@mI _ _ _ _ ok) rfl rfl)⟩
noncomputable def Hi:ax 3 bw (dO 3):=⟨_,fun g ok ba=>(@bL _ _ _ _ _ _ _ _ _ _ (@aY _ _ _ _ _ _ _ _ _ (@aa _ _ _ 4 _ _ _ be rfl rfl) cZ rfl) cu ai)⟩
theorem Eo (P:Params):findIn (KK P) (.ref 150) (tS "_find_qname_aware_attrs")=some none:=by kernel_rfl
noncomputable def Hj:ax 3 bw (ac (iK (dO 4)) 0):=⟨_,fun g ok ba=>(@aB _ _ _ 10 _ _ _ _ _ cZ rfl rfl)⟩
noncomputable def Hk:ax 3 bw (dO 4):=⟨_,fun g ok ba=>(@bL _ _ _ _ _ _ _ _ _ _ (@fV _ _ _ _ _ _ _ (@dw _ _ _ _ _ _ _ (@aY _ _ _ _ _ _ _ _ _ (@aU _ _ _ _ _ _ _ _ 20 ok (aC g) (Cz g) (Eo _) (@aa _ _ _ 0 _ _ _ be rfl rfl) (fun _=>rfl)) cZ rfl) (@dw _ _ _ _ _ _ _ (@bZ _ _ _ _ _ (@aa _ _ _ 2 _ _ _ be rfl rfl) (fun _ _=>rfl)) fw))) cu (@aL _ _ _ (iK (dO 4)) 1 _ (by kernel_rfl) (@ay _ _ _ _ _ Hj g ok ba ai)))⟩
theorem u8 (g:GA):(Gk g).an[30]?=some (tS "_qname"):=by kernel_rfl
theorem xb (P:Params):findIn (KK P) (.ref 150) (tS "_qname")=some (some (.ref 90)):=by kernel_rfl
theorem zv (P:Params):typeIn (KK P) (.ref 90)=some (.type "function"):=by kernel_rfl
noncomputable def Hl:ax 3 bw (dO 5):=⟨_,fun g ok ba=>(@bF _ _ _ _ _ _ _ _ (@Oi _ _ _ _ _ _ _ _ 30 _ ok (aC g) (u8 g) (xb _) (zv _) (by kernel_rfl) (by kernel_rfl) (by kernel_rfl) (@aa _ _ _ 0 _ _ _ be rfl rfl) (fun _=>rfl)) (@cn _ _ _ _ _ (@aw _ _ _ 13 _ _ _ rfl (.inr ⟨rfl,rfl⟩)) (fun _=>rfl)) (fun _=>rfl) (fun _ _=>rfl))⟩
noncomputable def xi:List (Str×NameKind):=[((tS ".0"),.local),((tS "n"),.local),((tS "parse_qname"),.cell)]
noncomputable def pt:Sc:=⟨xi,false,0,(tS "")⟩
theorem kN:NamesOk pt:=by unfold NamesOk; kernel_rfl
noncomputable def xl:List (Str×NameKind):=[((tS "n"),.local)]
noncomputable def pz:Sc:=⟨xl,true,0,(tS "")⟩
theorem xw:NamesOk pz:=by unfold NamesOk; kernel_rfl
theorem Lx (g:GA):Bltin (Gk g) (tS "sorted") (.builtin "sorted"):=⟨by kernel_rfl,by decide,PyProof.Rows.Boot.«sorted»,by kernel_rfl⟩
noncomputable def Hm:ax 3 bw (dO 6):=⟨_,fun g ok ba=>(@pR _ _ _ pt false _ _ _ _ _ _ _ _ _ _ _ _ 14 _ _ ok (@CompOk.of _ _ _ [(2,13)] (by kernel_rfl)) (@cP _ _ _ _ _ _ ok (@sY _ _ _ pz _ 21 _ _ _ _ _ _ _ _ (tS "n") _ _ ok rfl (Lx g) (by decide) (wU g) ⟨rfl,rfl,rfl,au (by kernel_rfl),rfl,rfl,rfl,tM (by kernel_rfl),rfl,fun _ _ _ _ _=>by kernel_rfl,fun _=>rfl,fun _=>rfl⟩ (@aa _ _ _ 7 _ _ _ be rfl rfl) (@al _ _ _ _ _ _ _ _ _ _ (@uS _ _ _ _ _ ok (@aa _ _ _ 0 _ _ _ xw rfl rfl)) (@aA _ _ _ _ _ _ _ (@aK _ _ _ _ _ _ _ y4) (@aA _ _ _ _ _ _ _ aq ab rfl) rfl) (fun _=>rfl) rfl rfl rfl) (fun _ _=>rfl) (fun _ _=>rfl) (fun _ _=>rfl) (fun _ _=>rfl))) (fun _ _=>rfl) (@uw _ _ _ _ _ _ _ _ _ _ _ _ _ _ _ 60 (fun h=>nomatch h) (@aw _ _ _ 1 _ _ _ rfl (.inl rfl)) fx (@aa _ _ _ 1 _ _ _ kN rfl rfl) (@jU _ _ _ _ _ _ _ _ _ _ _ _ (@Om _ _ _ _ 2 _ _ _ _ _ ok kN rfl rfl (@FN.up _ _ _ _ _ _ (CP g ok ba) rfl)) (@aA _ _ _ _ _ _ _ (@aa _ _ _ 1 _ _ _ kN rfl rfl) ab rfl) eP (fun _ _=>rfl) (fun _ _=>rfl) (fun _ _=>rfl))) rfl (fun env he=>(jx he).trans (by kernel_rfl)))⟩
noncomputable def xj:List (Str×NameKind):=[((tS ".0"),.local),((tS "uri"),.local),((tS "prefix"),.local)]
noncomputable def pu:Sc:=⟨xj,false,0,(tS "")⟩
theorem kO:NamesOk pu:=by unfold NamesOk; kernel_rfl
theorem Dc:(tS "xmlns:")=(⟨([120,109,108,110,115,58]:List Nat).toArray⟩:Str):=by kernel_rfl
theorem Nk:(tS "xmlns")=(⟨([120,109,108,110,115]:List Nat).toArray⟩:Str):=by kernel_rfl
noncomputable def Hn:ax 3 bw (ac (cD (dO 7)) 0):=⟨_,fun g ok ba=>(@fz _ _ _ pu false _ _ _ _ _ _ _ _ _ _ _ 16 _ _ ok (@CompOk.of _ _ _ [] (by kernel_rfl)) (@cP _ _ _ _ _ _ ok (@aa _ _ _ 3 _ _ _ be rfl rfl)) (fun _ _=>rfl) (@cT _ _ _ _ _ _ _ _ _ _ _ _ _ 60 (fun h=>nomatch h) (@cA _ _ _ _ _ _ _ (@aR _ _ _ _ _ _ _ (@aw _ _ _ 1 _ _ _ rfl (.inl rfl)) (@aR _ _ _ _ _ _ _ (@aw _ _ _ 2 _ _ _ rfl (.inl rfl)) dA (fun _=>rfl)) (fun _=>rfl)) (fun _=>rfl) (fun _=>rfl)) fx (@bA _ _ _ _ _ _ _ ok (@aA _ _ _ _ _ _ _ (@gK _ _ _ _ _ _ _ _ _ _ (@bZ _ _ _ _ _ (@aa _ _ _ 2 _ _ _ kO rfl rfl) (fun _ _=>rfl)) (@dz _ _ _ _ _ (@aD _ _ _ _ _ _ _ _ _ ok (@aK _ _ _ _ _ _ _ Dc) (@aa _ _ _ 2 _ _ _ kO rfl rfl))) (@aK _ _ _ _ _ _ _ Nk)) (@aA _ _ _ _ _ _ _ (@aa _ _ _ 1 _ _ _ kO rfl rfl) ab rfl) rfl) (by decide))) rfl (fun env he=>(jx he).trans (by kernel_rfl)))⟩
noncomputable def Ho:ax 3 bw (ac (cD (dO 7)) 1):=⟨_,fun g ok ba=>(@bH _ _ _ _ _ _ (@al _ _ _ _ _ _ _ _ _ _ (@Ad _ _ _ _ _ (@aa _ _ _ 16 _ _ _ be rfl rfl)) ab (fun _=>rfl) rfl rfl rfl) (fun _=>rfl))⟩
noncomputable def Bk:ax 3 bw (ac (iK (dO 7)) 0):=⟨_,fun g ok ba=>(@aB _ _ _ 16 _ _ _ _ _ (@b8 _ _ _ _ _ _ ok ab) rfl rfl)⟩
noncomputable def Bl:ax 3 bw (dO 7):=⟨_,fun g ok ba=>(@bL _ _ _ _ _ _ _ _ _ _ (@bZ _ _ _ _ _ (@aa _ _ _ 3 _ _ _ be rfl rfl) (fun _ _=>rfl)) (@aL _ _ _ (cD (dO 7)) 2 _ (by kernel_rfl) (@ay _ _ _ _ _ Hn g ok ba (@ay _ _ _ _ _ Ho g ok ba ai))) (@aL _ _ _ (iK (dO 7)) 1 _ (by kernel_rfl) (@ay _ _ _ _ _ Bk g ok ba ai)))⟩
noncomputable def Bm:ax 3 bw (dO 8):=⟨_,fun g ok ba=>(@bL _ _ _ _ _ _ _ _ _ _ (@bZ _ _ _ _ _ (@aa _ _ _ 2 _ _ _ be rfl rfl) (fun _ _=>rfl)) cu ai)⟩
theorem Nl:(tS "{http://www.w3.org/XML/1998/namespace}space")=(⟨([123,104,116,116,112,58,47,47,119,119,119,46,119,51,46,111,114,103,47,88,77,76,47,49,57,57,56,47,110,97,109,101,115,112,97,99,101,125,115,112,97,99,101]:List Nat).toArray⟩:Str):=by kernel_rfl
noncomputable def Bn:ax 3 bw (dO 9):=⟨_,fun g ok ba=>(@aB _ _ _ 18 _ _ _ _ _ (@al _ _ _ _ _ _ _ _ _ _ (@DD _ _ _ _ _ (@aa _ _ _ 2 _ _ _ be rfl rfl)) (@aA _ _ _ _ _ _ _ (@aK _ _ _ _ _ _ _ Nl) ab rfl) (fun _=>rfl) rfl rfl rfl) rfl rfl)⟩
theorem Nm:(tS "preserve")=(⟨([112,114,101,115,101,114,118,101]:List Nat).toArray⟩:Str):=by kernel_rfl
theorem m1 (P:Params):findIn (KK P) (.ref 150) (tS "_preserve_space")=some none:=by kernel_rfl
noncomputable def Bo:ax 3 bw (dO 10):=⟨_,fun g ok ba=>(@bH _ _ _ _ _ _ (@al _ _ _ _ _ _ _ _ _ _ (@cg _ _ _ _ _ (@aU _ _ _ _ _ _ _ _ 24 ok (aC g) (ow g) (m1 _) (@aa _ _ _ 0 _ _ _ be rfl rfl) (fun _=>rfl))) (@aA _ _ _ _ _ _ _ (@gK _ _ _ _ _ _ _ _ _ _ (@bZ _ _ _ _ _ (@aa _ _ _ 18 _ _ _ be rfl rfl) (fun _ _=>rfl)) (@n8 _ _ _ _ _ _ _ _ _ (@aa _ _ _ 18 _ _ _ be rfl rfl) (@aK _ _ _ _ _ _ _ Nm) rfl) (@a9 _ _ _ _ _ _ _ _ ok (@aU _ _ _ _ _ _ _ _ 24 ok (aC g) (ow g) (m1 _) (@aa _ _ _ 0 _ _ _ be rfl rfl) (fun _=>rfl)) (@d3 _ _ _ _ _ _ aq))) ab rfl) (fun _=>rfl) rfl rfl rfl) (fun _=>rfl))⟩
theorem v8 (P:Params):findIn (KK P) (.ref 150) (tS "_write")=some none:=by kernel_rfl
noncomputable def Bp:ax 3 bw (dO 11):=⟨_,fun g ok ba=>(@aB _ _ _ 19 _ _ _ _ _ (@aU _ _ _ _ _ _ _ _ 12 ok (aC g) (vh g) (v8 _) (@aa _ _ _ 0 _ _ _ be rfl rfl) (fun _=>rfl)) rfl rfl)⟩
noncomputable def Bq:ax 3 bw (dO 12):=⟨_,fun g ok ba=>(@bH _ _ _ _ _ _ (@jU _ _ _ _ _ _ _ _ _ _ _ _ (@DH _ _ _ _ 19 _ _ be rfl rfl) (@aA _ _ _ _ _ _ _ (@dz _ _ _ _ _ (@aD _ _ _ _ _ _ _ _ _ ok (@aK _ _ _ _ _ _ _ sB) (@a9 _ _ _ _ _ _ _ _ ok (@a9 _ _ _ _ _ _ _ _ ok (@aa _ _ _ 14 _ _ _ be rfl rfl) (@aa _ _ _ 1 _ _ _ be rfl rfl)) aq))) ab rfl) eP (fun _ _=>rfl) (fun _ _=>rfl) (fun _ _=>rfl)) (fun _=>rfl))⟩
noncomputable def xk:List (Str×NameKind):=[((tS ".0"),.local),((tS "k"),.local),((tS "v"),.local),((tS "_escape_attrib_c14n"),.globalImplicit)]
noncomputable def px:Sc:=⟨xk,false,0,(tS "")⟩
theorem o5:NamesOk px:=by unfold NamesOk; kernel_rfl
theorem Nn:(tS " ")=(⟨([32]:List Nat).toArray⟩:Str):=by kernel_rfl
theorem No:(tS "=\"")=(⟨([61,34]:List Nat).toArray⟩:Str):=by kernel_rfl
theorem D8:dc (tS "_escape_attrib_c14n"):=by kernel_rfl
theorem L6 (P:Params):nsIn (KK P) mainGlobals (tS "_escape_attrib_c14n")=some (some (.ref 168)):=by kernel_rfl
noncomputable def Br:ax 3 bw (ac (cD (dO 13)) 0):=⟨_,fun g ok ba=>(@bH _ _ _ _ _ _ (@jU _ _ _ _ _ _ _ _ _ _ _ _ (@DH _ _ _ _ 19 _ _ be rfl rfl) (@aA _ _ _ _ _ _ _ (@al _ _ _ _ _ _ _ _ _ _ (@uO _ _ _ _ _ (@aK _ _ _ _ _ _ _ lg)) (@aA _ _ _ _ _ _ _ (@cY _ _ _ px false _ _ _ _ _ _ _ _ _ _ ok (@CompOk.of _ _ _ [] (by kernel_rfl)) (@cP _ _ _ _ _ _ ok (@aa _ _ _ 16 _ _ _ be rfl rfl)) (fun _ _=>rfl) (@cT _ _ _ _ _ _ _ _ _ _ _ _ _ 60 (fun h=>nomatch h) (@cA _ _ _ _ _ _ _ (@aR _ _ _ _ _ _ _ (@aw _ _ _ 1 _ _ _ rfl (.inl rfl)) (@aR _ _ _ _ _ _ _ (@aw _ _ _ 2 _ _ _ rfl (.inl rfl)) dA (fun _=>rfl)) (fun _=>rfl)) (fun _=>rfl) (fun _=>rfl)) fx (@dz _ _ _ _ _ (@fR _ _ _ _ _ _ (@eQ _ _ _ _ _ _ _ _ _ Nn rfl (@ke _ _ _ _ _ _ _ _ (@aa _ _ _ 1 _ _ _ o5 rfl rfl) (@eQ _ _ _ _ _ _ _ _ _ No rfl (@ke _ _ _ _ _ _ _ _ (@ar _ _ _ _ _ _ _ _ _ (@aT _ _ _ _ 3 _ _ _ _ ok D8 rfl (L6 _) (@CB.up _ _ _ _ _ _ (@FN.cb _ _ _ _ _ ok (Ew g ok ba)) rfl)) (@aA _ _ _ _ _ _ _ (@aa _ _ _ 2 _ _ _ o5 rfl rfl) ab rfl) rfl) (@eQ _ _ _ _ _ _ _ _ _ y3 rfl oa (fun _=>rfl)) (fun _=>rfl)) (fun _=>rfl)) (fun _=>rfl)) (fun _=>rfl)) (by decide) (by decide))))) ab rfl) (fun _=>rfl) rfl rfl rfl) ab rfl) eP (fun _ _=>rfl) (fun _ _=>rfl) (fun _ _=>rfl)) (fun _=>rfl))⟩
noncomputable def Bs:ax 3 bw (dO 13):=⟨_,fun g ok ba=>(@bL _ _ _ _ _ _ _ _ _ _ (@bZ _ _ _ _ _ (@aa _ _ _ 16 _ _ _ be rfl rfl) (fun _ _=>rfl)) (@aL _ _ _ (cD (dO 13)) 1 _ (by kernel_rfl) (@ay _ _ _ _ _ Br g ok ba ai)) ai)⟩
theorem sC:(tS ">")=(⟨([62]:List Nat).toArray⟩:Str):=by kernel_rfl
noncomputable def Bt:ax 3 bw (dO 14):=⟨_,fun g ok ba=>(@bH _ _ _ _ _ _ (@jU _ _ _ _ _ _ _ _ _ _ _ _ (@DH _ _ _ _ 19 _ _ be rfl rfl) (@aA _ _ _ _ _ _ _ (@aK _ _ _ _ _ _ _ sC) ab rfl) eP (fun _ _=>rfl) (fun _ _=>rfl) (fun _ _=>rfl)) (fun _=>rfl))⟩
noncomputable def Bu:ax 3 bw (dO 15):=⟨_,fun g ok ba=>(@bL _ _ _ _ _ _ _ _ _ _ (@aY _ _ _ _ _ _ _ _ _ (@aa _ _ _ 4 _ _ _ be rfl rfl) cZ rfl) cu ai)⟩
noncomputable def Bv:ax 3 bw (dO 16):=⟨_,fun g ok ba=>(@bD _ _ _ _ _ _ _ _ _ _ _ 26 b7 ok (aC g) (CA g) (Dg _) (@aa _ _ _ 0 _ _ _ be rfl rfl) rfl)⟩
noncomputable def Bw:ax 3 bw (dO 17):=⟨_,fun g ok ba=>(@bH _ _ _ _ _ _ (@al _ _ _ _ _ _ _ _ _ _ (@cg _ _ _ _ _ (@aU _ _ _ _ _ _ _ _ 22 ok (aC g) (rI g) (wf _) (@aa _ _ _ 0 _ _ _ be rfl rfl) (fun _=>rfl))) (@aA _ _ _ _ _ _ _ (@b8 _ _ _ _ _ _ ok ab) ab rfl) (fun _=>rfl) rfl rfl rfl) (fun _=>rfl))⟩
noncomputable def xI:(D:List V→List V→DE) ×' (∀ g:GA,(Gk g).Ok→Bare g→FN (Gk g) 4 126 [] D):=⟨_,fun g ok ba=>aQ (lv:=3) (fd:=qd) (body:=im) (sc:=bw) ok (GB g) (@aI _ _ _ _ 4 [(0,.pos 0),(1,.pos 1),(2,.pos 2),(3,.pos 3),(4,.dfl .non .none)] [(tS "self"),(tS "tag"),(tS "attrs"),(tS "new_namespaces"),(tS "qname_text")] ok rfl (aS rfl) (au (by kernel_rfl)) (bj rfl) (fun h vals kvals X h1 h2=>by obtain ⟨u0,u1,u2,u3,rfl⟩:=O5 h1; obtain rfl:=d5 h2; exact Looks.of_peek (K:=KK g.w.params) X (by kernel_rfl))) (@aL _ _ _ im 18 _ (by kernel_rfl) (@ay _ _ _ _ _ Hf g ok ba (@ay _ _ _ _ _ Hg g ok ba (@ay _ _ _ _ _ Hh g ok ba (@ay _ _ _ _ _ Hi g ok ba (@ay _ _ _ _ _ Hk g ok ba (@ay _ _ _ _ _ Hl g ok ba (@ay _ _ _ _ _ Hm g ok ba (@ay _ _ _ _ _ Bl g ok ba (@ay _ _ _ _ _ Bm g ok ba (@ay _ _ _ _ _ Bn g ok ba (@ay _ _ _ _ _ Bo g ok ba (@ay _ _ _ _ _ Bp g ok ba (@ay _ _ _ _ _ Bq g ok ba (@ay _ _ _ _ _ Bs g ok ba (@ay _ _ _ _ _ Bt g ok ba (@ay _ _ _ _ _ Bu g ok ba (@ay _ _ _ _ _ Bv g ok ba (@ay _ _ _ _ _ Bw g ok ba ai)))))))))))))))))))⟩
noncomputable def KQ:List V→List V→DE:=xI.1
theorem Eu (g:GA) (ok:(Gk g).Ok) (ba:Bare g):FN (Gk g) 4 126 [] KQ:=xI.2 g ok ba
noncomputable def FX:List (Str×NameKind):=[((tS "self"),.local),((tS "tag"),.local),((tS "attrs"),.local),((tS "new_namespaces"),.local)]
noncomputable def fE:Sc:=⟨FX,true,119,(tS "C14NWriterTarget.start.<locals>.")⟩
theorem dG:NamesOk fE:=by unfold NamesOk; kernel_rfl
noncomputable def qc:FuncData:=dE (cG P0 120) default
noncomputable def il:List PySem.Stmt:=aX (some qc)
noncomputable abbrev tC:=ac il
theorem Gz (g:GA):FnOk (Gk g) 120 qc il fE:=FnOk.of (by kernel_rfl) (by kernel_rfl)
theorem v9 (P:Params):findIn (KK P) (.ref 150) (tS "_exclude_tags")=some none:=by kernel_rfl
theorem wa (P:Params):findIn (KK P) (.ref 150) (tS "_ignored_depth")=some none:=by kernel_rfl
noncomputable def G9:ax 4 fE (tC 0):=⟨_,fun g ok ba=>(@bL _ _ _ _ _ _ _ _ _ _ (@fV _ _ _ _ _ _ _ (@dw _ _ _ _ _ _ _ (@aY _ _ _ _ _ _ _ _ _ (@aU _ _ _ _ _ _ _ _ 17 ok (aC g) (vk g) (v9 _) (@aa _ _ _ 0 _ _ _ dG rfl rfl) (fun _=>rfl)) cZ rfl) (@dw _ _ _ _ _ _ _ (@fV _ _ _ _ _ _ _ (@Cj _ _ _ _ _ _ _ (@bZ _ _ _ _ _ (@aU _ _ _ _ _ _ _ _ 28 ok (aC g) (pT g) (wa _) (@aa _ _ _ 0 _ _ _ dG rfl rfl) (fun _=>rfl)) (fun _ _=>rfl)) (@Cj _ _ _ _ _ _ _ (@aY _ _ _ _ _ _ _ _ _ (@aa _ _ _ 1 _ _ _ dG rfl rfl) (@aU _ _ _ _ _ _ _ _ 17 ok (aC g) (vk g) (v9 _) (@aa _ _ _ 0 _ _ _ dG rfl rfl) (fun _=>rfl)) rfl) zV))) fw))) cu ai)⟩
theorem wb (P:Params):findIn (KK P) (.ref 150) (tS "_data")=some none:=by kernel_rfl
noncomputable def Ha:ax 4 fE (tC 1):=⟨_,fun g ok ba=>(@bL _ _ _ _ _ _ _ _ _ _ (@bZ _ _ _ _ _ (@aU _ _ _ _ _ _ _ _ 13 ok (aC g) (vj g) (wb _) (@aa _ _ _ 0 _ _ _ dG rfl rfl) (fun _=>rfl)) (fun _ _=>rfl)) cu ai)⟩
noncomputable def Hb:ax 4 fE (tC 2):=⟨_,fun g ok ba=>(@aB _ _ _ 3 _ _ _ _ _ (@b8 _ _ _ _ _ _ ok ab) rfl rfl)⟩
noncomputable def Hc:ax 4 fE (tC 3):=⟨_,fun g ok ba=>(@bH _ _ _ _ _ _ (@al _ _ _ _ _ _ _ _ _ _ (@cg _ _ _ _ _ (@aU _ _ _ _ _ _ _ _ 21 ok (aC g) (on g) (mY _) (@aa _ _ _ 0 _ _ _ dG rfl rfl) (fun _=>rfl))) (@aA _ _ _ _ _ _ _ (@aa _ _ _ 3 _ _ _ dG rfl rfl) ab rfl) (fun _=>rfl) rfl rfl rfl) (fun _=>rfl))⟩
theorem wc (P:Params):findIn (KK P) (.ref 150) (tS "_qname_aware_tags")=some none:=by kernel_rfl
noncomputable def Hd:ax 4 fE (tC 4):=⟨_,fun g ok ba=>(@bL _ _ _ _ _ _ _ _ _ _ (@fV _ _ _ _ _ _ _ (@dw _ _ _ _ _ _ _ (@aY _ _ _ _ _ _ _ _ _ (@aU _ _ _ _ _ _ _ _ 19 ok (aC g) (vl g) (wc _) (@aa _ _ _ 0 _ _ _ dG rfl rfl) (fun _=>rfl)) cZ rfl) (@dw _ _ _ _ _ _ _ (@aY _ _ _ _ _ _ _ _ _ (@aa _ _ _ 1 _ _ _ dG rfl rfl) (@aU _ _ _ _ _ _ _ _ 19 ok (aC g) (vl g) (wc _) (@aa _ _ _ 0 _ _ _ dG rfl rfl) (fun _=>rfl)) rfl) fw))) cu ai)⟩
theorem DV (g:GA):(Gk g).an[31]?=some (tS "_start"):=by kernel_rfl
theorem FK (P:Params):findIn (KK P) (.ref 150) (tS "_start")=some (some (.ref 126)):=by kernel_rfl
theorem Kn (P:Params):typeIn (KK P) (.ref 126)=some (.type "function"):=by kernel_rfl
noncomputable def He:ax 4 fE (tC 5):=⟨_,fun g ok ba=>(@bH _ _ _ _ _ _ (@al _ _ _ _ _ _ _ _ _ _ (@dB _ _ _ _ _ _ _ 31 _ _ _ ok (aC g) (DV g) (FK _) (Kn _) (@aa _ _ _ 0 _ _ _ dG rfl rfl) (@CB.up _ _ _ _ _ _ (@FN.cb _ _ _ _ _ ok (Eu g ok ba)) rfl)) (@aA _ _ _ _ _ _ _ (@aa _ _ _ 1 _ _ _ dG rfl rfl) (@aA _ _ _ _ _ _ _ (@aa _ _ _ 2 _ _ _ dG rfl rfl) (@aA _ _ _ _ _ _ _ (@aa _ _ _ 3 _ _ _ dG rfl rfl) ab rfl) rfl) rfl) (fun _=>rfl) rfl rfl rfl) (fun _=>rfl))⟩
noncomputable def xH:(D:List V→List V→DE) ×' (∀ g:GA,(Gk g).Ok→Bare g→FN (Gk g) 5 120 [] D):=⟨_,fun g ok ba=>aQ (lv:=4) (fd:=qc) (body:=il) (sc:=fE) ok (Gz g) (@aI _ _ _ _ 3 [(0,.pos 0),(1,.pos 1),(2,.pos 2)] [(tS "self"),(tS "tag"),(tS "attrs")] ok rfl (aS rfl) (au (by kernel_rfl)) (bj rfl) (fun h vals kvals X h1 h2=>by obtain ⟨u0,u1,u2,rfl⟩:=AW h1; obtain rfl:=d5 h2; exact Looks.of_peek (K:=KK g.w.params) X (by kernel_rfl))) (@aL _ _ _ il 6 _ (by kernel_rfl) (@ay _ _ _ _ _ G9 g ok ba (@ay _ _ _ _ _ Ha g ok ba (@ay _ _ _ _ _ Hb g ok ba (@ay _ _ _ _ _ Hc g ok ba (@ay _ _ _ _ _ Hd g ok ba (@ay _ _ _ _ _ He g ok ba ai)))))))⟩
noncomputable def KP:List V→List V→DE:=xH.1
theorem Et (g:GA) (ok:(Gk g).Ok) (ba:Bare g):FN (Gk g) 5 120 [] KP:=xH.2 g ok ba
noncomputable def FZ:List (Str×NameKind):=[((tS "self"),.local),((tS "tag"),.local),((tS "len"),.globalImplicit)]
noncomputable def e8:Sc:=⟨FZ,true,132,(tS "C14NWriterTarget.end.<locals>.")⟩
theorem eY:NamesOk e8:=by unfold NamesOk; kernel_rfl
noncomputable def qe:FuncData:=dE (cG P0 133) default
noncomputable def io:List PySem.Stmt:=aX (some qe)
noncomputable abbrev qX:=ac io
theorem GC (g:GA):FnOk (Gk g) 133 qe io e8:=FnOk.of (by kernel_rfl) (by kernel_rfl)
noncomputable def Hq:ax 1 e8 (qX 0):=⟨_,fun g ok ba=>(@bL _ _ _ _ _ _ _ _ _ _ (@bZ _ _ _ _ _ (@aU _ _ _ _ _ _ _ _ 28 ok (aC g) (pT g) (wa _) (@aa _ _ _ 0 _ _ _ eY rfl rfl) (fun _=>rfl)) (fun _ _=>rfl)) cu ai)⟩
noncomputable def Hr:ax 1 e8 (qX 1):=⟨_,fun g ok ba=>(@bL _ _ _ _ _ _ _ _ _ _ (@bZ _ _ _ _ _ (@aU _ _ _ _ _ _ _ _ 13 ok (aC g) (vj g) (wb _) (@aa _ _ _ 0 _ _ _ eY rfl rfl) (fun _=>rfl)) (fun _ _=>rfl)) cu ai)⟩
theorem Dd:(tS "</")=(⟨([60,47]:List Nat).toArray⟩:Str):=by kernel_rfl
noncomputable def Hs:ax 1 e8 (qX 2):=⟨_,fun g ok ba=>(@bH _ _ _ _ _ _ (@al _ _ _ _ _ _ _ _ _ _ (@Ol _ _ _ _ _ _ _ 12 ok (aC g) (vh g) (v8 _) (@aa _ _ _ 0 _ _ _ eY rfl rfl)) (@aA _ _ _ _ _ _ _ (@dz _ _ _ _ _ (@fR _ _ _ _ _ _ (@eQ _ _ _ _ _ _ _ _ _ Dd rfl (@ke _ _ _ _ _ _ _ _ (@a9 _ _ _ _ _ _ _ _ ok (@al _ _ _ _ _ _ _ _ _ _ (@dB _ _ _ _ _ _ _ 30 _ _ _ ok (aC g) (u8 g) (xb _) (zv _) (@aa _ _ _ 0 _ _ _ eY rfl rfl) (@CB.up _ _ _ _ _ _ (@FN.cb _ _ _ _ _ ok (CP g ok ba)) rfl)) (@aA _ _ _ _ _ _ _ (@aa _ _ _ 1 _ _ _ eY rfl rfl) ab rfl) (fun _=>rfl) rfl rfl rfl) aq) (@eQ _ _ _ _ _ _ _ _ _ sC rfl oa (fun _=>rfl)) (fun _=>rfl)) (fun _=>rfl)) (by decide) (by decide))) ab rfl) (fun _=>rfl) rfl rfl rfl) (fun _=>rfl))⟩
noncomputable def Ht:ax 1 e8 (qX 3):=⟨_,fun g ok ba=>(@bH _ _ _ _ _ _ (@al _ _ _ _ _ _ _ _ _ _ (@uP _ _ _ _ _ (@aU _ _ _ _ _ _ _ _ 24 ok (aC g) (ow g) (m1 _) (@aa _ _ _ 0 _ _ _ eY rfl rfl) (fun _=>rfl))) ab (fun _=>rfl) rfl rfl rfl) (fun _=>rfl))⟩
noncomputable def Hu:ax 1 e8 (qX 4):=⟨_,fun g ok ba=>(@bD _ _ _ _ _ _ _ _ _ _ _ 27 (@n8 _ _ _ _ _ _ _ _ _ (@ar _ _ _ _ _ _ _ _ _ (@az _ _ _ _ 2 _ _ _ _ ok rfl (s7 g) fJ) (@aA _ _ _ _ _ _ _ (@aU _ _ _ _ _ _ _ _ 24 ok (aC g) (ow g) (m1 _) (@aa _ _ _ 0 _ _ _ eY rfl rfl) (fun _=>rfl)) ab rfl) rfl) aq rfl) ok (aC g) (u7 g) (zs _) (@aa _ _ _ 0 _ _ _ eY rfl rfl) rfl)⟩
noncomputable def Hv:ax 1 e8 (qX 5):=⟨_,fun g ok ba=>(@bH _ _ _ _ _ _ (@al _ _ _ _ _ _ _ _ _ _ (@uP _ _ _ _ _ (@aU _ _ _ _ _ _ _ _ 21 ok (aC g) (on g) (mY _) (@aa _ _ _ 0 _ _ _ eY rfl rfl) (fun _=>rfl))) ab (fun _=>rfl) rfl rfl rfl) (fun _=>rfl))⟩
noncomputable def Hw:ax 1 e8 (qX 6):=⟨_,fun g ok ba=>(@bH _ _ _ _ _ _ (@al _ _ _ _ _ _ _ _ _ _ (@uP _ _ _ _ _ (@aU _ _ _ _ _ _ _ _ 22 ok (aC g) (rI g) (wf _) (@aa _ _ _ 0 _ _ _ eY rfl rfl) (fun _=>rfl))) ab (fun _=>rfl) rfl rfl rfl) (fun _=>rfl))⟩
noncomputable def xJ:(D:List V→List V→DE) ×' (∀ g:GA,(Gk g).Ok→Bare g→FN (Gk g) 2 133 [] D):=⟨_,fun g ok ba=>aQ (lv:=1) (fd:=qe) (body:=io) (sc:=e8) ok (GC g) (@aI _ _ _ _ 2 [(0,.pos 0),(1,.pos 1)] [(tS "self"),(tS "tag")] ok rfl (aS rfl) (au (by kernel_rfl)) (bj rfl) (fun h vals kvals X h1 h2=>by obtain ⟨u0,u1,rfl⟩:=jQ h1; obtain rfl:=d5 h2; exact Looks.of_peek (K:=KK g.w.params) X (by kernel_rfl))) (@aL _ _ _ io 7 _ (by kernel_rfl) (@ay _ _ _ _ _ Hq g ok ba (@ay _ _ _ _ _ Hr g ok ba (@ay _ _ _ _ _ Hs g ok ba (@ay _ _ _ _ _ Ht g ok ba (@ay _ _ _ _ _ Hu g ok ba (@ay _ _ _ _ _ Hv g ok ba (@ay _ _ _ _ _ Hw g ok ba ai))))))))⟩
noncomputable def KR:List V→List V→DE:=xJ.1
theorem Ev (g:GA) (ok:(Gk g).Ok) (ba:Bare g):FN (Gk g) 2 133 [] KR:=xJ.2 g ok ba
noncomputable def Gj:List (Str×NameKind):=[((tS "cells"),.local),((tS "tower"),.local),((tS "depths"),.local),((tS "leads"),.local),((tS "cell"),.local),((tS "depth"),.local),((tS "len"),.globalImplicit)]
noncomputable def eF:Sc:=⟨Gj,true,391,(tS "_law_page.<locals>.")⟩
theorem dI:NamesOk eF:=by unfold NamesOk; kernel_rfl
noncomputable def qt:FuncData:=dE (cG P0 392) default
noncomputable def cV:List PySem.Stmt:=aX (some qt)
noncomputable abbrev FU:=ac cV
theorem GQ (g:GA):FnOk (Gk g) 392 qt cV eF:=FnOk.of (by kernel_rfl) (by kernel_rfl)
noncomputable def Iy:ax 0 eF (ac (aN cV 1) 0):=⟨_,fun g ok ba=>(@aB _ _ _ 5 _ _ _ _ _ (@aD _ _ _ _ _ _ _ _ _ ok aq (@Du _ _ _ _ _ _ _ _ ok (@aa _ _ _ 4 _ _ _ dI rfl rfl) (@ar _ _ _ _ _ _ _ _ _ (@az _ _ _ _ 6 _ _ _ _ ok rfl (s7 g) fJ) (@aA _ _ _ _ _ _ _ (@aa _ _ _ 1 _ _ _ dI rfl rfl) ab rfl) rfl))) rfl rfl)⟩
theorem Np:(tS "  ")=(⟨([32,32]:List Nat).toArray⟩:Str):=by kernel_rfl
theorem Nq:(tS " \t")=(⟨([32,9]:List Nat).toArray⟩:Str):=by kernel_rfl
noncomputable def Iz:ax 0 eF (ac (aN cV 1) 1):=⟨_,fun g ok ba=>(@aB _ _ _ 1 _ _ _ _ _ (@aD _ _ _ _ _ _ _ _ _ ok (@cW _ _ _ _ _ _ _ _ _ _ _ ok (@aa _ _ _ 1 _ _ _ dI rfl rfl) ez (@dL _ _ _ _ _ (@aa _ _ _ 5 _ _ _ dI rfl rfl))) (@bk _ _ _ _ _ _ ok (@aA _ _ _ _ _ _ _ (@aD _ _ _ _ _ _ _ _ _ ok (@a9 _ _ _ _ _ _ _ _ ok (@aa _ _ _ 1 _ _ _ dI rfl rfl) (@aD _ _ _ _ _ _ _ _ _ ok (@aa _ _ _ 5 _ _ _ dI rfl rfl) aq)) (@a9 _ _ _ _ _ _ _ _ ok (@bk _ _ _ _ _ _ ok (@aA _ _ _ _ _ _ _ (@aK _ _ _ _ _ _ _ C9) (@aA _ _ _ _ _ _ _ (@aK _ _ _ _ _ _ _ Np) (@aA _ _ _ _ _ _ _ (@aK _ _ _ _ _ _ _ Nq) ab rfl) rfl) rfl)) (@Dv _ _ _ _ _ _ _ _ _ _ _ 2 ok (@aa _ _ _ 4 _ _ _ dI rfl rfl)))) ab rfl))) rfl rfl)⟩
noncomputable def IA:ax 0 eF (ac (aN cV 1) 2):=⟨_,fun g ok ba=>(@bH _ _ _ _ _ _ (@al _ _ _ _ _ _ _ _ _ _ (@cg _ _ _ _ _ (@aa _ _ _ 2 _ _ _ dI rfl rfl)) (@aA _ _ _ _ _ _ _ (@aa _ _ _ 5 _ _ _ dI rfl rfl) ab rfl) (fun _=>rfl) rfl rfl rfl) (fun _=>rfl))⟩
noncomputable def IB:ax 0 eF (ac (aN cV 1) 3):=⟨_,fun g ok ba=>(@bH _ _ _ _ _ _ (@al _ _ _ _ _ _ _ _ _ _ (@cg _ _ _ _ _ (@aa _ _ _ 3 _ _ _ dI rfl rfl)) (@aA _ _ _ _ _ _ _ (@a9 _ _ _ _ _ _ _ _ ok (@aa _ _ _ 1 _ _ _ dI rfl rfl) (@d3 _ _ _ _ _ _ aq)) ab rfl) (fun _=>rfl) rfl rfl rfl) (fun _=>rfl))⟩
noncomputable def pf:Lc 0 eF (aN cV 1):=⟨_,fun g ok ba=>(@aL _ _ _ (aN cV 1) 4 _ (by kernel_rfl) (@ay _ _ _ _ _ Iy g ok ba (@ay _ _ _ _ _ Iz g ok ba (@ay _ _ _ _ _ IA g ok ba (@ay _ _ _ _ _ IB g ok ba ai)))))⟩
noncomputable def bt:DS:=pf.1
noncomputable def IC:ax 0 eF (FU 0):=⟨_,fun g ok ba=>(@fU _ _ _ _ _ _ _ [3,2,1] [(tS "leads"),(tS "depths"),(tS "tower")] _ _ (@bA _ _ _ _ _ _ _ ok (@aA _ _ _ _ _ _ _ (@bk _ _ _ _ _ _ ok (@aA _ _ _ _ _ _ _ (@aK _ _ _ _ _ _ _ lg) ab rfl)) (@aA _ _ _ _ _ _ _ (@b8 _ _ _ _ _ _ ok (@aA _ _ _ _ _ _ _ aq ab rfl)) (@aA _ _ _ _ _ _ _ (@b8 _ _ _ _ _ _ ok (@aA _ _ _ _ _ _ _ (@aK _ _ _ _ _ _ _ lg) ab rfl)) ab rfl) rfl) rfl) (by decide)) (fun _=>rfl) (fun env he=>(dJ he).trans (by kernel_rfl)) rfl (dq rfl))⟩
noncomputable def ID:ax 0 eF (FU 1):=⟨_,fun g ok ba=>(@em _ _ _ false _ _ _ _ _ _ _ 60 (@cP _ _ _ _ _ _ ok (@aa _ _ _ 0 _ _ _ dI rfl rfl)) (fun h=>nomatch h) (@aw _ _ _ 4 _ _ _ rfl (.inl rfl)) (@Pq _ _ _ pf g ok ba) (fun _ _=>rfl))⟩
noncomputable def IE:ax 0 eF (FU 2):=⟨_,fun g ok ba=>(@aF _ _ _ _ _ _ (@bA _ _ _ _ _ _ _ ok (@mH _ _ _ _ _ _ _ (@lN _ _ _ _ _ ok (@aa _ _ _ 2 _ _ _ dI rfl rfl)) (@mH _ _ _ _ _ _ _ (@lN _ _ _ _ _ ok (@aa _ _ _ 3 _ _ _ dI rfl rfl)) ab (fun _ _=>rfl)) (fun _ _=>rfl)) (by decide)))⟩
noncomputable def xX:(D:List V→List V→DE) ×' (∀ g:GA,(Gk g).Ok→Bare g→FN (Gk g) 1 392 [] D):=⟨_,fun g ok ba=>aQ (lv:=0) (fd:=qt) (body:=cV) (sc:=eF) ok (GQ g) (@aI _ _ _ _ 1 [(0,.pos 0)] [(tS "cells")] ok rfl (aS rfl) (au (by kernel_rfl)) (bj rfl) (fun h vals kvals X h1 h2=>by obtain ⟨u0,rfl⟩:=ji h1; obtain rfl:=d5 h2; exact Looks.of_peek (K:=KK g.w.params) X (by kernel_rfl))) (@aL _ _ _ cV 3 _ (by kernel_rfl) (@ay _ _ _ _ _ IC g ok ba (@ay _ _ _ _ _ ID g ok ba (@ay _ _ _ _ _ IE g ok ba ai))))⟩
noncomputable def uA:List V→List V→DE:=xX.1
theorem EH (g:GA) (ok:(Gk g).Ok) (ba:Bare g):FN (Gk g) 1 392 [] uA:=xX.2 g ok ba
theorem EX (g:GA) (ok:(Gk g).Ok) (ba:Bare g):FN (Gk g) 1 392 [] (cj uA):=FN.apart ba.gn fun hp=>EH {g with gn:=AllBare,hp:=hp} (ok.pv AllBare hp) ⟨rfl⟩
noncomputable def Gl:List (Str×NameKind):=[((tS "leads"),.local),((tS "pile"),.local),((tS "depths"),.local),((tS "lead"),.local),((tS "indent"),.local),((tS "Whitespace"),.globalImplicit),((tS "len"),.globalImplicit)]
noncomputable def eh:Sc:=⟨Gl,true,398,(tS "_law_found.<locals>.")⟩
theorem eD:NamesOk eh:=by unfold NamesOk; kernel_rfl
noncomputable def qu:FuncData:=dE (cG P0 399) default
noncomputable def ch:List PySem.Stmt:=aX (some qu)
noncomputable abbrev FV:=ac ch
theorem GR (g:GA):FnOk (Gk g) 399 qu ch eh:=FnOk.of (by kernel_rfl) (by kernel_rfl)
noncomputable def lc:ax 2 eh (ac (aN ch 1) 0):=⟨_,fun g ok ba=>(@aB _ _ _ 4 _ _ _ _ _ (@ar _ _ _ _ _ _ _ _ _ (@aT _ _ _ _ 5 _ _ _ _ ok vP rfl (Fd _) (@CB.up _ _ _ _ _ _ (AJ g ok ba) rfl)) (@aA _ _ _ _ _ _ _ (@aa _ _ _ 3 _ _ _ eD rfl rfl) ab rfl) rfl) rfl rfl)⟩
theorem DW (g:GA):(Gk g).an[7]?=some (tS "less"):=by kernel_rfl
theorem FL (P:Params):findIn (KK P) (.ref 237) (tS "less")=some (some (.ref 227)):=by kernel_rfl
theorem Ko (P:Params):typeIn (KK P) (.ref 227)=some (.type "function"):=by kernel_rfl
noncomputable def ye:ax 2 eh (ac (zB (ac (aN ch 1) 1)) 0):=⟨_,fun g ok ba=>(@aB _ _ _ 1 _ _ _ _ _ (@cW _ _ _ _ _ _ _ _ _ _ _ ok (@aa _ _ _ 1 _ _ _ eD rfl rfl) ez (@dL _ _ _ _ _ (@d3 _ _ _ _ _ _ aq))) rfl rfl)⟩
noncomputable def q7:ax 2 eh (ac (aN ch 1) 1):=⟨_,fun g ok ba=>(@jV _ _ _ _ _ _ _ _ 60 (@fV _ _ _ _ _ _ _ (@dw _ _ _ _ _ _ _ (@bZ _ _ _ _ _ (@aa _ _ _ 1 _ _ _ eD rfl rfl) (fun _ _=>rfl)) (@dw _ _ _ _ _ _ _ (@Ct _ _ _ _ _ _ (@bZ _ _ _ _ _ (@al _ _ _ _ _ _ _ _ _ _ (@kc _ _ _ _ _ _ _ 7 _ _ _ ok (bV g) (DW g) (FL _) (Ko _) (@a9 _ _ _ _ _ _ _ _ ok (@aa _ _ _ 1 _ _ _ eD rfl rfl) (@d3 _ _ _ _ _ _ aq)) (@CB.up _ _ _ _ _ _ (@FN.cb _ _ _ _ _ ok (E9 g ok ba)) rfl)) (@aA _ _ _ _ _ _ _ (@aa _ _ _ 4 _ _ _ eD rfl rfl) ab rfl) (fun _=>rfl) rfl rfl rfl) (fun _ _=>rfl))) fw))) (@aL _ _ _ (zB (ac (aN ch 1) 1)) 1 _ (by kernel_rfl) (@ay _ _ _ _ _ ye g ok ba ai)))⟩
noncomputable def ld:ax 2 eh (ac (aN ch 1) 2):=⟨_,fun g ok ba=>(@bH _ _ _ _ _ _ (@al _ _ _ _ _ _ _ _ _ _ (@cg _ _ _ _ _ (@aa _ _ _ 2 _ _ _ eD rfl rfl)) (@aA _ _ _ _ _ _ _ (@ar _ _ _ _ _ _ _ _ _ (@az _ _ _ _ 6 _ _ _ _ ok rfl (s7 g) fJ) (@aA _ _ _ _ _ _ _ (@aa _ _ _ 1 _ _ _ eD rfl rfl) ab rfl) rfl) ab rfl) (fun _=>rfl) rfl rfl rfl) (fun _=>rfl))⟩
noncomputable def q8:ax 2 eh (ac (aN ch 1) 3):=⟨_,fun g ok ba=>(@aB _ _ _ 1 _ _ _ _ _ (@aD _ _ _ _ _ _ _ _ _ ok (@aa _ _ _ 1 _ _ _ eD rfl rfl) (@bk _ _ _ _ _ _ ok (@aA _ _ _ _ _ _ _ (@aa _ _ _ 4 _ _ _ eD rfl rfl) ab rfl))) rfl rfl)⟩
noncomputable def pg:Lc 2 eh (aN ch 1):=⟨_,fun g ok ba=>(@aL _ _ _ (aN ch 1) 4 _ (by kernel_rfl) (@ay _ _ _ _ _ lc g ok ba (@ay _ _ _ _ _ q7 g ok ba (@ay _ _ _ _ _ ld g ok ba (@ay _ _ _ _ _ q8 g ok ba ai)))))⟩
noncomputable def bU:DS:=pg.1
noncomputable def IF:ax 2 eh (FV 0):=⟨_,fun g ok ba=>(@fU _ _ _ _ _ _ _ [2,1] [(tS "depths"),(tS "pile")] _ _ (@bA _ _ _ _ _ _ _ ok (@aA _ _ _ _ _ _ _ (@bk _ _ _ _ _ _ ok ab) (@aA _ _ _ _ _ _ _ (@b8 _ _ _ _ _ _ ok ab) ab rfl) rfl) (by decide)) (fun _=>rfl) (fun env he=>(dJ he).trans (by kernel_rfl)) rfl (dq rfl))⟩
noncomputable def IG:ax 2 eh (FV 1):=⟨_,fun g ok ba=>(@em _ _ _ false _ _ _ _ _ _ _ 60 (@cP _ _ _ _ _ _ ok (@aa _ _ _ 0 _ _ _ eD rfl rfl)) (fun h=>nomatch h) (@aw _ _ _ 3 _ _ _ rfl (.inl rfl)) (@Pq _ _ _ pg g ok ba) (fun _ _=>rfl))⟩
noncomputable def IH:ax 2 eh (FV 2):=⟨_,fun g ok ba=>(@aF _ _ _ _ _ _ (@lN _ _ _ _ _ ok (@aa _ _ _ 2 _ _ _ eD rfl rfl)))⟩
noncomputable def xY:(D:List V→List V→DE) ×' (∀ g:GA,(Gk g).Ok→Bare g→FN (Gk g) 3 399 [] D):=⟨_,fun g ok ba=>aQ (lv:=2) (fd:=qu) (body:=ch) (sc:=eh) ok (GR g) (@aI _ _ _ _ 1 [(0,.pos 0)] [(tS "leads")] ok rfl (aS rfl) (au (by kernel_rfl)) (bj rfl) (fun h vals kvals X h1 h2=>by obtain ⟨u0,rfl⟩:=ji h1; obtain rfl:=d5 h2; exact Looks.of_peek (K:=KK g.w.params) X (by kernel_rfl))) (@aL _ _ _ ch 3 _ (by kernel_rfl) (@ay _ _ _ _ _ IF g ok ba (@ay _ _ _ _ _ IG g ok ba (@ay _ _ _ _ _ IH g ok ba ai))))⟩
noncomputable def uB:List V→List V→DE:=xY.1
theorem EI (g:GA) (ok:(Gk g).Ok) (ba:Bare g):FN (Gk g) 3 399 [] uB:=xY.2 g ok ba
theorem EY (g:GA) (ok:(Gk g).Ok) (ba:Bare g):FN (Gk g) 3 399 [] (cj uB):=FN.apart ba.gn fun hp=>EI {g with gn:=AllBare,hp:=hp} (ok.pv AllBare hp) ⟨rfl⟩
noncomputable def Gm:List (Str×NameKind):=[((tS "depths"),.cell),((tS "parents"),.local),((tS "line"),.local),((tS "depth"),.cell),((tS "enumerate"),.globalImplicit),((tS "max"),.globalImplicit),((tS "range"),.globalImplicit)]
noncomputable def hV:Sc:=⟨Gm,true,403,(tS "_law_parents.<locals>.")⟩
theorem nn:NamesOk hV:=by unfold NamesOk; kernel_rfl
noncomputable def qv:FuncData:=dE (cG P0 404) default
noncomputable def iC:List PySem.Stmt:=aX (some qv)
noncomputable abbrev xg:=ac iC
theorem GS (g:GA):FnOk (Gk g) 404 qv iC hV:=FnOk.of (by kernel_rfl) (by kernel_rfl)
noncomputable def II:ax 0 hV (xg 0):=⟨_,fun g ok ba=>(@aB _ _ _ 1 _ _ _ _ _ (@b8 _ _ _ _ _ _ ok ab) rfl rfl)⟩
theorem vn (g:GA):Bltin (Gk g) (tS "enumerate") (.type "enumerate"):=⟨by kernel_rfl,by decide,PyProof.Rows.Boot.«enumerate»,by kernel_rfl⟩
noncomputable def xp:List (Str×NameKind):=[((tS ".0"),.local),((tS "early"),.local),((tS "depth"),.cell),((tS "depths"),.cell)]
noncomputable def pB:Sc:=⟨xp,false,0,(tS "")⟩
theorem iR:NamesOk pB:=by unfold NamesOk; kernel_rfl
noncomputable def IJ:ax 0 hV (ac (cw (xg 1)) 0):=⟨_,fun g ok ba=>(@bH _ _ _ _ _ _ (@al _ _ _ _ _ _ _ _ _ _ (@cg _ _ _ _ _ (@aa _ _ _ 1 _ _ _ nn rfl rfl)) (@aA _ _ _ _ _ _ _ (@ar _ _ _ _ _ _ _ _ _ (@az _ _ _ _ 5 _ _ _ _ ok rfl (vq g) n5) (@aA _ _ _ _ _ _ _ (@aD _ _ _ _ _ _ _ _ _ ok (@bk _ _ _ _ _ _ ok (@aA _ _ _ _ _ _ _ aq ab rfl)) (@cY _ _ _ pB false _ _ _ _ _ _ _ _ _ _ ok (@CompOk.of _ _ _ [(2,3),(3,0)] (by kernel_rfl)) (@cB _ _ _ _ _ 6 _ _ _ _ _ _ ok rfl (lB g) (fun _ h=>nomatch h) (eO ok) (@aA _ _ _ _ _ _ _ (@aa _ _ _ 2 _ _ _ nn rfl rfl) ab rfl) (fun _ _=>rfl)) (fun _ _=>rfl) (@cT _ _ _ _ _ _ _ _ _ _ _ _ _ 60 (fun h=>nomatch h) (@aw _ _ _ 1 _ _ _ rfl (.inl rfl)) (@mK _ _ _ _ _ (@aY _ _ _ _ _ _ _ _ _ (@a9 _ _ _ _ _ _ _ _ ok (@aa _ _ _ 3 _ _ _ iR rfl rfl) (@aa _ _ _ 1 _ _ _ iR rfl rfl)) (@aa _ _ _ 2 _ _ _ iR rfl rfl) rfl)) (@aa _ _ _ 1 _ _ _ iR rfl rfl)))) ab rfl) rfl) ab rfl) (fun _=>rfl) rfl rfl rfl) (fun _=>rfl))⟩
noncomputable def IK:ax 0 hV (xg 1):=⟨_,fun g ok ba=>(@em _ _ _ true _ _ _ _ _ _ _ 60 (@cB _ _ _ _ _ 4 _ _ _ _ _ _ ok rfl (vn g) (fun _ h=>nomatch h) (pP ok) (@aA _ _ _ _ _ _ _ (@aa _ _ _ 0 _ _ _ nn rfl rfl) ab rfl) (fun _ _=>rfl)) (fun _=>rfl) (@cA _ _ _ _ _ _ _ (@aR _ _ _ _ _ _ _ (@aw _ _ _ 2 _ _ _ rfl (.inl rfl)) (@aR _ _ _ _ _ _ _ (@aw _ _ _ 3 _ _ _ rfl (.inr ⟨rfl,rfl⟩)) dA (fun _=>rfl)) (fun _=>rfl)) (fun _=>rfl) (fun _=>rfl)) (@aL _ _ _ (cw (xg 1)) 1 _ (by kernel_rfl) (@ay _ _ _ _ _ IJ g ok ba ai)) (fun _ _=>rfl))⟩
noncomputable def IL:ax 0 hV (xg 2):=⟨_,fun g ok ba=>(@aF _ _ _ _ _ _ (@rA _ _ _ _ _ (@lN _ _ _ _ _ ok (@aa _ _ _ 1 _ _ _ nn rfl rfl))))⟩
noncomputable def xZ:(D:List V→List V→DE) ×' (∀ g:GA,(Gk g).Ok→Bare g→FN (Gk g) 1 404 [] D):=⟨_,fun g ok ba=>aQ (lv:=0) (fd:=qv) (body:=iC) (sc:=hV) ok (GS g) (@aI _ _ _ _ 1 [(0,.pos 0)] [(tS "depths")] ok rfl (aS rfl) (au (by kernel_rfl)) (bj rfl) (fun h vals kvals X h1 h2=>by obtain ⟨u0,rfl⟩:=ji h1; obtain rfl:=d5 h2; exact Looks.of_peek (K:=KK g.w.params) X (by kernel_rfl))) (@aL _ _ _ iC 3 _ (by kernel_rfl) (@ay _ _ _ _ _ II g ok ba (@ay _ _ _ _ _ IK g ok ba (@ay _ _ _ _ _ IL g ok ba ai))))⟩
noncomputable def Cm:List V→List V→DE:=xZ.1
theorem EJ (g:GA) (ok:(Gk g).Ok) (ba:Bare g):FN (Gk g) 1 404 [] Cm:=xZ.2 g ok ba
theorem EZ (g:GA) (ok:(Gk g).Ok) (ba:Bare g):FN (Gk g) 1 404 [] (cj Cm):=FN.apart ba.gn fun hp=>EJ {g with gn:=AllBare,hp:=hp} (ok.pv AllBare hp) ⟨rfl⟩
noncomputable def Go:List (Str×NameKind):=[((tS "parents"),.local),((tS "book"),.local),((tS "line"),.local),((tS "word"),.local),((tS "above"),.local),((tS "rank"),.local),((tS "Headers"),.globalImplicit),((tS "range"),.globalImplicit),((tS "_law_word"),.globalImplicit),((tS "Int2AP"),.globalImplicit),((tS "ord"),.globalImplicit)]
noncomputable def ek:Sc:=⟨Go,true,410,(tS "_law_book.<locals>.")⟩
theorem cx:NamesOk ek:=by unfold NamesOk; kernel_rfl
noncomputable def qw:FuncData:=dE (cG P0 411) default
noncomputable def iD:List PySem.Stmt:=aX (some qw)
noncomputable abbrev jR:=ac iD
theorem GT (g:GA):FnOk (Gk g) 411 qw iD ek:=FnOk.of (by kernel_rfl) (by kernel_rfl)
theorem FS (P:Params):makesIn (KK P) 374=true:=by kernel_rfl
theorem J7 (P:Params):specialIn (KK P) (.ref 374) "__call__"=some (some (.builtin "type.__call__")):=by kernel_rfl
theorem D9:dc (tS "Headers"):=by kernel_rfl
theorem L7 (P:Params):nsIn (KK P) mainGlobals (tS "Headers")=some (some (.ref 374)):=by kernel_rfl
theorem FM (P:Params):findIn (KK P) (.ref 374) (tS "__init__")=some (some (.ref 266)):=by kernel_rfl
theorem Kp (P:Params):typeIn (KK P) (.ref 266)=some (.type "function"):=by kernel_rfl
noncomputable def IM:ax 3 ek (jR 0):=⟨_,fun g ok ba=>(@aB _ _ _ 1 _ _ _ _ _ (@ar _ _ _ _ _ _ _ _ _ (@aT _ _ _ _ 6 _ _ _ _ ok D9 rfl (L7 _) (@CB.up _ _ _ _ _ _ (@n6 _ _ _ _ _ _ ok (FS _) (FM _) (Kp _) (J7 _) (by kernel_rfl) (EC g ok ba)) rfl)) ab rfl) rfl rfl)⟩
theorem gW:dc (tS "_law_word"):=by kernel_rfl
theorem kA (P:Params):nsIn (KK P) mainGlobals (tS "_law_word")=some (some (.ref 385)):=by kernel_rfl
noncomputable def IN:ax 3 ek (ac (cw (jR 1)) 0):=⟨_,fun g ok ba=>(@fU _ _ _ _ _ _ _ [4,3] [(tS "above"),(tS "word")] _ _ (@bA _ _ _ _ _ _ _ ok (@aA _ _ _ _ _ _ _ (@ar _ _ _ _ _ _ _ _ _ (@aT _ _ _ _ 8 _ _ _ _ ok gW rfl (kA _) (@CB.up _ _ _ _ _ _ (@FN.cb _ _ _ _ _ ok (gZ g ok ba)) rfl)) (@aA _ _ _ _ _ _ _ (@aa _ _ _ 2 _ _ _ cx rfl rfl) ab rfl) rfl) (@aA _ _ _ _ _ _ _ (@ar _ _ _ _ _ _ _ _ _ (@aT _ _ _ _ 8 _ _ _ _ ok gW rfl (kA _) (@CB.up _ _ _ _ _ _ (@FN.cb _ _ _ _ _ ok (gZ g ok ba)) rfl)) (@aA _ _ _ _ _ _ _ (@a9 _ _ _ _ _ _ _ _ ok (@aa _ _ _ 0 _ _ _ cx rfl rfl) (@aa _ _ _ 2 _ _ _ cx rfl rfl)) ab rfl) rfl) ab rfl) rfl) (by decide)) (fun _=>rfl) (fun env he=>(dJ he).trans (by kernel_rfl)) rfl (dq rfl))⟩
theorem Nr:(tS "B")=(⟨([66]:List Nat).toArray⟩:Str):=by kernel_rfl
theorem ve (g:GA):(Gk g).an[11]?=some (tS "setdefault"):=by kernel_rfl
theorem xc (P:Params):findIn (KK P) (.ref 374) (tS "setdefault")=some (some (.ref 364)):=by kernel_rfl
theorem zw (P:Params):typeIn (KK P) (.ref 364)=some (.type "function"):=by kernel_rfl
noncomputable def IO:ax 3 ek (ac (cw (jR 1)) 1):=⟨_,fun g ok ba=>(@aB _ _ _ 5 _ _ _ _ _ (@al _ _ _ _ _ _ _ _ _ _ (@dB _ _ _ _ _ _ _ 11 _ _ _ ok (bP g) (ve g) (xc _) (zw _) (@aa _ _ _ 1 _ _ _ cx rfl rfl) (@CB.up _ _ _ _ _ _ (@FN.cb _ _ _ _ _ ok (wh g ok ba)) rfl)) (@aA _ _ _ _ _ _ _ (@aa _ _ _ 3 _ _ _ cx rfl rfl) (@aA _ _ _ _ _ _ _ (@aK _ _ _ _ _ _ _ Nr) ab rfl) rfl) (fun _=>rfl) rfl rfl rfl) rfl rfl)⟩
theorem y6:(tS "-")=(⟨([45]:List Nat).toArray⟩:Str):=by kernel_rfl
theorem CD (g:GA):Bltin (Gk g) (tS "ord") (.builtin "ord"):=⟨by kernel_rfl,by decide,PyProof.Rows.Boot.«ord»,by kernel_rfl⟩
noncomputable def IP:ax 3 ek (ac (cD (ac (cw (jR 1)) 2)) 0):=⟨_,fun g ok ba=>(@aB _ _ _ 5 _ _ _ _ _ (@dz _ _ _ _ _ (@al _ _ _ _ _ _ _ _ _ _ (@jb _ _ _ _ _ (@ar _ _ _ _ _ _ _ _ _ (@aT _ _ _ _ 9 _ _ _ _ ok Ek rfl (OO _) (@CB.up _ _ _ _ _ _ (@FN.cb _ _ _ _ _ ok (qF g ok ba)) rfl)) (@aA _ _ _ _ _ _ _ (@aD _ _ _ _ _ _ _ _ _ ok (@ar _ _ _ _ _ _ _ _ _ (@az _ _ _ _ 10 _ _ _ _ ok rfl (CD g) Ch) (@aA _ _ _ _ _ _ _ (@aa _ _ _ 5 _ _ _ cx rfl rfl) ab rfl) rfl) aq) ab rfl) rfl)) (@aA _ _ _ _ _ _ _ (@aK _ _ _ _ _ _ _ Pu) ab rfl) (fun _=>rfl) rfl rfl rfl)) rfl rfl)⟩
noncomputable def IQ:ax 3 ek (ac (cw (jR 1)) 2):=⟨_,fun g ok ba=>(@bL _ _ _ _ _ _ _ _ _ _ (@aY _ _ _ _ _ _ _ _ _ (@al _ _ _ _ _ _ _ _ _ _ (@dB _ _ _ _ _ _ _ 11 _ _ _ ok (bP g) (ve g) (xc _) (zw _) (@aa _ _ _ 1 _ _ _ cx rfl rfl) (@CB.up _ _ _ _ _ _ (@FN.cb _ _ _ _ _ ok (wh g ok ba)) rfl)) (@aA _ _ _ _ _ _ _ (@dz _ _ _ _ _ (@aD _ _ _ _ _ _ _ _ _ ok (@aD _ _ _ _ _ _ _ _ _ ok (@aa _ _ _ 4 _ _ _ cx rfl rfl) (@aK _ _ _ _ _ _ _ y6)) (@aa _ _ _ 5 _ _ _ cx rfl rfl))) (@aA _ _ _ _ _ _ _ (@aa _ _ _ 3 _ _ _ cx rfl rfl) ab rfl) rfl) (fun _=>rfl) rfl rfl rfl) (@aa _ _ _ 3 _ _ _ cx rfl rfl) rfl) (@aL _ _ _ (cD (ac (cw (jR 1)) 2)) 1 _ (by kernel_rfl) (@ay _ _ _ _ _ IP g ok ba ai)) ai)⟩
theorem Nt:(tS "A")=(⟨([65]:List Nat).toArray⟩:Str):=by kernel_rfl
theorem FO (P:Params):findIn (KK P) (.ref 374) (tS "__setitem__")=some (some (.ref 287)):=by kernel_rfl
theorem Kq (P:Params):typeIn (KK P) (.ref 287)=some (.type "function"):=by kernel_rfl
noncomputable def IR:ax 3 ek (ac (cD (ac (cw (jR 1)) 3)) 0):=⟨_,fun g ok ba=>(@bF _ _ _ _ _ _ _ _ (@aa _ _ _ 5 _ _ _ cx rfl rfl) (@cn _ _ _ _ _ (@K5 _ _ _ _ _ _ _ _ _ 374 _ ok (by kernel_rfl) (FO _) (Kq _) (@aa _ _ _ 1 _ _ _ cx rfl rfl) (@dz _ _ _ _ _ (@al _ _ _ _ _ _ _ _ _ _ (@dX _ _ _ _ _ (@aa _ _ _ 4 _ _ _ cx rfl rfl)) ab (fun _=>rfl) rfl rfl rfl)) (@CB.up _ _ _ _ _ _ (@FN.cb _ _ _ _ _ ok (EE g ok ba)) rfl)) (fun _=>rfl)) (fun _=>rfl) (fun _ _=>rfl))⟩
noncomputable def IS:ax 3 ek (ac (cw (jR 1)) 3):=⟨_,fun g ok ba=>(@bL _ _ _ _ _ _ _ _ _ _ (@Lo _ _ _ _ _ _ _ _ (@aa _ _ _ 5 _ _ _ cx rfl rfl) (@al _ _ _ _ _ _ _ _ _ _ (@dB _ _ _ _ _ _ _ 10 _ _ _ ok (bP g) (lR g) (mi _) (mF _) (@aa _ _ _ 1 _ _ _ cx rfl rfl) (@CB.up _ _ _ _ _ _ (@FN.cb _ _ _ _ _ ok (rX g ok ba)) rfl)) (@aA _ _ _ _ _ _ _ (@dz _ _ _ _ _ (@al _ _ _ _ _ _ _ _ _ _ (@dX _ _ _ _ _ (@aa _ _ _ 4 _ _ _ cx rfl rfl)) ab (fun _=>rfl) rfl rfl rfl)) (@aA _ _ _ _ _ _ _ (@aK _ _ _ _ _ _ _ Nt) ab rfl) rfl) (fun _=>rfl) rfl rfl rfl) rfl) (@aL _ _ _ (cD (ac (cw (jR 1)) 3)) 1 _ (by kernel_rfl) (@ay _ _ _ _ _ IR g ok ba ai)) ai)⟩
noncomputable def IT:ax 3 ek (jR 1):=⟨_,fun g ok ba=>(@em _ _ _ false _ _ _ _ _ _ _ 60 (@cB _ _ _ _ _ 7 _ _ _ _ _ _ ok rfl (lB g) (fun _ h=>nomatch h) (uM ok) (@aA _ _ _ _ _ _ _ aq (@aA _ _ _ _ _ _ _ aq (@aA _ _ _ _ _ _ _ (@d3 _ _ _ _ _ _ aq) ab rfl) rfl) rfl) (fun _ _=>rfl)) (fun h=>nomatch h) (@aw _ _ _ 2 _ _ _ rfl (.inl rfl)) (@aL _ _ _ (cw (jR 1)) 4 _ (by kernel_rfl) (@ay _ _ _ _ _ IN g ok ba (@ay _ _ _ _ _ IO g ok ba (@ay _ _ _ _ _ IQ g ok ba (@ay _ _ _ _ _ IS g ok ba ai))))) (fun _ _=>rfl))⟩
noncomputable def IU:ax 3 ek (jR 2):=⟨_,fun g ok ba=>(@aF _ _ _ _ _ _ (@aa _ _ _ 1 _ _ _ cx rfl rfl))⟩
noncomputable def x3:(D:List V→List V→DE) ×' (∀ g:GA,(Gk g).Ok→Bare g→FN (Gk g) 4 411 [] D):=⟨_,fun g ok ba=>aQ (lv:=3) (fd:=qw) (body:=iD) (sc:=ek) ok (GT g) (@aI _ _ _ _ 1 [(0,.pos 0)] [(tS "parents")] ok rfl (aS rfl) (au (by kernel_rfl)) (bj rfl) (fun h vals kvals X h1 h2=>by obtain ⟨u0,rfl⟩:=ji h1; obtain rfl:=d5 h2; exact Looks.of_peek (K:=KK g.w.params) X (by kernel_rfl))) (@aL _ _ _ iD 3 _ (by kernel_rfl) (@ay _ _ _ _ _ IM g ok ba (@ay _ _ _ _ _ IT g ok ba (@ay _ _ _ _ _ IU g ok ba ai))))⟩
noncomputable def K1:List V→List V→DE:=x3.1
theorem EK (g:GA) (ok:(Gk g).Ok) (ba:Bare g):FN (Gk g) 4 411 [] K1:=x3.2 g ok ba
noncomputable def Gp:List (Str×NameKind):=[((tS "parents"),.local),((tS "book"),.local),((tS "owners"),.local),((tS "line"),.local),((tS "above"),.local),((tS "rank"),.local),((tS "lower"),.local),((tS "heir"),.local),((tS "range"),.globalImplicit),((tS "_law_word"),.globalImplicit),((tS "Int2AP"),.globalImplicit),((tS "ord"),.globalImplicit)]
noncomputable def eG:Sc:=⟨Gp,true,417,(tS "_law_owners.<locals>.")⟩
theorem ca:NamesOk eG:=by unfold NamesOk; kernel_rfl
noncomputable def qx:FuncData:=dE (cG P0 418) default
noncomputable def iE:List PySem.Stmt:=aX (some qx)
noncomputable abbrev nh:=ac iE
theorem GU (g:GA):FnOk (Gk g) 418 qx iE eG:=FnOk.of (by kernel_rfl) (by kernel_rfl)
noncomputable def IV:ax 2 eG (nh 0):=⟨_,fun g ok ba=>(@aB _ _ _ 2 _ _ _ _ _ (@b8 _ _ _ _ _ _ ok (@aA _ _ _ _ _ _ _ aq ab rfl)) rfl rfl)⟩
noncomputable def IW:ax 2 eG (ac (cw (nh 1)) 0):=⟨_,fun g ok ba=>(@aB _ _ _ 4 _ _ _ _ _ (@ar _ _ _ _ _ _ _ _ _ (@aT _ _ _ _ 9 _ _ _ _ ok gW rfl (kA _) (@CB.up _ _ _ _ _ _ (@FN.cb _ _ _ _ _ ok (gZ g ok ba)) rfl)) (@aA _ _ _ _ _ _ _ (@a9 _ _ _ _ _ _ _ _ ok (@aa _ _ _ 0 _ _ _ ca rfl rfl) (@aa _ _ _ 3 _ _ _ ca rfl rfl)) ab rfl) rfl) rfl rfl)⟩
noncomputable def IX:ax 2 eG (ac (cw (nh 1)) 1):=⟨_,fun g ok ba=>(@aB _ _ _ 5 _ _ _ _ _ (@al _ _ _ _ _ _ _ _ _ _ (@dB _ _ _ _ _ _ _ 10 _ _ _ ok (bP g) (lR g) (mi _) (mF _) (@aa _ _ _ 1 _ _ _ ca rfl rfl) (@CB.up _ _ _ _ _ _ (@FN.cb _ _ _ _ _ ok (m3 g ok ba)) rfl)) (@aA _ _ _ _ _ _ _ (@aa _ _ _ 4 _ _ _ ca rfl rfl) ab rfl) (fun _=>rfl) rfl rfl rfl) rfl rfl)⟩
noncomputable def IY:ax 2 eG (ac (cw (nh 1)) 2):=⟨_,fun g ok ba=>(@aB _ _ _ 6 _ _ _ _ _ (@dz _ _ _ _ _ (@al _ _ _ _ _ _ _ _ _ _ (@jb _ _ _ _ _ (@ar _ _ _ _ _ _ _ _ _ (@aT _ _ _ _ 10 _ _ _ _ ok Ek rfl (OO _) (@CB.up _ _ _ _ _ _ (@FN.cb _ _ _ _ _ ok (qF g ok ba)) rfl)) (@aA _ _ _ _ _ _ _ (@aD _ _ _ _ _ _ _ _ _ ok (@ar _ _ _ _ _ _ _ _ _ (@az _ _ _ _ 11 _ _ _ _ ok rfl (CD g) Ch) (@aA _ _ _ _ _ _ _ (@aa _ _ _ 5 _ _ _ ca rfl rfl) ab rfl) rfl) aq) ab rfl) rfl)) (@aA _ _ _ _ _ _ _ (@aK _ _ _ _ _ _ _ Pu) ab rfl) (fun _=>rfl) rfl rfl rfl)) rfl rfl)⟩
noncomputable def IZ:ax 2 eG (ac (cw (nh 1)) 3):=⟨_,fun g ok ba=>(@aB _ _ _ 7 _ _ _ _ _ (@al _ _ _ _ _ _ _ _ _ _ (@dB _ _ _ _ _ _ _ 10 _ _ _ ok (bP g) (lR g) (mi _) (mF _) (@aa _ _ _ 1 _ _ _ ca rfl rfl) (@CB.up _ _ _ _ _ _ (@FN.cb _ _ _ _ _ ok (rX g ok ba)) rfl)) (@aA _ _ _ _ _ _ _ (@dz _ _ _ _ _ (@al _ _ _ _ _ _ _ _ _ _ (@dX _ _ _ _ _ (@aD _ _ _ _ _ _ _ _ _ ok (@aD _ _ _ _ _ _ _ _ _ ok (@aa _ _ _ 4 _ _ _ ca rfl rfl) (@aK _ _ _ _ _ _ _ y6)) (@aa _ _ _ 5 _ _ _ ca rfl rfl))) ab (fun _=>rfl) rfl rfl rfl)) (@aA _ _ _ _ _ _ _ (@al _ _ _ _ _ _ _ _ _ _ (@dB _ _ _ _ _ _ _ 10 _ _ _ ok (bP g) (lR g) (mi _) (mF _) (@aa _ _ _ 1 _ _ _ ca rfl rfl) (@CB.up _ _ _ _ _ _ (@FN.cb _ _ _ _ _ ok (m3 g ok ba)) rfl)) (@aA _ _ _ _ _ _ _ (@dz _ _ _ _ _ (@al _ _ _ _ _ _ _ _ _ _ (@dX _ _ _ _ _ (@aD _ _ _ _ _ _ _ _ _ ok (@aD _ _ _ _ _ _ _ _ _ ok (@aa _ _ _ 4 _ _ _ ca rfl rfl) (@aK _ _ _ _ _ _ _ y6)) (@aa _ _ _ 6 _ _ _ ca rfl rfl))) ab (fun _=>rfl) rfl rfl rfl)) ab rfl) (fun _=>rfl) rfl rfl rfl) ab rfl) rfl) (fun _=>rfl) rfl rfl rfl) rfl rfl)⟩
noncomputable def I0:ax 2 eG (ac (cw (nh 1)) 4):=⟨_,fun g ok ba=>(@bH _ _ _ _ _ _ (@al _ _ _ _ _ _ _ _ _ _ (@cg _ _ _ _ _ (@aa _ _ _ 2 _ _ _ ca rfl rfl)) (@aA _ _ _ _ _ _ _ (@gK _ _ _ _ _ _ _ _ _ _ (@aY _ _ _ _ _ _ _ _ _ (@aa _ _ _ 7 _ _ _ ca rfl rfl) (@ar _ _ _ _ _ _ _ _ _ (@aT _ _ _ _ 9 _ _ _ _ ok gW rfl (kA _) (@CB.up _ _ _ _ _ _ (@FN.cb _ _ _ _ _ ok (gZ g ok ba)) rfl)) (@aA _ _ _ _ _ _ _ (@aa _ _ _ 3 _ _ _ ca rfl rfl) ab rfl) rfl) rfl) (@a9 _ _ _ _ _ _ _ _ ok (@aa _ _ _ 2 _ _ _ ca rfl rfl) (@a9 _ _ _ _ _ _ _ _ ok (@aa _ _ _ 0 _ _ _ ca rfl rfl) (@aa _ _ _ 3 _ _ _ ca rfl rfl))) (@aa _ _ _ 3 _ _ _ ca rfl rfl)) ab rfl) (fun _=>rfl) rfl rfl rfl) (fun _=>rfl))⟩
noncomputable def I1:ax 2 eG (nh 1):=⟨_,fun g ok ba=>(@em _ _ _ false _ _ _ _ _ _ _ 60 (@cB _ _ _ _ _ 8 _ _ _ _ _ _ ok rfl (lB g) (fun _ h=>nomatch h) (eO ok) (@aA _ _ _ _ _ _ _ aq (@aA _ _ _ _ _ _ _ aq ab rfl) rfl) (fun _ _=>rfl)) (fun h=>nomatch h) (@aw _ _ _ 3 _ _ _ rfl (.inl rfl)) (@aL _ _ _ (cw (nh 1)) 5 _ (by kernel_rfl) (@ay _ _ _ _ _ IW g ok ba (@ay _ _ _ _ _ IX g ok ba (@ay _ _ _ _ _ IY g ok ba (@ay _ _ _ _ _ IZ g ok ba (@ay _ _ _ _ _ I0 g ok ba ai)))))) (fun _ _=>rfl))⟩
noncomputable def I2:ax 2 eG (nh 2):=⟨_,fun g ok ba=>(@aF _ _ _ _ _ _ (@rA _ _ _ _ _ (@lN _ _ _ _ _ ok (@aa _ _ _ 2 _ _ _ ca rfl rfl))))⟩
noncomputable def x4:(D:List V→List V→DE) ×' (∀ g:GA,(Gk g).Ok→Bare g→FN (Gk g) 3 418 [] D):=⟨_,fun g ok ba=>aQ (lv:=2) (fd:=qx) (body:=iE) (sc:=eG) ok (GU g) (@aI _ _ _ _ 2 [(0,.pos 0),(1,.pos 1)] [(tS "parents"),(tS "book")] ok rfl (aS rfl) (au (by kernel_rfl)) (bj rfl) (fun h vals kvals X h1 h2=>by obtain ⟨u0,u1,rfl⟩:=jQ h1; obtain rfl:=d5 h2; exact Looks.of_peek (K:=KK g.w.params) X (by kernel_rfl))) (@aL _ _ _ iE 3 _ (by kernel_rfl) (@ay _ _ _ _ _ IV g ok ba (@ay _ _ _ _ _ I1 g ok ba (@ay _ _ _ _ _ I2 g ok ba ai))))⟩
noncomputable def K2:List V→List V→DE:=x4.1
theorem EL (g:GA) (ok:(Gk g).Ok) (ba:Bare g):FN (Gk g) 3 418 [] K2:=x4.2 g ok ba
noncomputable def Gq:List (Str×NameKind):=[((tS "depths"),.local),((tS "owners"),.local),((tS "pieces"),.local),((tS "opened"),.local),((tS "writer"),.local),((tS "line"),.local),((tS "depth"),.local),((tS "C14NWriterTarget"),.globalImplicit),((tS "enumerate"),.globalImplicit),((tS "len"),.globalImplicit),((tS "_law_word"),.globalImplicit)]
noncomputable def dS:Sc:=⟨Gq,true,424,(tS "_law_written.<locals>.")⟩
theorem dg:NamesOk dS:=by unfold NamesOk; kernel_rfl
noncomputable def qy:FuncData:=dE (cG P0 425) default
noncomputable def iF:List PySem.Stmt:=aX (some qy)
noncomputable abbrev jm:=ac iF
theorem GV (g:GA):FnOk (Gk g) 425 qy iF dS:=FnOk.of (by kernel_rfl) (by kernel_rfl)
noncomputable def I3:ax 5 dS (jm 0):=⟨_,fun g ok ba=>(@fU _ _ _ _ _ _ _ [3,2] [(tS "opened"),(tS "pieces")] _ _ (@bA _ _ _ _ _ _ _ ok (@aA _ _ _ _ _ _ _ (@b8 _ _ _ _ _ _ ok ab) (@aA _ _ _ _ _ _ _ (@bk _ _ _ _ _ _ ok ab) ab rfl) rfl) (by decide)) (fun _=>rfl) (fun env he=>(dJ he).trans (by kernel_rfl)) rfl (dq rfl))⟩
theorem FT (P:Params):makesIn (KK P) 150=true:=by kernel_rfl
theorem J8 (P:Params):specialIn (KK P) (.ref 150) "__call__"=some (some (.builtin "type.__call__")):=by kernel_rfl
theorem Ea:dc (tS "C14NWriterTarget"):=by kernel_rfl
theorem L8 (P:Params):nsIn (KK P) mainGlobals (tS "C14NWriterTarget")=some (some (.ref 150)):=by kernel_rfl
theorem FP (P:Params):findIn (KK P) (.ref 150) (tS "__init__")=some (some (.ref 67)):=by kernel_rfl
theorem Kr (P:Params):typeIn (KK P) (.ref 67)=some (.type "function"):=by kernel_rfl
noncomputable def I4:ax 5 dS (jm 1):=⟨_,fun g ok ba=>(@aB _ _ _ 4 _ _ _ _ _ (@uE _ _ _ _ _ _ _ _ _ _ _ _ (@aT _ _ _ _ 7 _ _ _ _ ok Ea rfl (L8 _) (@CB.up _ _ _ _ _ _ (@n6 _ _ _ _ _ _ ok (FT _) (FP _) (Kr _) (J8 _) (by kernel_rfl) (LV g ok ba)) rfl)) (@aA _ _ _ _ _ _ _ (@uC _ _ _ _ _ _ ok (@aa _ _ _ 2 _ _ _ dg rfl rfl) (fun _=>rfl)) ab rfl) (@fT _ _ _ _ _ _ _ _ _ b7 eP) (fun _ _=>rfl) (fun _ _=>rfl) (fun _ _=>rfl)) rfl rfl)⟩
theorem DX (g:GA):(Gk g).an[33]?=some (tS "end"):=by kernel_rfl
theorem FQ (P:Params):findIn (KK P) (.ref 150) (tS "end")=some (some (.ref 133)):=by kernel_rfl
theorem Ks (P:Params):typeIn (KK P) (.ref 133)=some (.type "function"):=by kernel_rfl
noncomputable def I5:ax 5 dS (ac (zB (ac (cw (jm 2)) 0)) 0):=⟨_,fun g ok ba=>(@bH _ _ _ _ _ _ (@al _ _ _ _ _ _ _ _ _ _ (@dB _ _ _ _ _ _ _ 33 _ _ _ ok (aC g) (DX g) (FQ _) (Ks _) (@aa _ _ _ 4 _ _ _ dg rfl rfl) (@CB.up _ _ _ _ _ _ (@FN.cb _ _ _ _ _ ok (Ev g ok ba)) rfl)) (@aA _ _ _ _ _ _ _ (@a9 _ _ _ _ _ _ _ _ ok (@aa _ _ _ 3 _ _ _ dg rfl rfl) (@d3 _ _ _ _ _ _ aq)) ab rfl) (fun _=>rfl) rfl rfl rfl) (fun _=>rfl))⟩
noncomputable def I6:ax 5 dS (ac (zB (ac (cw (jm 2)) 0)) 1):=⟨_,fun g ok ba=>(@aB _ _ _ 3 _ _ _ _ _ (@cW _ _ _ _ _ _ _ _ _ _ _ ok (@aa _ _ _ 3 _ _ _ dg rfl rfl) ez (@dL _ _ _ _ _ (@d3 _ _ _ _ _ _ aq))) rfl rfl)⟩
noncomputable def I7:ax 5 dS (ac (cw (jm 2)) 0):=⟨_,fun g ok ba=>(@jV _ _ _ _ _ _ _ _ 60 (@aY _ _ _ _ _ _ _ _ _ (@ar _ _ _ _ _ _ _ _ _ (@az _ _ _ _ 9 _ _ _ _ ok rfl (s7 g) fJ) (@aA _ _ _ _ _ _ _ (@aa _ _ _ 3 _ _ _ dg rfl rfl) ab rfl) rfl) (@aa _ _ _ 6 _ _ _ dg rfl rfl) rfl) (@aL _ _ _ (zB (ac (cw (jm 2)) 0)) 2 _ (by kernel_rfl) (@ay _ _ _ _ _ I5 g ok ba (@ay _ _ _ _ _ I6 g ok ba ai))))⟩
noncomputable def I8:ax 5 dS (ac (cD (ac (cw (jm 2)) 1)) 0):=⟨_,fun g ok ba=>(@aB _ _ _ 3 _ _ _ _ _ (@aD _ _ _ _ _ _ _ _ _ ok (@aa _ _ _ 3 _ _ _ dg rfl rfl) (@bk _ _ _ _ _ _ ok (@aA _ _ _ _ _ _ _ (@dz _ _ _ _ _ (@aD _ _ _ _ _ _ _ _ _ ok (@aD _ _ _ _ _ _ _ _ _ ok (@aD _ _ _ _ _ _ _ _ _ ok (@aK _ _ _ _ _ _ _ Da) (@ar _ _ _ _ _ _ _ _ _ (@aT _ _ _ _ 10 _ _ _ _ ok gW rfl (kA _) (@CB.up _ _ _ _ _ _ (@FN.cb _ _ _ _ _ ok (gZ g ok ba)) rfl)) (@aA _ _ _ _ _ _ _ (@a9 _ _ _ _ _ _ _ _ ok (@aa _ _ _ 1 _ _ _ dg rfl rfl) (@aa _ _ _ 5 _ _ _ dg rfl rfl)) ab rfl) rfl)) (@aK _ _ _ _ _ _ _ y4)) (@ar _ _ _ _ _ _ _ _ _ (@aT _ _ _ _ 10 _ _ _ _ ok gW rfl (kA _) (@CB.up _ _ _ _ _ _ (@FN.cb _ _ _ _ _ ok (gZ g ok ba)) rfl)) (@aA _ _ _ _ _ _ _ (@aa _ _ _ 5 _ _ _ dg rfl rfl) ab rfl) rfl))) ab rfl))) rfl rfl)⟩
theorem DY (g:GA):(Gk g).an[32]?=some (tS "start"):=by kernel_rfl
theorem FR (P:Params):findIn (KK P) (.ref 150) (tS "start")=some (some (.ref 120)):=by kernel_rfl
theorem Kt (P:Params):typeIn (KK P) (.ref 120)=some (.type "function"):=by kernel_rfl
noncomputable def I9:ax 5 dS (ac (cD (ac (cw (jm 2)) 1)) 1):=⟨_,fun g ok ba=>(@bH _ _ _ _ _ _ (@al _ _ _ _ _ _ _ _ _ _ (@dB _ _ _ _ _ _ _ 32 _ _ _ ok (aC g) (DY g) (FR _) (Kt _) (@aa _ _ _ 4 _ _ _ dg rfl rfl) (@CB.up _ _ _ _ _ _ (@FN.cb _ _ _ _ _ ok (Et g ok ba)) rfl)) (@aA _ _ _ _ _ _ _ (@a9 _ _ _ _ _ _ _ _ ok (@aa _ _ _ 3 _ _ _ dg rfl rfl) (@d3 _ _ _ _ _ _ aq)) (@aA _ _ _ _ _ _ _ (@mI _ _ _ _ ok) ab rfl) rfl) (fun _=>rfl) rfl rfl rfl) (fun _=>rfl))⟩
noncomputable def Ja:ax 5 dS (ac (cw (jm 2)) 1):=⟨_,fun g ok ba=>(@bL _ _ _ _ _ _ _ _ _ _ (@aY _ _ _ _ _ _ _ _ _ (@aa _ _ _ 5 _ _ _ dg rfl rfl) aq rfl) (@aL _ _ _ (cD (ac (cw (jm 2)) 1)) 2 _ (by kernel_rfl) (@ay _ _ _ _ _ I8 g ok ba (@ay _ _ _ _ _ I9 g ok ba ai))) ai)⟩
noncomputable def Jb:ax 5 dS (jm 2):=⟨_,fun g ok ba=>(@DL _ _ _ true _ _ _ _ _ _ _ 60 (@cB _ _ _ _ _ 8 _ _ _ _ _ _ ok rfl (vn g) (fun _ h=>nomatch h) (pP ok) (@aA _ _ _ _ _ _ _ (@aD _ _ _ _ _ _ _ _ _ ok (@aa _ _ _ 0 _ _ _ dg rfl rfl) (@bk _ _ _ _ _ _ ok (@aA _ _ _ _ _ _ _ aq ab rfl))) ab rfl) (fun _ _=>rfl)) (fun _=>rfl) (@cA _ _ _ _ _ _ _ (@aR _ _ _ _ _ _ _ (@aw _ _ _ 5 _ _ _ rfl (.inl rfl)) (@aR _ _ _ _ _ _ _ (@aw _ _ _ 6 _ _ _ rfl (.inl rfl)) dA (fun _=>rfl)) (fun _=>rfl)) (fun _=>rfl) (fun _=>rfl)) (@aL _ _ _ (cw (jm 2)) 2 _ (by kernel_rfl) (@ay _ _ _ _ _ I7 g ok ba (@ay _ _ _ _ _ Ja g ok ba ai))) (fun _ _=>rfl))⟩
noncomputable def Jc:ax 5 dS (jm 3):=⟨_,fun g ok ba=>(@aF _ _ _ _ _ _ (@al _ _ _ _ _ _ _ _ _ _ (@uO _ _ _ _ _ (@aK _ _ _ _ _ _ _ lg)) (@aA _ _ _ _ _ _ _ (@aa _ _ _ 2 _ _ _ dg rfl rfl) ab rfl) (fun _=>rfl) rfl rfl rfl))⟩
noncomputable def x5:(D:List V→List V→DE) ×' (∀ g:GA,(Gk g).Ok→Bare g→FN (Gk g) 6 425 [] D):=⟨_,fun g ok ba=>aQ (lv:=5) (fd:=qy) (body:=iF) (sc:=dS) ok (GV g) (@aI _ _ _ _ 2 [(0,.pos 0),(1,.pos 1)] [(tS "depths"),(tS "owners")] ok rfl (aS rfl) (au (by kernel_rfl)) (bj rfl) (fun h vals kvals X h1 h2=>by obtain ⟨u0,u1,rfl⟩:=jQ h1; obtain rfl:=d5 h2; exact Looks.of_peek (K:=KK g.w.params) X (by kernel_rfl))) (@aL _ _ _ iF 4 _ (by kernel_rfl) (@ay _ _ _ _ _ I3 g ok ba (@ay _ _ _ _ _ I4 g ok ba (@ay _ _ _ _ _ Jb g ok ba (@ay _ _ _ _ _ Jc g ok ba ai)))))⟩
noncomputable def Cn:List V→List V→DE:=x5.1
theorem EM (g:GA) (ok:(Gk g).Ok) (ba:Bare g):FN (Gk g) 6 425 [] Cn:=x5.2 g ok ba
theorem E0 (g:GA) (ok:(Gk g).Ok) (ba:Bare g):FN (Gk g) 6 425 [] (cj Cn):=FN.apart ba.gn fun hp=>EM {g with gn:=AllBare,hp:=hp} (ok.pv AllBare hp) ⟨rfl⟩
noncomputable def Gr:List (Str×NameKind):=[((tS "depths"),.local),((tS "owners"),.local),((tS "text"),.local),((tS "opened"),.local),((tS "known"),.local),((tS "line"),.local),((tS "depth"),.local),((tS "declared"),.local),((tS "prefix"),.local),((tS "enumerate"),.globalImplicit),((tS "len"),.globalImplicit),((tS "str"),.globalImplicit)]
noncomputable def cy:Sc:=⟨Gr,true,431,(tS "_law_told.<locals>.")⟩
theorem bq:NamesOk cy:=by unfold NamesOk; kernel_rfl
noncomputable def qz:FuncData:=dE (cG P0 432) default
noncomputable def iG:List PySem.Stmt:=aX (some qz)
noncomputable abbrev fk:=ac iG
theorem GW (g:GA):FnOk (Gk g) 432 qz iG cy:=FnOk.of (by kernel_rfl) (by kernel_rfl)
noncomputable def Jd:ax 0 cy (fk 0):=⟨_,fun g ok ba=>(@fU _ _ _ _ _ _ _ [4,3,2] [(tS "known"),(tS "opened"),(tS "text")] _ _ (@bA _ _ _ _ _ _ _ ok (@aA _ _ _ _ _ _ _ (@aK _ _ _ _ _ _ _ lg) (@aA _ _ _ _ _ _ _ (@bk _ _ _ _ _ _ ok ab) (@aA _ _ _ _ _ _ _ (@bk _ _ _ _ _ _ ok ab) ab rfl) rfl) rfl) (by decide)) (fun _=>rfl) (fun env he=>(dJ he).trans (by kernel_rfl)) rfl (dq rfl))⟩
noncomputable def Je:ax 0 cy (ac (zB (ac (cw (fk 1)) 0)) 0):=⟨_,fun g ok ba=>(@uU _ _ _ 2 _ _ _ _ _ _ bq rfl (.inl rfl) (@dz _ _ _ _ _ (@aD _ _ _ _ _ _ _ _ _ ok (@aD _ _ _ _ _ _ _ _ _ ok (@aK _ _ _ _ _ _ _ Dd) (@a9 _ _ _ _ _ _ _ _ ok (@aa _ _ _ 3 _ _ _ bq rfl rfl) (@d3 _ _ _ _ _ _ aq))) (@aK _ _ _ _ _ _ _ sC))))⟩
noncomputable def Jf:ax 0 cy (ac (zB (ac (cw (fk 1)) 0)) 1):=⟨_,fun g ok ba=>(@aB _ _ _ 3 _ _ _ _ _ (@cW _ _ _ _ _ _ _ _ _ _ _ ok (@aa _ _ _ 3 _ _ _ bq rfl rfl) ez (@dL _ _ _ _ _ (@d3 _ _ _ _ _ _ aq))) rfl rfl)⟩
noncomputable def Jg:ax 0 cy (ac (cw (fk 1)) 0):=⟨_,fun g ok ba=>(@jV _ _ _ _ _ _ _ _ 60 (@aY _ _ _ _ _ _ _ _ _ (@ar _ _ _ _ _ _ _ _ _ (@az _ _ _ _ 10 _ _ _ _ ok rfl (s7 g) fJ) (@aA _ _ _ _ _ _ _ (@aa _ _ _ 3 _ _ _ bq rfl rfl) ab rfl) rfl) (@aa _ _ _ 6 _ _ _ bq rfl rfl) rfl) (@aL _ _ _ (zB (ac (cw (fk 1)) 0)) 2 _ (by kernel_rfl) (@ay _ _ _ _ _ Je g ok ba (@ay _ _ _ _ _ Jf g ok ba ai))))⟩
noncomputable def Jh:ax 0 cy (ac (cD (ac (cw (fk 1)) 1)) 0):=⟨_,fun g ok ba=>(@aB _ _ _ 7 _ _ _ _ _ (@aK _ _ _ _ _ _ _ lg) rfl rfl)⟩
noncomputable def Ji:ax 0 cy (ac (cD (ac (cw (fk 1)) 1)) 1):=⟨_,fun g ok ba=>(@aB _ _ _ 8 _ _ _ _ _ (@dz _ _ _ _ _ (@aD _ _ _ _ _ _ _ _ _ ok (@aK _ _ _ _ _ _ _ y5) (@ar _ _ _ _ _ _ _ _ _ (@az _ _ _ _ 11 _ _ _ _ ok rfl (D2 g) Ci) (@aA _ _ _ _ _ _ _ (@ar _ _ _ _ _ _ _ _ _ (@az _ _ _ _ 10 _ _ _ _ ok rfl (s7 g) fJ) (@aA _ _ _ _ _ _ _ (@aa _ _ _ 4 _ _ _ bq rfl rfl) ab rfl) rfl) ab rfl) rfl))) rfl rfl)⟩
noncomputable def Jj:ax 0 cy (ac (cD (ac (cD (ac (cw (fk 1)) 1)) 2)) 0):=⟨_,fun g ok ba=>(@aB _ _ _ 8 _ _ _ _ _ (@dz _ _ _ _ _ (@aD _ _ _ _ _ _ _ _ _ ok (@aK _ _ _ _ _ _ _ y5) (@ar _ _ _ _ _ _ _ _ _ (@az _ _ _ _ 11 _ _ _ _ ok rfl (D2 g) Ci) (@aA _ _ _ _ _ _ _ (@al _ _ _ _ _ _ _ _ _ _ (@Ab _ _ _ _ _ (@aa _ _ _ 4 _ _ _ bq rfl rfl)) (@aA _ _ _ _ _ _ _ (@a9 _ _ _ _ _ _ _ _ ok (@aa _ _ _ 1 _ _ _ bq rfl rfl) (@aa _ _ _ 5 _ _ _ bq rfl rfl)) ab rfl) (fun _=>rfl) rfl rfl rfl) ab rfl) rfl))) rfl rfl)⟩
theorem Nu:(tS " xmlns:")=(⟨([32,120,109,108,110,115,58]:List Nat).toArray⟩:Str):=by kernel_rfl
theorem Nv:(tS "=\"B")=(⟨([61,34,66]:List Nat).toArray⟩:Str):=by kernel_rfl
theorem De:(tS "ABCDEFG")=(⟨([65,66,67,68,69,70,71]:List Nat).toArray⟩:Str):=by kernel_rfl
noncomputable def Jk:ax 0 cy (ac (iK (ac (cD (ac (cw (fk 1)) 1)) 2)) 0):=⟨_,fun g ok ba=>(@aB _ _ _ 7 _ _ _ _ _ (@dz _ _ _ _ _ (@aD _ _ _ _ _ _ _ _ _ ok (@aD _ _ _ _ _ _ _ _ _ ok (@aD _ _ _ _ _ _ _ _ _ ok (@aD _ _ _ _ _ _ _ _ _ ok (@aK _ _ _ _ _ _ _ Nu) (@aa _ _ _ 8 _ _ _ bq rfl rfl)) (@aK _ _ _ _ _ _ _ Nv)) (@a9 _ _ _ _ _ _ _ _ ok (@aK _ _ _ _ _ _ _ De) (@a9 _ _ _ _ _ _ _ _ ok (@aa _ _ _ 1 _ _ _ bq rfl rfl) (@aa _ _ _ 5 _ _ _ bq rfl rfl)))) (@aK _ _ _ _ _ _ _ y3))) rfl rfl)⟩
noncomputable def Jl:ax 0 cy (ac (iK (ac (cD (ac (cw (fk 1)) 1)) 2)) 1):=⟨_,fun g ok ba=>(@aB _ _ _ 4 _ _ _ _ _ (@aD _ _ _ _ _ _ _ _ _ ok (@aa _ _ _ 4 _ _ _ bq rfl rfl) (@bk _ _ _ _ _ _ ok (@aA _ _ _ _ _ _ _ (@a9 _ _ _ _ _ _ _ _ ok (@aa _ _ _ 1 _ _ _ bq rfl rfl) (@aa _ _ _ 5 _ _ _ bq rfl rfl)) ab rfl))) rfl rfl)⟩
noncomputable def Jm:ax 0 cy (ac (cD (ac (cw (fk 1)) 1)) 2):=⟨_,fun g ok ba=>(@bL _ _ _ _ _ _ _ _ _ _ (@aY _ _ _ _ _ _ _ _ _ (@a9 _ _ _ _ _ _ _ _ ok (@aa _ _ _ 1 _ _ _ bq rfl rfl) (@aa _ _ _ 5 _ _ _ bq rfl rfl)) (@aa _ _ _ 4 _ _ _ bq rfl rfl) rfl) (@aL _ _ _ (cD (ac (cD (ac (cw (fk 1)) 1)) 2)) 1 _ (by kernel_rfl) (@ay _ _ _ _ _ Jj g ok ba ai)) (@aL _ _ _ (iK (ac (cD (ac (cw (fk 1)) 1)) 2)) 2 _ (by kernel_rfl) (@ay _ _ _ _ _ Jk g ok ba (@ay _ _ _ _ _ Jl g ok ba ai))))⟩
theorem Nw:(tS ":B")=(⟨([58,66]:List Nat).toArray⟩:Str):=by kernel_rfl
noncomputable def BK:ax 0 cy (ac (cD (ac (cw (fk 1)) 1)) 3):=⟨_,fun g ok ba=>(@aB _ _ _ 3 _ _ _ _ _ (@aD _ _ _ _ _ _ _ _ _ ok (@aa _ _ _ 3 _ _ _ bq rfl rfl) (@bk _ _ _ _ _ _ ok (@aA _ _ _ _ _ _ _ (@dz _ _ _ _ _ (@aD _ _ _ _ _ _ _ _ _ ok (@aD _ _ _ _ _ _ _ _ _ ok (@aa _ _ _ 8 _ _ _ bq rfl rfl) (@aK _ _ _ _ _ _ _ Nw)) (@a9 _ _ _ _ _ _ _ _ ok (@aK _ _ _ _ _ _ _ De) (@aa _ _ _ 5 _ _ _ bq rfl rfl)))) ab rfl))) rfl rfl)⟩
noncomputable def BL:ax 0 cy (ac (cD (ac (cw (fk 1)) 1)) 4):=⟨_,fun g ok ba=>(@uU _ _ _ 2 _ _ _ _ _ _ bq rfl (.inl rfl) (@dz _ _ _ _ _ (@aD _ _ _ _ _ _ _ _ _ ok (@aD _ _ _ _ _ _ _ _ _ ok (@aD _ _ _ _ _ _ _ _ _ ok (@aK _ _ _ _ _ _ _ sB) (@a9 _ _ _ _ _ _ _ _ ok (@aa _ _ _ 3 _ _ _ bq rfl rfl) (@d3 _ _ _ _ _ _ aq))) (@aa _ _ _ 7 _ _ _ bq rfl rfl)) (@aK _ _ _ _ _ _ _ sC))))⟩
noncomputable def BM:ax 0 cy (ac (cw (fk 1)) 1):=⟨_,fun g ok ba=>(@bL _ _ _ _ _ _ _ _ _ _ (@aY _ _ _ _ _ _ _ _ _ (@aa _ _ _ 5 _ _ _ bq rfl rfl) aq rfl) (@aL _ _ _ (cD (ac (cw (fk 1)) 1)) 5 _ (by kernel_rfl) (@ay _ _ _ _ _ Jh g ok ba (@ay _ _ _ _ _ Ji g ok ba (@ay _ _ _ _ _ Jm g ok ba (@ay _ _ _ _ _ BK g ok ba (@ay _ _ _ _ _ BL g ok ba ai)))))) ai)⟩
noncomputable def BN:ax 0 cy (fk 1):=⟨_,fun g ok ba=>(@em _ _ _ true _ _ _ _ _ _ _ 60 (@cB _ _ _ _ _ 9 _ _ _ _ _ _ ok rfl (vn g) (fun _ h=>nomatch h) (pP ok) (@aA _ _ _ _ _ _ _ (@aD _ _ _ _ _ _ _ _ _ ok (@aa _ _ _ 0 _ _ _ bq rfl rfl) (@bk _ _ _ _ _ _ ok (@aA _ _ _ _ _ _ _ aq ab rfl))) ab rfl) (fun _ _=>rfl)) (fun _=>rfl) (@cA _ _ _ _ _ _ _ (@aR _ _ _ _ _ _ _ (@aw _ _ _ 5 _ _ _ rfl (.inl rfl)) (@aR _ _ _ _ _ _ _ (@aw _ _ _ 6 _ _ _ rfl (.inl rfl)) dA (fun _=>rfl)) (fun _=>rfl)) (fun _=>rfl) (fun _=>rfl)) (@aL _ _ _ (cw (fk 1)) 2 _ (by kernel_rfl) (@ay _ _ _ _ _ Jg g ok ba (@ay _ _ _ _ _ BM g ok ba ai))) (fun _ _=>rfl))⟩
noncomputable def BO:ax 0 cy (fk 2):=⟨_,fun g ok ba=>(@aF _ _ _ _ _ _ (@aa _ _ _ 2 _ _ _ bq rfl rfl))⟩
noncomputable def x6:(D:List V→List V→DE) ×' (∀ g:GA,(Gk g).Ok→Bare g→FN (Gk g) 1 432 [] D):=⟨_,fun g ok ba=>aQ (lv:=0) (fd:=qz) (body:=iG) (sc:=cy) ok (GW g) (@aI _ _ _ _ 2 [(0,.pos 0),(1,.pos 1)] [(tS "depths"),(tS "owners")] ok rfl (aS rfl) (au (by kernel_rfl)) (bj rfl) (fun h vals kvals X h1 h2=>by obtain ⟨u0,u1,rfl⟩:=jQ h1; obtain rfl:=d5 h2; exact Looks.of_peek (K:=KK g.w.params) X (by kernel_rfl))) (@aL _ _ _ iG 3 _ (by kernel_rfl) (@ay _ _ _ _ _ Jd g ok ba (@ay _ _ _ _ _ BN g ok ba (@ay _ _ _ _ _ BO g ok ba ai))))⟩
noncomputable def Co:List V→List V→DE:=x6.1
theorem EN (g:GA) (ok:(Gk g).Ok) (ba:Bare g):FN (Gk g) 1 432 [] Co:=x6.2 g ok ba
theorem E1 (g:GA) (ok:(Gk g).Ok) (ba:Bare g):FN (Gk g) 1 432 [] (cj Co):=FN.apart ba.gn fun hp=>EN {g with gn:=AllBare,hp:=hp} (ok.pv AllBare hp) ⟨rfl⟩
noncomputable def Gs:List (Str×NameKind):=[((tS "parents"),.cell),((tS "ways"),.local),((tS "line"),.cell),((tS "kids"),.cell),((tS "way"),.local),((tS "least"),.local),((tS "needs"),.local),((tS "above"),.local),((tS "range"),.globalImplicit),((tS "max"),.globalImplicit),((tS "zip"),.globalImplicit)]
noncomputable def dj:Sc:=⟨Gs,true,436,(tS "_law_least.<locals>.")⟩
theorem cQ:NamesOk dj:=by unfold NamesOk; kernel_rfl
noncomputable def qA:FuncData:=dE (cG P0 437) default
noncomputable def iH:List PySem.Stmt:=aX (some qA)
noncomputable abbrev g6:=ac iH
theorem GX (g:GA):FnOk (Gk g) 437 qA iH dj:=FnOk.of (by kernel_rfl) (by kernel_rfl)
noncomputable def Jn:ax 0 dj (g6 0):=⟨_,fun g ok ba=>(@aB _ _ _ 1 _ _ _ _ _ (@bk _ _ _ _ _ _ ok (@aA _ _ _ _ _ _ _ (@bk _ _ _ _ _ _ ok ab) ab rfl)) rfl rfl)⟩
noncomputable def xq:List (Str×NameKind):=[((tS ".0"),.local),((tS "kid"),.local),((tS "line"),.cell),((tS "parents"),.cell)]
noncomputable def pC:Sc:=⟨xq,false,0,(tS "")⟩
theorem iS:NamesOk pC:=by unfold NamesOk; kernel_rfl
noncomputable def Jo:ax 0 dj (ac (cw (g6 1)) 0):=⟨_,fun g ok ba=>(@lP _ _ _ _ _ _ _ _ (@cY _ _ _ pC false _ _ _ _ _ _ _ _ _ _ ok (@CompOk.of _ _ _ [(2,2),(3,0)] (by kernel_rfl)) (@cB _ _ _ _ _ 8 _ _ _ _ _ _ ok rfl (lB g) (fun _ h=>nomatch h) (eO ok) (@aA _ _ _ _ _ _ _ aq (@aA _ _ _ _ _ _ _ aq ab rfl) rfl) (fun _ _=>rfl)) (fun _ _=>rfl) (@cT _ _ _ _ _ _ _ _ _ _ _ _ _ 60 (fun h=>nomatch h) (@aw _ _ _ 1 _ _ _ rfl (.inl rfl)) (@mK _ _ _ _ _ (@aY _ _ _ _ _ _ _ _ _ (@a9 _ _ _ _ _ _ _ _ ok (@aa _ _ _ 3 _ _ _ iS rfl rfl) (@aa _ _ _ 1 _ _ _ iS rfl rfl)) (@aa _ _ _ 2 _ _ _ iS rfl rfl) rfl)) (@aa _ _ _ 1 _ _ _ iS rfl rfl))) (@cn _ _ _ _ _ (@aw _ _ _ 3 _ _ _ rfl (.inr ⟨rfl,rfl⟩)) (fun _=>rfl)) (fun env he=>(Kd he).trans (by kernel_rfl)) (fun env he=>(dJ he).trans (by kernel_rfl)))⟩
noncomputable def xt:List (Str×NameKind):=[((tS ".0"),.local),((tS "way"),.local),((tS "kid"),.local),((tS "kids"),.cell)]
noncomputable def pD:Sc:=⟨xt,false,0,(tS "")⟩
theorem kR:NamesOk pD:=by unfold NamesOk; kernel_rfl
noncomputable def Jp:ax 0 dj (ac (cw (g6 1)) 1):=⟨_,fun g ok ba=>(@fz _ _ _ pD false _ _ _ _ _ _ _ _ _ _ _ 1 _ _ ok (@CompOk.of _ _ _ [(3,3)] (by kernel_rfl)) (@cP _ _ _ _ _ _ ok (@aa _ _ _ 1 _ _ _ cQ rfl rfl)) (fun _ _=>rfl) (@ux _ _ _ _ false _ _ _ _ _ _ _ _ _ _ _ _ _ _ _ 60 60 (fun h=>nomatch h) (@aw _ _ _ 1 _ _ _ rfl (.inl rfl)) fx (fun h=>nomatch h) (@cP _ _ _ _ _ _ ok (@K3 _ _ _ _ _ _ _ _ (@aa _ _ _ 3 _ _ _ kR rfl rfl) (@b8 _ _ _ _ _ _ ok (@aA _ _ _ _ _ _ _ aq ab rfl)))) (@aw _ _ _ 2 _ _ _ rfl (.inl rfl)) fx (@aD _ _ _ _ _ _ _ _ _ ok (@aa _ _ _ 1 _ _ _ kR rfl rfl) (@bk _ _ _ _ _ _ ok (@aA _ _ _ _ _ _ _ (@aa _ _ _ 2 _ _ _ kR rfl rfl) ab rfl))) (fun _ _=>rfl)) rfl (fun env he=>(jx he).trans (by kernel_rfl)))⟩
noncomputable def Jq:ax 0 dj (g6 1):=⟨_,fun g ok ba=>(@em _ _ _ false _ _ _ _ _ _ _ 60 (@cB _ _ _ _ _ 8 _ _ _ _ _ _ ok rfl (lB g) (fun _ h=>nomatch h) (eO ok) (@aA _ _ _ _ _ _ _ aq ab rfl) (fun _ _=>rfl)) (fun h=>nomatch h) (@aw _ _ _ 2 _ _ _ rfl (.inr ⟨rfl,rfl⟩)) (@aL _ _ _ (cw (g6 1)) 2 _ (by kernel_rfl) (@ay _ _ _ _ _ Jo g ok ba (@ay _ _ _ _ _ Jp g ok ba ai))) (fun _ _=>rfl))⟩
noncomputable def Jr:ax 0 dj (g6 2):=⟨_,fun g ok ba=>(@aB _ _ _ 5 _ _ _ _ _ (@uK _ _ _ _ _ _ _ _ ok (@bk _ _ _ _ _ _ ok (@aA _ _ _ _ _ _ _ aq ab rfl)) aq) rfl rfl)⟩
noncomputable def Js:ax 0 dj (ac (cw (g6 3)) 0):=⟨_,fun g ok ba=>(@aB _ _ _ 6 _ _ _ _ _ (@uK _ _ _ _ _ _ _ _ ok (@bk _ _ _ _ _ _ ok (@aA _ _ _ _ _ _ _ aq ab rfl)) aq) rfl rfl)⟩
noncomputable def Jt:ax 0 dj (ac (cw (ac (cw (g6 3)) 1)) 0):=⟨_,fun g ok ba=>(@aB _ _ _ 7 _ _ _ _ _ (@a9 _ _ _ _ _ _ _ _ ok (@aa _ _ _ 0 _ _ _ cQ rfl rfl) (@aa _ _ _ 2 _ _ _ cQ rfl rfl)) rfl rfl)⟩
noncomputable def Ju:ax 0 dj (ac (cw (ac (cw (g6 3)) 1)) 1):=⟨_,fun g ok ba=>(@bF _ _ _ _ _ _ _ _ (@ar _ _ _ _ _ _ _ _ _ (@az _ _ _ _ 9 _ _ _ _ ok rfl (vq g) n5) (@aA _ _ _ _ _ _ _ (@a9 _ _ _ _ _ _ _ _ ok (@aa _ _ _ 6 _ _ _ cQ rfl rfl) (@aa _ _ _ 7 _ _ _ cQ rfl rfl)) (@aA _ _ _ _ _ _ _ (@aD _ _ _ _ _ _ _ _ _ ok (@a9 _ _ _ _ _ _ _ _ ok (@aa _ _ _ 6 _ _ _ cQ rfl rfl) (@aa _ _ _ 2 _ _ _ cQ rfl rfl)) (@gK _ _ _ _ _ _ _ _ _ _ (@aY _ _ _ _ _ _ _ _ _ (@a9 _ _ _ _ _ _ _ _ ok (@aa _ _ _ 4 _ _ _ cQ rfl rfl) (@aa _ _ _ 7 _ _ _ cQ rfl rfl)) (@aa _ _ _ 2 _ _ _ cQ rfl rfl) rfl) aq aq)) ab rfl) rfl) rfl) (@cn _ _ _ _ _ (@Cs _ _ _ _ _ _ _ _ ok (@aa _ _ _ 6 _ _ _ cQ rfl rfl) (@aa _ _ _ 7 _ _ _ cQ rfl rfl)) (fun _=>rfl)) (fun _=>rfl) (fun _ _=>rfl))⟩
noncomputable def Jv:ax 0 dj (ac (cw (g6 3)) 1):=⟨_,fun g ok ba=>(@em _ _ _ false _ _ _ _ _ _ _ 60 (@cB _ _ _ _ _ 8 _ _ _ _ _ _ ok rfl (lB g) (fun _ h=>nomatch h) (uM ok) (@aA _ _ _ _ _ _ _ aq (@aA _ _ _ _ _ _ _ aq (@aA _ _ _ _ _ _ _ (@d3 _ _ _ _ _ _ aq) ab rfl) rfl) rfl) (fun _ _=>rfl)) (fun h=>nomatch h) (@aw _ _ _ 2 _ _ _ rfl (.inr ⟨rfl,rfl⟩)) (@aL _ _ _ (cw (ac (cw (g6 3)) 1)) 2 _ (by kernel_rfl) (@ay _ _ _ _ _ Jt g ok ba (@ay _ _ _ _ _ Ju g ok ba ai))) (fun _ _=>rfl))⟩
noncomputable def xu:List (Str×NameKind):=[((tS ".0"),.local),((tS "pair"),.local),((tS "min"),.globalImplicit)]
noncomputable def pE:Sc:=⟨xu,false,0,(tS "")⟩
theorem xx:NamesOk pE:=by unfold NamesOk; kernel_rfl
theorem Ly (g:GA):Bltin (Gk g) (tS "zip") (.type "zip"):=⟨by kernel_rfl,by decide,PyProof.Rows.Boot.«zip»,by kernel_rfl⟩
theorem Lz (g:GA):Bltin (Gk g) (tS "min") (.builtin "min"):=⟨by kernel_rfl,by decide,PyProof.Rows.Boot.«min»,by kernel_rfl⟩
noncomputable def Jw:ax 0 dj (ac (cw (g6 3)) 2):=⟨_,fun g ok ba=>(@fz _ _ _ pE false _ _ _ _ _ _ _ _ _ _ _ 5 _ _ ok (@CompOk.of _ _ _ [] (by kernel_rfl)) (@cB _ _ _ _ _ 10 _ _ _ _ _ _ ok rfl (Ly g) (fun _ h=>nomatch h) (K6 ok) (@aA _ _ _ _ _ _ _ (@aa _ _ _ 5 _ _ _ cQ rfl rfl) (@aA _ _ _ _ _ _ _ (@aa _ _ _ 6 _ _ _ cQ rfl rfl) ab rfl) rfl) (fun _ _=>rfl)) (fun _ _=>rfl) (@cT _ _ _ _ _ _ _ _ _ _ _ _ _ 60 (fun h=>nomatch h) (@aw _ _ _ 1 _ _ _ rfl (.inl rfl)) fx (@ar _ _ _ _ _ _ _ _ _ (@az _ _ _ _ 2 _ _ _ _ ok rfl (Lz g) KN) (@aA _ _ _ _ _ _ _ (@aa _ _ _ 1 _ _ _ xx rfl rfl) ab rfl) rfl)) rfl (fun env he=>(jx he).trans (by kernel_rfl)))⟩
noncomputable def BP:ax 0 dj (g6 3):=⟨_,fun g ok ba=>(@em _ _ _ false _ _ _ _ _ _ _ 60 (@cP _ _ _ _ _ _ ok (@aa _ _ _ 1 _ _ _ cQ rfl rfl)) (fun h=>nomatch h) (@aw _ _ _ 4 _ _ _ rfl (.inl rfl)) (@aL _ _ _ (cw (g6 3)) 3 _ (by kernel_rfl) (@ay _ _ _ _ _ Js g ok ba (@ay _ _ _ _ _ Jv g ok ba (@ay _ _ _ _ _ Jw g ok ba ai)))) (fun _ _=>rfl))⟩
noncomputable def BQ:ax 0 dj (g6 4):=⟨_,fun g ok ba=>(@aF _ _ _ _ _ _ (@rA _ _ _ _ _ (@lN _ _ _ _ _ ok (@aa _ _ _ 5 _ _ _ cQ rfl rfl))))⟩
noncomputable def x7:(D:List V→List V→DE) ×' (∀ g:GA,(Gk g).Ok→Bare g→FN (Gk g) 1 437 [] D):=⟨_,fun g ok ba=>aQ (lv:=0) (fd:=qA) (body:=iH) (sc:=dj) ok (GX g) (@aI _ _ _ _ 1 [(0,.pos 0)] [(tS "parents")] ok rfl (aS rfl) (au (by kernel_rfl)) (bj rfl) (fun h vals kvals X h1 h2=>by obtain ⟨u0,rfl⟩:=ji h1; obtain rfl:=d5 h2; exact Looks.of_peek (K:=KK g.w.params) X (by kernel_rfl))) (@aL _ _ _ iH 5 _ (by kernel_rfl) (@ay _ _ _ _ _ Jn g ok ba (@ay _ _ _ _ _ Jq g ok ba (@ay _ _ _ _ _ Jr g ok ba (@ay _ _ _ _ _ BP g ok ba (@ay _ _ _ _ _ BQ g ok ba ai))))))⟩
noncomputable def Cp:List V→List V→DE:=x7.1
theorem EO (g:GA) (ok:(Gk g).Ok) (ba:Bare g):FN (Gk g) 1 437 [] Cp:=x7.2 g ok ba
theorem E2 (g:GA) (ok:(Gk g).Ok) (ba:Bare g):FN (Gk g) 1 437 [] (cj Cp):=FN.apart ba.gn fun hp=>EO {g with gn:=AllBare,hp:=hp} (ok.pv AllBare hp) ⟨rfl⟩
noncomputable def Gu:List (Str×NameKind):=[((tS "text"),.local),((tS "opened"),.local),((tS "most"),.local),((tS "total"),.local),((tS "part"),.local),((tS "fresh"),.local),((tS "max"),.globalImplicit)]
noncomputable def eH:Sc:=⟨Gu,true,443,(tS "_law_sights.<locals>.")⟩
theorem dQ:NamesOk eH:=by unfold NamesOk; kernel_rfl
noncomputable def qB:FuncData:=dE (cG P0 444) default
noncomputable def iI:List PySem.Stmt:=aX (some qB)
noncomputable abbrev kK:=ac iI
theorem GY (g:GA):FnOk (Gk g) 444 qB iI eH:=FnOk.of (by kernel_rfl) (by kernel_rfl)
noncomputable def Jx:ax 0 eH (kK 0):=⟨_,fun g ok ba=>(@fU _ _ _ _ _ _ _ [3,2,1] [(tS "total"),(tS "most"),(tS "opened")] _ _ (@bA _ _ _ _ _ _ _ ok (@aA _ _ _ _ _ _ _ (@bk _ _ _ _ _ _ ok (@aA _ _ _ _ _ _ _ aq ab rfl)) (@aA _ _ _ _ _ _ _ aq (@aA _ _ _ _ _ _ _ aq ab rfl) rfl) rfl) (by decide)) (fun _=>rfl) (fun env he=>(dJ he).trans (by kernel_rfl)) rfl (dq rfl))⟩
theorem Nx:(tS "/")=(⟨([47]:List Nat).toArray⟩:Str):=by kernel_rfl
noncomputable def Jy:ax 0 eH (ac (cD (ac (cw (kK 1)) 0)) 0):=⟨_,fun g ok ba=>(@aB _ _ _ 1 _ _ _ _ _ (@cW _ _ _ _ _ _ _ _ _ _ _ ok (@aa _ _ _ 1 _ _ _ dQ rfl rfl) ez (@dL _ _ _ _ _ (@d3 _ _ _ _ _ _ aq))) rfl rfl)⟩
noncomputable def Jz:ax 0 eH (ac (iK (ac (cw (kK 1)) 0)) 0):=⟨_,fun g ok ba=>(@aB _ _ _ 5 _ _ _ _ _ (@al _ _ _ _ _ _ _ _ _ _ (@Aa _ _ _ _ _ (@aa _ _ _ 4 _ _ _ dQ rfl rfl)) (@aA _ _ _ _ _ _ _ (@aK _ _ _ _ _ _ _ Dc) ab rfl) (fun _=>rfl) rfl rfl rfl) rfl rfl)⟩
noncomputable def JA:ax 0 eH (ac (iK (ac (cw (kK 1)) 0)) 1):=⟨_,fun g ok ba=>(@aB _ _ _ 1 _ _ _ _ _ (@aD _ _ _ _ _ _ _ _ _ ok (@aa _ _ _ 1 _ _ _ dQ rfl rfl) (@bk _ _ _ _ _ _ ok (@aA _ _ _ _ _ _ _ (@aD _ _ _ _ _ _ _ _ _ ok (@a9 _ _ _ _ _ _ _ _ ok (@aa _ _ _ 1 _ _ _ dQ rfl rfl) (@d3 _ _ _ _ _ _ aq)) (@aa _ _ _ 5 _ _ _ dQ rfl rfl)) ab rfl))) rfl rfl)⟩
noncomputable def JB:ax 0 eH (ac (iK (ac (cw (kK 1)) 0)) 2):=⟨_,fun g ok ba=>(@fU _ _ _ _ _ _ _ [3,2] [(tS "total"),(tS "most")] _ _ (@bA _ _ _ _ _ _ _ ok (@aA _ _ _ _ _ _ _ (@ar _ _ _ _ _ _ _ _ _ (@az _ _ _ _ 6 _ _ _ _ ok rfl (vq g) n5) (@aA _ _ _ _ _ _ _ (@aa _ _ _ 2 _ _ _ dQ rfl rfl) (@aA _ _ _ _ _ _ _ (@a9 _ _ _ _ _ _ _ _ ok (@aa _ _ _ 1 _ _ _ dQ rfl rfl) (@d3 _ _ _ _ _ _ aq)) ab rfl) rfl) rfl) (@aA _ _ _ _ _ _ _ (@aD _ _ _ _ _ _ _ _ _ ok (@aa _ _ _ 3 _ _ _ dQ rfl rfl) (@aa _ _ _ 5 _ _ _ dQ rfl rfl)) ab rfl) rfl) (by decide)) (fun _=>rfl) (fun env he=>(dJ he).trans (by kernel_rfl)) rfl (dq rfl))⟩
noncomputable def JC:ax 0 eH (ac (cw (kK 1)) 0):=⟨_,fun g ok ba=>(@bL _ _ _ _ _ _ _ _ _ _ (@aY _ _ _ _ _ _ _ _ _ (@a9 _ _ _ _ _ _ _ _ ok (@aa _ _ _ 4 _ _ _ dQ rfl rfl) aq) (@aK _ _ _ _ _ _ _ Nx) rfl) (@aL _ _ _ (cD (ac (cw (kK 1)) 0)) 1 _ (by kernel_rfl) (@ay _ _ _ _ _ Jy g ok ba ai)) (@aL _ _ _ (iK (ac (cw (kK 1)) 0)) 3 _ (by kernel_rfl) (@ay _ _ _ _ _ Jz g ok ba (@ay _ _ _ _ _ JA g ok ba (@ay _ _ _ _ _ JB g ok ba ai)))))⟩
noncomputable def JD:ax 0 eH (kK 1):=⟨_,fun g ok ba=>(@em _ _ _ false _ _ _ _ _ _ _ 60 (@cP _ _ _ _ _ _ ok (@cW _ _ _ _ _ _ _ _ _ _ _ ok (@al _ _ _ _ _ _ _ _ _ _ (@Ae _ _ _ _ _ ok (@aa _ _ _ 0 _ _ _ dQ rfl rfl)) (@aA _ _ _ _ _ _ _ (@aK _ _ _ _ _ _ _ sB) ab rfl) (fun _=>rfl) rfl rfl rfl) (@dL _ _ _ _ _ aq) ez)) (fun h=>nomatch h) (@aw _ _ _ 4 _ _ _ rfl (.inl rfl)) (@aL _ _ _ (cw (kK 1)) 1 _ (by kernel_rfl) (@ay _ _ _ _ _ JC g ok ba ai)) (fun _ _=>rfl))⟩
noncomputable def JE:ax 0 eH (kK 2):=⟨_,fun g ok ba=>(@aF _ _ _ _ _ _ (@rA _ _ _ _ _ (@bA _ _ _ _ _ _ _ ok (@aA _ _ _ _ _ _ _ (@aa _ _ _ 2 _ _ _ dQ rfl rfl) (@aA _ _ _ _ _ _ _ (@aa _ _ _ 3 _ _ _ dQ rfl rfl) ab rfl) rfl) (by decide))))⟩
noncomputable def x8:(D:List V→List V→DE) ×' (∀ g:GA,(Gk g).Ok→Bare g→FN (Gk g) 1 444 [] D):=⟨_,fun g ok ba=>aQ (lv:=0) (fd:=qB) (body:=iI) (sc:=eH) ok (GY g) (@aI _ _ _ _ 1 [(0,.pos 0)] [(tS "text")] ok rfl (aS rfl) (au (by kernel_rfl)) (bj rfl) (fun h vals kvals X h1 h2=>by obtain ⟨u0,rfl⟩:=ji h1; obtain rfl:=d5 h2; exact Looks.of_peek (K:=KK g.w.params) X (by kernel_rfl))) (@aL _ _ _ iI 3 _ (by kernel_rfl) (@ay _ _ _ _ _ Jx g ok ba (@ay _ _ _ _ _ JD g ok ba (@ay _ _ _ _ _ JE g ok ba ai))))⟩
noncomputable def Cq:List V→List V→DE:=x8.1
theorem EP (g:GA) (ok:(Gk g).Ok) (ba:Bare g):FN (Gk g) 1 444 [] Cq:=x8.2 g ok ba
theorem E3 (g:GA) (ok:(Gk g).Ok) (ba:Bare g):FN (Gk g) 1 444 [] (cj Cq):=FN.apart ba.gn fun hp=>EP {g with gn:=AllBare,hp:=hp} (ok.pv AllBare hp) ⟨rfl⟩
noncomputable def dK (k:Nat):List Nat:=match k with
 | 0=>[9]
 | 1=>[32,32]
 | _=>[32,9]
noncomputable def f9 (tw:List (List Nat)) (i k:Nat):List Nat:=match gh tw i with
 | some l=>l++dK k
 | none=>[]
noncomputable def nM (tw:List (List Nat)) (i:Nat):List Nat:=match gh tw i with
 | some l=>l
 | none=>[]
noncomputable def sL (tw:List (List Nat)) (i k:Nat):List (List Nat):=tw.take (i+1)++[f9 tw i k]
noncomputable def sN (acc:List Nat):List Nat→List (List Nat)
 | []=>[acc]
 | b::r=>acc::sN (acc++dK b) r
noncomputable def mE (b:List Nat):List (List Nat):=sN [] b
noncomputable def bx (b:List Nat) (i k:Nat):List Nat:=b.take i++[k]
noncomputable abbrev lA:=List (Nat×Nat)
noncomputable def gu:List Nat→lA→Prop
 | _,[]=>True
 | b,(i,k)::r=>i≤b.length∧k<3∧gu (bx b i k) r
noncomputable def As:lA→List V
 | []=>[]
 | (i,_)::r=>vI (i+1)::As r
noncomputable def Fz:List Nat→lA→List V
 | _,[]=>[]
 | b,(i,k)::r=>.str (f9 (mE b) i k)::Fz (bx b i k) r
noncomputable def Av:List Nat→lA→List Nat
 | b,[]=>b
 | b,(i,k)::r=>Av (bx b i k) r
theorem lw (k:Nat):(dK k).length≤2:=by
 unfold dK; split <;> simp
theorem pK {k:Nat}:∀ (b acc:List Nat) (j:Nat),j≤b.length→∃ l,(sN acc b)[j]?=some l∧l.length≤acc.length+2*j∧(sN acc b).take (j+1)++[l++dK k]=sN acc (b.take j++[k])
 | [],acc,0,_=>⟨acc,rfl,by omega,rfl⟩
 | x::r,acc,0,_=>⟨acc,rfl,by omega,rfl⟩
 | x::r,acc,j+1,h=>by
  obtain ⟨l,h1,h2,h3⟩:=pK (k:=k) r (acc++dK x) j (by simpa using h)
  refine ⟨l,by simpa [sN] using h1,?_,?_⟩
  ·have:=lw x
   rw [List.length_append] at h2
   omega
  ·show acc::((sN (acc++dK x) r).take (j+1)++[l++dK k])=acc::sN (acc++dK x) (r.take j++[k])
   rw [h3]
theorem zt {b:List Nat} {i k:Nat} (h:i≤b.length):sL (mE b) i k=mE (bx b i k)∧(nM (mE b) i).length≤2*i:=by
 obtain ⟨l,h1,h2,h3⟩:=pK (k:=k) b [] i h
 have e:gh (mE b) i=some l:=(dR ..).trans h1
 unfold sL f9 nM
 rw [e]
 exact ⟨h3,by simpa using h2⟩
theorem cI {b:List Nat} {i k:Nat} (h:i≤b.length):(bx b i k).length=i+1:=by
 show (b.take i++[k]).length=i+1; rw [List.length_append,List.length_take]; simp; omega
theorem rm {b:List Nat} {i k:Nat} (hk:k<3) (h:∀ x∈b,x<3):∀ x∈bx b i k,x<3:=by
 intro x hx
 rcases List.mem_append.mp hx with hx | hx
 ·exact h x (List.mem_of_mem_take hx)
 ·simp at hx; rw [hx]; exact hk
theorem Cb (b:List Nat):∀ acc,(sN acc b).length=b.length+1:=by
 induction b with
 | nil=>intro acc; rfl
 | cons x r ih=>intro acc; show (sN _ r).length+1=_; rw [ih]; rfl
theorem km {P:Nat→Prop}:∀ {n:Nat},(∀ i,i<n→P i)→jC n P
 | 0,_=>trivial
 | n+1,h=>⟨km fun i hi=>h i (Q4 hi),h n (QK n)⟩
noncomputable def nW (cs:V) (tail:List (Nat×V)) (tw:List (List Nat)) (ds ls:List V):St:=⟨(0,cs)::(3,.loc 1)::(2,.loc 0)::(1,.fro (aG .str tw))::tail,[(1,.list ls),(0,.list ds)],2⟩
noncomputable def Qm (cs:V) (c:Int) (tw:List (List Nat)) (ds ls:List V) (Q:Fl→St→Prop) (i k:Nat):Prop:=
 fits ((nM tw i).length+(dK k).length) (fits ds.length (fits ls.length (Q .next (nW cs [(4,.int c),(5,vI (i+1))] (sL tw i k) (ds++[vI (i+1)]) (ls++[.str (f9 tw i k)])))))
noncomputable def zM (cs:V) (c:Int) (tw:List (List Nat)) (ds ls:List V) (Q:Fl→St→Prop):Prop:=
 jC tw.length fun i=>bg c=true∧jC 3 fun k=>Qm cs c tw ds ls Q i k
theorem xF (cs:V) (c:Int) (ds ls:List V) (Q:Fl→St→Prop):bt (dm 4 (.int c) (nW cs [] [[]] ds ls)) Q=zM cs c [[]] ds ls Q:=by kernel_rfl
theorem Pk (a:List Nat) (cs x y:V) (i:Int) (ds ls:List V) (Q:Fl→St→Prop):bt (dm 4 (.int i) (nW cs [(4,x),(5,y)] [a] ds ls)) Q=zM cs i [a] ds ls Q:=by kernel_rfl
theorem Pl (a b:List Nat) (cs x y:V) (i:Int) (ds ls:List V) (Q:Fl→St→Prop):bt (dm 4 (.int i) (nW cs [(4,x),(5,y)] [a,b] ds ls)) Q=zM cs i [a,b] ds ls Q:=by kernel_rfl
theorem Pm (a b c:List Nat) (cs x y:V) (i:Int) (ds ls:List V) (Q:Fl→St→Prop):bt (dm 4 (.int i) (nW cs [(4,x),(5,y)] [a,b,c] ds ls)) Q=zM cs i [a,b,c] ds ls Q:=by kernel_rfl
theorem Pn (a b c d:List Nat) (cs x y:V) (i:Int) (ds ls:List V) (Q:Fl→St→Prop):bt (dm 4 (.int i) (nW cs [(4,x),(5,y)] [a,b,c,d] ds ls)) Q=zM cs i [a,b,c,d] ds ls Q:=by kernel_rfl
theorem Po (a b c d e:List Nat) (cs x y:V) (i:Int) (ds ls:List V) (Q:Fl→St→Prop):bt (dm 4 (.int i) (nW cs [(4,x),(5,y)] [a,b,c,d,e] ds ls)) Q=zM cs i [a,b,c,d,e] ds ls Q:=by kernel_rfl
theorem Pp (a b c d e f:List Nat) (cs x y:V) (i:Int) (ds ls:List V) (Q:Fl→St→Prop):bt (dm 4 (.int i) (nW cs [(4,x),(5,y)] [a,b,c,d,e,f] ds ls)) Q=zM cs i [a,b,c,d,e,f] ds ls Q:=by kernel_rfl
theorem G7 {tw:List (List Nat)} (h1:1≤tw.length) (h2:tw.length≤6) (cs x y:V) (i:Int) (ds ls:List V) (Q:Fl→St→Prop):bt (dm 4 (.int i) (nW cs [(4,x),(5,y)] tw ds ls)) Q=zM cs i tw ds ls Q:=by
 match tw,h1,h2 with
 | [a],_,_=>exact Pk a cs x y i ds ls Q
 | [a,b],_,_=>exact Pl a b cs x y i ds ls Q
 | [a,b,c],_,_=>exact Pm a b c cs x y i ds ls Q
 | [a,b,c,d],_,_=>exact Pn a b c d cs x y i ds ls Q
 | [a,b,c,d,e],_,_=>exact Po a b c d e cs x y i ds ls Q
 | [a,b,c,d,e,f],_,_=>exact Pp a b c d e f cs x y i ds ls Q
 | _::_::_::_::_::_::_::_,_,h=>simp at h
theorem mq {K:Fl→St→Prop} {cs:List V}:∀ (r:List Int) (k i:Nat) (b:List Nat) (tail:List (Nat×V)) (ds ls:List V),cs.drop i=r.map V.int→r.length<k→(∀ x∈b,x<3)→b.length+r.length≤6→(∀ c∈r,bg c=true)→ds.length+r.length≤100→ls.length+r.length≤100 →
  ((tail=[]∧b=[])∨∃ x y,tail=[(4,x),(5,y)]) →
  (∀ path tail,gu b path→path.length=r.length→K .next (nW (.fro cs) tail (mE (Av b path)) (ds++As path) (ls++Fz b path))) →
  bW (dD (.fro cs)) (gJ 4) bt k i (nW (.fro cs) tail (mE b) ds ls) K
 | r,0,_,_,_,_,_,_,h,_,_,_,_,_,_,_=>absurd h (Nat.not_lt_zero _)
 | [],k+1,i,b,tail,ds,ls,hd,_,_,_,_,_,_,_,hK=>by
  have hn:gh cs i=none:=no hd
  show (match (some (gh cs i):Option (Option V)) with
   | some (some v)=>gJ 4 v _ fun σ1=>bt σ1 _
   | some none=>K .next _
   | none=>False)
  rw [hn]
  have:=hK [] tail trivial rfl
  simpa [As,Fz,Av] using this
 | c::r,k+1,i,b,tail,ds,ls,hd,hk,h3,hb,hs,hds,hls,ht,hK=>by
  obtain ⟨hn,hd'⟩:=kT hd
  show (match (some (gh cs i):Option (Option V)) with
   | some (some v)=>gJ 4 v (nW (.fro cs) tail (mE b) ds ls) fun σ1=>bt σ1 (fun fl σ2=>match fl with
    | .next=>bW (dD (.fro cs)) (gJ 4) bt k (i+1) σ2 K
    | .cont=>bW (dD (.fro cs)) (gJ 4) bt k (i+1) σ2 K
    | .brk=>K .next σ2
    | .ret v=>K (.ret v) σ2)
   | some none=>K .next (nW (.fro cs) tail (mE b) ds ls)
   | none=>False)
  rw [hn]
  show bt (dm 4 (.int c) (nW (.fro cs) tail (mE b) ds ls)) _
  have hl:(mE b).length=b.length+1:=Cb b []
  simp only [List.length_cons] at hb hds hls hk
  have e:∀ Q,bt (dm 4 (.int c) (nW (.fro cs) tail (mE b) ds ls)) Q=zM (.fro cs) c (mE b) ds ls Q:=fun Q=>by
   rcases ht with ⟨rfl,rfl⟩ | ⟨x,y,rfl⟩
   ·exact xF (.fro cs) c ds ls Q
   ·exact G7 (by omega) (by omega) (.fro cs) x y c ds ls Q
  rw [e]
  unfold zM
  refine km fun j hj=>⟨hs c (QL ..),km fun k' hk'=>?_⟩
  have hj:j≤b.length:=by
   have h:=hj
   rw [hl] at h
   exact Nat.le_of_lt_succ h
  obtain ⟨e1,e2⟩:=zt (k:=k') hj
  have:=lw k'
  refine cK (by omega) (cK (by omega) (cK (by omega) ?_))
  show bW (dD (.fro cs)) (gJ 4) bt k (i+1) (nW (.fro cs) [(4,.int c),(5,vI (j+1))] (sL (mE b) j k') (ds++[vI (j+1)]) (ls++[.str (f9 (mE b) j k')])) K
  rw [e1]
  have hsl:=cI (k:=k') hj
  refine mq r k (i+1) (bx b j k') _ _ _ hd' (by omega) (rm hk' h3) (by rw [hsl]; omega) (fun c hc=>hs c (QE _ hc)) (by simp; omega) (by simp; omega) (.inr ⟨_,_,rfl⟩) fun path tail hv hp=>?_
  have:=hK ((j,k')::path) tail ⟨hj,hk',hv⟩ (by simp [hp])
  simpa [As,Fz,Av,List.append_assoc] using this
noncomputable def C3 (Q:V→St→Prop) (fl:Fl) (σ:St):Prop:=match fl with
 | .next=>fO 2 σ fun v σ1=>AI v σ1 fun a σ2=>fO 3 σ2 fun w σ3=>AI w σ3 fun b σ4=>Q (.tup [a,b]) {σ4 with lo:=[]}
 | .ret v=>Q v {σ with lo:=[]}
 | _=>Q .non {σ with lo:=[]}
theorem tN (cs:List V) (Q:V→St→Prop):uA [.fro cs] [] ⟨[],[],0⟩ Q=bW (dD (.fro cs)) (gJ 4) bt 60 0 (nW (.fro cs) [] (mE []) [vI 0] [.str []]) (C3 Q):=by kernel_rfl
theorem xE (cs:V) (tail:List (Nat×V)) (tw:List (List Nat)) (ds ls:List V) (Q:V→St→Prop):C3 Q .next (nW cs tail tw ds ls)=Q (.tup [.fro ds,.fro ls]) ⟨[],[],2⟩:=by kernel_rfl
noncomputable def KC (p:lA):List V:=vI 0::As p
noncomputable def A5 (p:lA):List V:=.str []::Fz [] p
noncomputable def G6 (vs kvs:List V) (σ:St) (Q:V→St→Prop):Prop:=∃ is:List Int,vs=[.fro (is.map V.int)]∧kvs=[]∧is.length=6∧(∀ c∈is,bg c=true)∧∀ path,gu [] path→path.length=6→Q (.tup [.fro (KC path),.fro (A5 path)]) σ
theorem tT {l:List V} (h:∀ v∈l,bG v=true):aM l=true:=by
 induction l with
 | nil=>rfl
 | cons v r ih=>
  show @Bool.rec (fun _=>Bool) false (aM r) (bG v)=true
  rw [h v (QL ..)]
  exact ih fun w hw=>h w (QE _ hw)
theorem nz:∀ (p:lA),aM (As p)=true
 | []=>rfl
 | (i,_)::r=>nz r
theorem nA:∀ (p:lA) (b:List Nat),aM (Fz b p)=true
 | [],_=>rfl
 | (i,k)::r,b=>nA r _
theorem gi {l:List V} (h:aM l=true):bG (.fro l)=true:=dh.trans h
theorem pj {D:List V→List V→DE} {vs kvs:List V} {σ:St} {Q:V→St→Prop} (h1:aM vs=true) (h2:aM kvs=true) (h:D vs kvs ⟨[],[],0⟩ (fM σ Q)):cj D vs kvs σ Q:=by
 unfold cj; rw [h1,h2]; exact h
theorem pn {σ σ':St} {Q:V→St→Prop} {v:V} (h:bG v=true) (q:Q v σ):fM σ Q v σ':=by
 unfold fM; rw [h]; exact q
theorem Fb (g:GA) (ok:(Gk g).Ok) (ba:Bare g):FN (Gk g) 1 392 [] G6:=by
 refine (EX g ok ba).mono fun vs kvs σ Q y_=>?_
 apply bc;intro z_
 obtain ⟨is,e1,e2,hl,hs,h⟩:=y_
 apply z_;clear z_
 subst e1 e2
 refine pj (bC (gi (tT fun v hv=>?_)) rfl) rfl ?_
 ·obtain ⟨i,_,rfl⟩:=List.mem_map.mp hv; rfl
 ·rw [tN]
  refine mq is 60 0 [] [] [vI 0] [.str []] rfl (by omega) (fun _ h=>nomatch h) (by simp [hl]) hs (by simp [hl]) (by simp [hl]) (.inl ⟨rfl,rfl⟩) fun path tail hv hp=>?_
  rw [xE]
  exact pn (lb (bC (gi (nz path)) (bC (gi (nA path [])) rfl))) (h path hv (hp.trans hl))
noncomputable def bo (b:List Nat):List Nat:=b.flatMap dK
noncomputable def b0 (x:Nat) (w:Nrm):Nrm:=match x with
 | 0=>⟨bR w.b w.cs,0,w.n+1,w.nt+1⟩
 | 1=>⟨w.cs,w.b+2,w.n+2,w.nt⟩
 | _=>⟨bR (w.b+1) w.cs,0,w.n+2,w.nt+1⟩
noncomputable def eK (b:List Nat):Nrm:=b.foldl (fun w x=>b0 x w) ⟨[],0,0,0⟩
theorem lx:∀ (a c:List Nat) (w:Nrm),eu (a++c) w=eu c (eu a w)
 | [],c,w=>rfl
 | x::r,c,w=>by
  show (match Nat.beq x 32 with
   | true=>eu (r++c) ⟨w.cs,w.b+1,w.n+1,w.nt⟩
   | false=>eu (r++c) ⟨bR w.b w.cs,0,w.n+1,w.nt+1⟩)=eu c (match Nat.beq x 32 with
   | true=>eu r ⟨w.cs,w.b+1,w.n+1,w.nt⟩
   | false=>eu r ⟨bR w.b w.cs,0,w.n+1,w.nt+1⟩)
  cases Nat.beq x 32 with
  | true=>exact lx r c _
  | false=>exact lx r c _
theorem uj (x:Nat) (w:Nrm):eu (dK x) w=b0 x w:=by
 match x with
 | 0=>rfl
 | 1=>rfl
 | _+2=>rfl
theorem o7:∀ (b:List Nat) (w:Nrm),eu (bo b) w=b.foldl (fun w x=>b0 x w) w
 | [],w=>rfl
 | x::r,w=>by
  show eu (dK x++bo r) w=_
  rw [lx,uj,o7 r]; rfl
theorem eS (b:List Nat):zK (bo b)=eK b:=o7 b _
theorem gz (b:List Nat) (x:Nat):eK (b++[x])=b0 x (eK b):=by
 unfold eK; rw [List.foldl_append]; rfl
noncomputable def pM (x:Nat):Nat:=match x with
 | 0=>1
 | _=>2
theorem hZ (x:Nat) (w:Nrm):(b0 x w).n=w.n+pM x:=by
 match x with
 | 0=>rfl
 | 1=>rfl
 | _+2=>rfl
theorem i6 (x:Nat):1≤pM x∧pM x≤2:=by unfold pM; split <;> omega
theorem wk:∀ (q:List Nat) (w:Nrm),w.n+q.length≤(q.foldl (fun w x=>b0 x w) w).n
 | [],w=>by show w.n+0≤w.n; omega
 | x::r,w=>by
  have:=wk r (b0 x w)
  rw [hZ] at this
  have h:=i6 x
  simp only [List.length_cons,List.foldl_cons]
  omega
theorem ub {x:Nat} {w:Nrm} (h:w.b % 2=0):(b0 x w).b % 2=0:=by
 match x with
 | 0=>rfl
 | 1=>show (w.b+2) % 2=0; omega
 | _+2=>rfl
theorem l6:∀ (q:List Nat) (w:Nrm),w.b % 2=0→(q.foldl (fun w x=>b0 x w) w).b % 2=0
 | [],w,h=>h
 | x::r,w,h=>l6 r (b0 x w) (ub h)
theorem kF:∀ b:List Nat,(bo b).length≤2*b.length
 | []=>QF _
 | x::r=>by
  have:=kF r
  have h:=lw x
  show (dK x++bo r).length≤_
  simp only [List.length_append,List.length_cons]; omega
theorem zy (x:Nat):∀ c∈dK x,c=32∨c=9:=by
 intro c h
 unfold dK at h
 split at h <;> simp at h <;> omega
theorem kG:∀ (b:List Nat),∀ c∈bo b,c=32∨c=9
 | [],c,h=>nomatch h
 | x::r,c,h=>by
  rcases List.mem_append.mp (show c∈dK x++bo r from h) with h | h
  ·exact zy x c h
  ·exact kG r c h
theorem rt:∀ (r:List Nat) (w:Nrm),(eu r w).b≤w.b+r.length
 | [],w=>QF _
 | c::r,w=>by
  show (match Nat.beq c 32 with
   | true=>eu r ⟨w.cs,w.b+1,w.n+1,w.nt⟩
   | false=>eu r ⟨bR w.b w.cs,0,w.n+1,w.nt+1⟩).b≤_
  simp only [List.length_cons]
  cases Nat.beq c 32 with
  | true=>have:=rt r ⟨w.cs,w.b+1,w.n+1,w.nt⟩; dsimp only at this ⊢; omega
  | false=>have:=rt r ⟨bR w.b w.cs,0,w.n+1,w.nt+1⟩; dsimp only at this ⊢; omega
theorem gA {b:List Nat} (h:b.length≤6):(eK b).cs.length≤12∧(eK b).b≤12:=by
 have h1:=i7 (bo b) ⟨[],0,0,0⟩
 have h2:=rt (bo b) ⟨[],0,0,0⟩
 have h3:=kF b
 have e:eu (bo b) ⟨[],0,0,0⟩=eK b:=eS b
 rw [e] at h1 h2
 dsimp only [List.length_nil] at h1 h2
 omega
theorem m7 (ts:Nat):∀ (c:List Nat) (i a d:Nat),g0 ts i c (a+d)=g0 ts i c a+d
 | [],_,_,_=>rfl
 | x::r,i,a,d=>by
  show (match Nat.ble ts i with
   | true=>g0 ts (i+1) r (a+d+i / ts*x)
   | false=>g0 ts (i+1) r (a+d))=(match Nat.ble ts i with
   | true=>g0 ts (i+1) r (a+i / ts*x)
   | false=>g0 ts (i+1) r a)+d
  cases Nat.ble ts i with
  | true=>
   dsimp only
   rw [show a+d+i / ts*x=a+i / ts*x+d by omega]
   exact m7 ts r (i+1) _ d
  | false=>exact m7 ts r (i+1) a d
theorem lX {ts i:Nat} (h:Nat.ble ts i=false):i / ts=0:=by
 refine Nat.div_eq_of_lt ?_
 apply Nat.lt_of_not_le
 intro z
 rw [QQ z] at h; cases h
theorem j0 (ts:Nat):∀ (b:Nat) (c:List Nat) (i a:Nat),g0 ts i (bR b c) a=g0 ts i c a+(i+b) / ts
 | 0,[],i,a=>by
  show (match Nat.ble ts i with
   | true=>a+i / ts*1
   | false=>a)=a+(i+0) / ts
  cases h:Nat.ble ts i with
  | true=>simp
  | false=>simp [lX h]
 | 0,x::r,i,a=>by
  show (match Nat.ble ts i with
   | true=>g0 ts (i+1) r (a+i / ts*(x+1))
   | false=>g0 ts (i+1) r a)=(match Nat.ble ts i with
   | true=>g0 ts (i+1) r (a+i / ts*x)
   | false=>g0 ts (i+1) r a)+(i+0) / ts
  cases h:Nat.ble ts i with
  | true=>
   dsimp only
   rw [Nat.mul_add,Nat.mul_one,← Nat.add_assoc,m7]; rfl
  | false=>simp [lX h]
 | b+1,[],i,a=>by
  show (match Nat.ble ts i with
   | true=>g0 ts (i+1) (bR b []) (a+i / ts*0)
   | false=>g0 ts (i+1) (bR b []) a)=a+(i+(b+1)) / ts
  have e:=j0 ts b [] (i+1) a
  rw [show i+1+b=i+(b+1) by omega] at e
  rw [Nat.mul_zero,Nat.add_zero]
  cases Nat.ble ts i <;> exact e
 | b+1,x::r,i,a=>by
  show (match Nat.ble ts i with
   | true=>g0 ts (i+1) (bR b r) (a+i / ts*x)
   | false=>g0 ts (i+1) (bR b r) a)=(match Nat.ble ts i with
   | true=>g0 ts (i+1) r (a+i / ts*x)
   | false=>g0 ts (i+1) r a)+(i+(b+1)) / ts
  have e:=fun a=>j0 ts b r (i+1) a
  rw [show i+1+b=i+(b+1) by omega] at e
  cases Nat.ble ts i with
  | true=>exact e _
  | false=>exact e _
theorem wG (w:Nrm) (ts:Nat):d4 (b0 0 w) ts=ts*(g0 ts 0 w.cs 0+w.nt)+ts*(w.b / ts)+ts:=by
 show 0+ts*(g0 ts 0 (bR w.b w.cs) 0+(w.nt+1))=_
 rw [j0,Nat.zero_add,Nat.zero_add]
 rw [show g0 ts 0 w.cs 0+w.b / ts+(w.nt+1)=(g0 ts 0 w.cs 0+w.nt)+w.b / ts+1 by omega,Nat.mul_add,Nat.mul_add,Nat.mul_one]
theorem CS (w:Nrm) (ts:Nat):d4 (b0 1 w) ts=w.b+2+ts*(g0 ts 0 w.cs 0+w.nt):=rfl
theorem CT (x:Nat) (w:Nrm) (ts:Nat):d4 (b0 (x+2) w) ts=ts*(g0 ts 0 w.cs 0+w.nt)+ts*((w.b+1) / ts)+ts:=by
 show 0+ts*(g0 ts 0 (bR (w.b+1) w.cs) 0+(w.nt+1))=_
 rw [j0,Nat.zero_add,Nat.zero_add]
 rw [show g0 ts 0 w.cs 0+(w.b+1) / ts+(w.nt+1)=(g0 ts 0 w.cs 0+w.nt)+(w.b+1) / ts+1 by omega,Nat.mul_add,Nat.mul_add,Nat.mul_one]
theorem qM (w:Nrm) (ts:Nat):d4 w ts=w.b+ts*(g0 ts 0 w.cs 0+w.nt):=rfl
theorem kl {b ts:Nat} (h:2≤ts):b<ts*(b / ts)+ts:=by
 have h1:=Nat.div_add_mod b ts
 have h2:=Nat.mod_lt b (show 0<ts by omega)
 omega
theorem qS {w:Nrm} (x:Nat):LessIs w (b0 x w) true:=by
 have hn:w.n<(b0 x w).n:=by rw [hZ]; have:=i6 x; omega
 by_cases h0:w.cs.length≤1∧(b0 x w).cs.length≤1
 ·have:=LessIs.plain hn h0.1 h0.2
  have e:decide (w.nt≤(b0 x w).nt)=true:=by
   refine QS ?_
   match x with
   | 0=>show w.nt≤w.nt+1; omega
   | 1=>exact QF _
   | _+2=>show w.nt≤w.nt+1; omega
  rw [e] at this
  exact this
 ·refine .all hn h0 fun ts h=>?_
  match x with
  | 0=>rw [wG,qM]; have:=kl (b:=w.b) h; omega
  | 1=>rw [CS,qM]; omega
  | x+2=>rw [CT,qM]; have:=kl (b:=w.b+1) h; omega
theorem qR {w:Nrm} {x:Nat} (he:w.b % 2=0) (hx:1≤x):LessIs (b0 0 w) (b0 x w) false:=by
 have hn:(b0 0 w).n<(b0 x w).n:=by
  rw [hZ,hZ]
  match x,hx with
  | x+1,_=>show w.n+1<w.n+2; omega
 match x,hx with
 | 1,_=>
  by_cases h0:(b0 0 w).cs.length≤1∧(b0 1 w).cs.length≤1
  ·have:=LessIs.plain hn h0.1 h0.2
   have e:decide ((b0 0 w).nt≤(b0 1 w).nt)=false:=QR (by show ¬ w.nt+1≤w.nt; omega)
   rw [e] at this
   exact this
  ·refine .two hn h0 ?_
   rw [wG,CS]; omega
 | x+2,_=>
  refine .two hn (fun h=>?_) ?_
  ·have h2:(bR (w.b+1) w.cs).length≤1:=h.2
   rw [fi] at h2
   split at h2 <;> omega
  ·rw [wG,CT]; omega
theorem tv {p q:List Nat} {x:Nat} (hq:q≠[]):LessIs (eK (p++q)) (eK (p++[x])) false:=by
 have he:(eK p).b % 2=0:=l6 p _ rfl
 have e:eK (p++q)=q.foldl (fun w x=>b0 x w) (eK p):=by unfold eK; rw [List.foldl_append]
 rw [gz]
 match q,hq with
 | [0],_=>
  rw [gz]
  match x with
  | 0=>exact .far (QF _)
  | x+1=>exact qR he (by omega)
 | [y+1],_=>
  rw [gz]
  refine .far ?_
  rw [hZ,hZ]
  have:=i6 x
  show (eK p).n+pM x≤(eK p).n+2
  omega
 | y::z::r,_=>
  rw [e]
  refine .far ?_
  have:=wk (y::z::r) (eK p)
  simp only [List.length_cons] at this
  rw [hZ]
  have:=i6 x
  omega
theorem qQ {p:List Nat} {x:Nat}:LessIs (eK p) (eK (p++[x])) true:=by
 rw [gz]; exact qS x
theorem sO:∀ (b acc:List Nat) (j:Nat),j≤b.length→(sN acc b)[j]?=some (acc++bo (b.take j))
 | [],acc,0,_=>by simp [sN,bo]
 | x::r,acc,0,_=>by simp [sN,bo]
 | x::r,acc,j+1,h=>by
  have:=sO r (acc++dK x) j (by simpa using h)
  simp only [sN,List.getElem?_cons_succ,this,List.take_succ_cons,bo,List.flatMap_cons,List.append_assoc]
theorem Kk {b:List Nat} {j:Nat} (h:j≤b.length):gh (mE b) j=some (bo (b.take j)):=by
 rw [dR]; have:=sO b [] j h; simpa [mE] using this
theorem AV {b:List Nat} {i k:Nat} (h:i≤b.length):f9 (mE b) i k=bo (bx b i k):=by
 unfold f9
 rw [Kk h]
 show bo (b.take i)++dK k=bo (b.take i++[k])
 simp [bo]
noncomputable def fZ (s:List Nat):V:=aE s (zK s)
noncomputable def cR (lds:V) (pile:List V) (ds:List V) (tail:List (Nat×V)):St:=⟨(0,lds)::(2,.loc 0)::(1,.fro pile)::tail,[(0,.list ds)],1⟩
noncomputable def Ph (σ:St) (Q:Fl→St→Prop):Prop:=Q .next σ
theorem rV (σ:St) (K:Fl→St→Prop):bU σ K=lc.1 σ (eI q7.1 (eI ld.1 (eI q8.1 (eI Ph K)))):=by kernel_rfl
theorem LQ (lds:V) (pile ds:List V) (s:List Nat) (K:Fl→St→Prop):lc.1 (cR lds pile ds [(3,.str s)]) K=Kw [.str s] [] (cR lds pile ds [(3,.str s)]) fun v σ1=>K .next (dm 4 v σ1):=by kernel_rfl
theorem LR (lds x:V) (pile ds:List V) (s:List Nat) (K:Fl→St→Prop):lc.1 (cR lds pile ds [(3,.str s),(4,x)]) K=Kw [.str s] [] (cR lds pile ds [(3,.str s),(4,x)]) fun v σ1=>K .next (dm 4 v σ1):=by kernel_rfl
noncomputable def oH:DB:=fun σ Q=>fO 1 σ fun v σ1=>dT v σ1 fun b σ2=>match b with
 | true=>fO 1 σ2 fun p σ3=>Kb p (.int (-1)) σ3 fun u σ4=>MK 237 7 u σ4 (fO 4 σ4 fun w σ5=>eW [u,w] [] σ5 fun r σ6=>dT r σ6 fun z σ7=>match nb z with
  | true=>Q true σ7
  | false=>Q false σ7)
 | false=>Q false σ2
noncomputable def nU:DS:=fun σ Q=>ye.1 σ (eI Ph Q)
theorem oI (σ:St) (K:Fl→St→Prop):q7.1 σ K=zC oH nU 60 σ K:=by kernel_rfl
noncomputable abbrev eV (s:List Nat):List (Nat×V):=[(3,.str s),(4,fZ s)]
theorem OE (lds:V) (ds:List V) (s r:List Nat) (w:Nrm) (K':Bool→St→Prop):oH (cR lds [aE r w] ds (eV s)) K'=eW [aE r w,fZ s] [] (cR lds [aE r w] ds (eV s)) fun r σ6=>dT r σ6 fun z σ7=>match nb z with
 | true=>K' true σ7
 | false=>K' false σ7:=by kernel_rfl
theorem Ox (lds u:V) (ds:List V) (s:List Nat) (Q:Fl→St→Prop):nU (cR lds [u] ds (eV s)) Q=Q .next (cR lds [] ds (eV s)):=by kernel_rfl
theorem OF (t0:V) (lds:V) (ds:List V) (s r:List Nat) (w:Nrm) (K':Bool→St→Prop):oH (cR lds [t0,aE r w] ds (eV s)) K'=eW [aE r w,fZ s] [] (cR lds [t0,aE r w] ds (eV s)) fun r σ6=>dT r σ6 fun z σ7=>match nb z with
 | true=>K' true σ7
 | false=>K' false σ7:=by kernel_rfl
theorem Oy (t0:V) (lds u:V) (ds:List V) (s:List Nat) (Q:Fl→St→Prop):nU (cR lds [t0,u] ds (eV s)) Q=Q .next (cR lds [t0] ds (eV s)):=by kernel_rfl
theorem OG (t0 t1:V) (lds:V) (ds:List V) (s r:List Nat) (w:Nrm) (K':Bool→St→Prop):oH (cR lds [t0,t1,aE r w] ds (eV s)) K'=eW [aE r w,fZ s] [] (cR lds [t0,t1,aE r w] ds (eV s)) fun r σ6=>dT r σ6 fun z σ7=>match nb z with
 | true=>K' true σ7
 | false=>K' false σ7:=by kernel_rfl
theorem Oz (t0 t1:V) (lds u:V) (ds:List V) (s:List Nat) (Q:Fl→St→Prop):nU (cR lds [t0,t1,u] ds (eV s)) Q=Q .next (cR lds [t0,t1] ds (eV s)):=by kernel_rfl
theorem OH (t0 t1 t2:V) (lds:V) (ds:List V) (s r:List Nat) (w:Nrm) (K':Bool→St→Prop):oH (cR lds [t0,t1,t2,aE r w] ds (eV s)) K'=eW [aE r w,fZ s] [] (cR lds [t0,t1,t2,aE r w] ds (eV s)) fun r σ6=>dT r σ6 fun z σ7=>match nb z with
 | true=>K' true σ7
 | false=>K' false σ7:=by kernel_rfl
theorem OA (t0 t1 t2:V) (lds u:V) (ds:List V) (s:List Nat) (Q:Fl→St→Prop):nU (cR lds [t0,t1,t2,u] ds (eV s)) Q=Q .next (cR lds [t0,t1,t2] ds (eV s)):=by kernel_rfl
theorem OI (t0 t1 t2 t3:V) (lds:V) (ds:List V) (s r:List Nat) (w:Nrm) (K':Bool→St→Prop):oH (cR lds [t0,t1,t2,t3,aE r w] ds (eV s)) K'=eW [aE r w,fZ s] [] (cR lds [t0,t1,t2,t3,aE r w] ds (eV s)) fun r σ6=>dT r σ6 fun z σ7=>match nb z with
 | true=>K' true σ7
 | false=>K' false σ7:=by kernel_rfl
theorem OB (t0 t1 t2 t3:V) (lds u:V) (ds:List V) (s:List Nat) (Q:Fl→St→Prop):nU (cR lds [t0,t1,t2,t3,u] ds (eV s)) Q=Q .next (cR lds [t0,t1,t2,t3] ds (eV s)):=by kernel_rfl
theorem OJ (t0 t1 t2 t3 t4:V) (lds:V) (ds:List V) (s r:List Nat) (w:Nrm) (K':Bool→St→Prop):oH (cR lds [t0,t1,t2,t3,t4,aE r w] ds (eV s)) K'=eW [aE r w,fZ s] [] (cR lds [t0,t1,t2,t3,t4,aE r w] ds (eV s)) fun r σ6=>dT r σ6 fun z σ7=>match nb z with
 | true=>K' true σ7
 | false=>K' false σ7:=by kernel_rfl
theorem OC (t0 t1 t2 t3 t4:V) (lds u:V) (ds:List V) (s:List Nat) (Q:Fl→St→Prop):nU (cR lds [t0,t1,t2,t3,t4,u] ds (eV s)) Q=Q .next (cR lds [t0,t1,t2,t3,t4] ds (eV s)):=by kernel_rfl
theorem OK (t0 t1 t2 t3 t4 t5:V) (lds:V) (ds:List V) (s r:List Nat) (w:Nrm) (K':Bool→St→Prop):oH (cR lds [t0,t1,t2,t3,t4,t5,aE r w] ds (eV s)) K'=eW [aE r w,fZ s] [] (cR lds [t0,t1,t2,t3,t4,t5,aE r w] ds (eV s)) fun r σ6=>dT r σ6 fun z σ7=>match nb z with
 | true=>K' true σ7
 | false=>K' false σ7:=by kernel_rfl
theorem OD (t0 t1 t2 t3 t4 t5:V) (lds u:V) (ds:List V) (s:List Nat) (Q:Fl→St→Prop):nU (cR lds [t0,t1,t2,t3,t4,t5,u] ds (eV s)) Q=Q .next (cR lds [t0,t1,t2,t3,t4,t5] ds (eV s)):=by kernel_rfl
theorem E4 {t:List V} (h:t.length≤6) (lds:V) (ds:List V) (s r:List Nat) (w:Nrm) (K':Bool→St→Prop):oH (cR lds (t++[aE r w]) ds (eV s)) K'=eW [aE r w,fZ s] [] (cR lds (t++[aE r w]) ds (eV s)) fun r σ6=>dT r σ6 fun z σ7=>match nb z with
 | true=>K' true σ7
 | false=>K' false σ7:=by
 match t,h with
 | [],_=>exact OE  lds ds s r w K'
 | [t0],_=>exact OF t0 lds ds s r w K'
 | [t0,t1],_=>exact OG t0 t1 lds ds s r w K'
 | [t0,t1,t2],_=>exact OH t0 t1 t2 lds ds s r w K'
 | [t0,t1,t2,t3],_=>exact OI t0 t1 t2 t3 lds ds s r w K'
 | [t0,t1,t2,t3,t4],_=>exact OJ t0 t1 t2 t3 t4 lds ds s r w K'
 | [t0,t1,t2,t3,t4,t5],_=>exact OK t0 t1 t2 t3 t4 t5 lds ds s r w K'
 | _::_::_::_::_::_::_::_,h=>simp at h
theorem El {t:List V} (h:t.length≤6) (lds u:V) (ds:List V) (s:List Nat) (Q:Fl→St→Prop):nU (cR lds (t++[u]) ds (eV s)) Q=Q .next (cR lds t ds (eV s)):=by
 match t,h with
 | [],_=>exact Ox  lds u ds s Q
 | [t0],_=>exact Oy t0 lds u ds s Q
 | [t0,t1],_=>exact Oz t0 t1 lds u ds s Q
 | [t0,t1,t2],_=>exact OA t0 t1 t2 lds u ds s Q
 | [t0,t1,t2,t3],_=>exact OB t0 t1 t2 t3 lds u ds s Q
 | [t0,t1,t2,t3,t4],_=>exact OC t0 t1 t2 t3 t4 lds u ds s Q
 | [t0,t1,t2,t3,t4,t5],_=>exact OD t0 t1 t2 t3 t4 t5 lds u ds s Q
 | _::_::_::_::_::_::_::_,h=>simp at h
theorem rW {t:List V} {lds:V} {ds:List V} {s r:List Nat} {w:Nrm} {k:Nat} {z:Bool} {K:Fl→St→Prop} (ht:t.length≤6) (h1:w.cs.length≤12) (h2:(zK s).cs.length≤12) (b1:w.b≤12) (b2:(zK s).b≤12) (L:LessIs w (zK s) z)
  (q:match z with
   | true=>K .next (cR lds (t++[aE r w]) ds (eV s))
   | false=>zC oH nU k (cR lds t ds (eV s)) K):zC oH nU (k+1) (cR lds (t++[aE r w]) ds (eV s)) K:=by
 show oH (cR lds (t++[aE r w]) ds (eV s)) (fun z σ1=>match z with
  | false=>K .next σ1
  | true=>nU σ1 fun fl σ2=>N9 fl (zC oH nU k σ2 K) σ2 K)
 rw [E4 ht]
 refine ⟨r,s,w,zK s,z,rfl,rfl,h1,h2,b1,b2,L,?_⟩
 cases z with
 | true=>exact q
 | false=>
  show nU (cR lds (t++[aE r w]) ds (eV s)) _
  rw [El ht]
  exact q
theorem AA {lds:V} {ds:List V} {s:List Nat} {k:Nat} {K:Fl→St→Prop} (q:K .next (cR lds [] ds (eV s))):zC oH nU (k+1) (cR lds [] ds (eV s)) K:=q
noncomputable def ci (b:List Nat) (m:Nat):List V:=(List.range m).map fun j=>aE (bo (b.take j)) (eK (b.take j))
theorem js (b:List Nat) (m:Nat):ci b (m+1)=ci b m++[aE (bo (b.take m)) (eK (b.take m))]:=by
 unfold ci; rw [List.range_succ,List.map_append]; rfl
theorem kY (b:List Nat) (m:Nat):(ci b m).length=m:=by unfold ci; simp
theorem v7 {b:List Nat} {i k':Nat} {lds:V} {ds:List V} {K:Fl→St→Prop} (hb:b.length≤5) (hi:i≤b.length) (q:K .next (cR lds (ci b (i+1)) ds (eV (bo (bx b i k'))))) :
  ∀ (d k:Nat),i+d≤b.length→d<k→zC oH nU k (cR lds (ci b (i+1+d)) ds (eV (bo (bx b i k')))) K
 | _,0,_,h=>absurd h (Nat.not_lt_zero _)
 | 0,k+1,_,_=>by
  have s1:=gA (b:=b.take i) (by rw [List.length_take]; exact QC (Nat.min_le_right _ _) (Nat.le_succ_of_le hb))
  have s2:=gA (b:=bx b i k') (by rw [cI hi]; exact Nat.succ_le_succ (QC hi hb))
  have L:LessIs (eK (b.take i)) (zK (bo (bx b i k'))) true:=by rw [eS]; exact qQ
  show zC oH nU (k+1) (cR lds (ci b (i+1)) ds _) K
  rw [js] at q ⊢
  exact rW (by rw [kY]; exact Nat.le_succ_of_le (QC hi hb)) s1.1 (by rw [eS]; exact s2.1) s1.2 (by rw [eS]; exact s2.2) L q
 | d+1,k+1,hd,hk=>by
  have s1:=gA (b:=b.take (i+1+d)) (by rw [List.length_take]; exact QC (Nat.min_le_right _ _) (Nat.le_succ_of_le hb))
  have s2:=gA (b:=bx b i k') (by rw [cI hi]; exact Nat.succ_le_succ (QC hi hb))
  have L:LessIs (eK (b.take (i+1+d))) (zK (bo (bx b i k'))) false:=by
   rw [eS]
   have e:b.take (i+1+d)=b.take i++(b.drop i).take (d+1):=by
    rw [show i+1+d=i+(d+1) from Nat.add_right_comm i 1 d,List.take_add]
   rw [e]
   refine tv fun h=>?_
   have:=congrArg List.length h
   rw [List.length_take,List.length_drop] at this
   exact Nat.succ_ne_zero d ((Nat.min_eq_left (Nat.le_sub_of_add_le (by rw [Nat.add_comm]; exact hd))).symm.trans this)
  show zC oH nU (k+1) (cR lds (ci b (i+1+d+1)) ds _) K
  rw [js]
  exact rW (by rw [kY,Nat.add_right_comm]; exact QC hd (Nat.le_succ_of_le hb)) s1.1 (by rw [eS]; exact s2.1) s1.2 (by rw [eS]; exact s2.2) L (v7 hb hi q d k (Nat.le_of_succ_le hd) (Nat.lt_of_succ_lt_succ hk))
theorem CJ (lds x:V) (pile ds:List V) (s:List Nat) (K:Fl→St→Prop):ld.1 (cR lds pile ds [(3,.str s),(4,x)]) (eI q8.1 (eI Ph K)) =
 fits pile.length (fits ds.length (fits (pile.length+1) (K .next (cR lds (pile++[x]) (ds++[.int (pile.length:Nat)]) [(3,.str s),(4,x)])))):=by kernel_rfl
theorem rl {b:List Nat} {i k:Nat} (h:i≤b.length):∀ j,j≤i→(bx b i k).take j=b.take j:=by
 intro j hj
 show (b.take i++[k]).take j=b.take j
 rw [List.take_append_of_le_length (by rw [List.length_take]; omega),List.take_take,Nat.min_eq_left hj]
theorem tO {b:List Nat} {i k:Nat} (h:i≤b.length):ci b (i+1)++[fZ (bo (bx b i k))]=ci (bx b i k) (i+2):=by
 rw [js (bx b i k) (i+1)]
 have e:(bx b i k).take (i+1)=bx b i k:=List.take_of_length_le (Rc (cI h))
 rw [e]
 unfold fZ
 rw [eS]
 congr 1
 unfold ci
 refine List.map_congr_left fun j hj=>?_
 rw [rl h j (by have:=List.mem_range.mp hj; omega)]
theorem Az {b:List Nat} {i k':Nat} {lds:V} {ds:List V} {tail:List (Nat×V)} {K:Fl→St→Prop} (hb:b.length≤5) (hi:i≤b.length) (hds:ds.length≤100) (ht:tail=[]∨∃ x,tail=[(4,x)])
  (q:K .next (cR lds (ci (bx b i k') (i+2)) (ds++[vI (i+1)]) (eV (bo (bx b i k'))))) :
  bU (cR lds (ci b (b.length+1)) ds ((3,.str (bo (bx b i k')))::tail)) K:=by
 have hl:=kF (bx b i k')
 rw [cI hi] at hl
 have h12:(bo (bx b i k')).length≤12:=by clear q ht hds; omega
 have go:∀ K:Fl→St→Prop,K .next (cR lds (ci b (b.length+1)) ds (eV (bo (bx b i k'))))→lc.1 (cR lds (ci b (b.length+1)) ds ((3,.str (bo (bx b i k')))::tail)) K:=fun K q=>by
  rcases ht with rfl | ⟨x,rfl⟩
  ·rw [LQ]; exact ⟨_,rfl,rfl,kG _,h12,q⟩
  ·rw [LR]; exact ⟨_,rfl,rfl,kG _,h12,q⟩
 rw [rV]
 refine go _ ?_
 rw [bY,oI]
 obtain ⟨d,hd⟩:∃ d,b.length=i+d:=⟨b.length - i,(Nat.add_sub_cancel' hi).symm⟩
 rw [show b.length+1=i+1+d by rw [hd,Nat.add_right_comm]]
 refine v7 hb hi ?_ d 60 (Rc hd.symm) (Rb (QC (Nat.le_add_left d i) (QC (Rc hd.symm) hb)) (by decide))
 rw [bY]
 show ld.1 (cR lds (ci b (i+1)) ds [(3,.str (bo (bx b i k'))),(4,fZ (bo (bx b i k')))]) _
 rw [CJ,kY]
 refine cK (QC (Nat.succ_le_succ (QC hi hb)) (by decide)) (cK (QC hds (by decide)) (cK (QC (Nat.succ_le_succ (Nat.succ_le_succ (QC hi hb))) (by decide)) ?_))
 rw [tO hi]
 exact q
theorem v6 {lds:V} {K:Fl→St→Prop} (q:K .next (cR lds (ci [] 1) [vI 0] (eV []))):bU (cR lds [] [] [(3,.str [])]) K:=by
 rw [rV,LQ]
 refine ⟨[],rfl,rfl,fun _ h=>(nomatch h),Q3 _,?_⟩
 dsimp only
 rw [bY,oI]
 refine AA (s:=[]) (k:=59) ?_
 rw [bY]
 show ld.1 (cR lds [] [] [(3,.str []),(4,fZ [])]) _
 rw [CJ]
 refine cK (by simp) (cK (by simp) (cK (by simp) ?_))
 exact q
theorem ku {K:Fl→St→Prop} {lds:List V}:∀ (p:lA) (k i:Nat) (b:List Nat) (x y:V) (ds:List V),lds.drop i=Fz b p→p.length<k→b.length+p.length≤6→gu b p→ds.length+p.length≤100 →
  (∀ pile x y,K .next (cR (.fro lds) pile (ds++As p) [(3,x),(4,y)])) →
  bW (dD (.fro lds)) (gJ 3) bU k i (cR (.fro lds) (ci b (b.length+1)) ds [(3,x),(4,y)]) K
 | p,0,_,_,_,_,_,_,h,_,_,_,_=>absurd h (Nat.not_lt_zero _)
 | [],k+1,i,b,x,y,ds,hd,_,_,_,_,hK=>by
  have hn:gh lds i=none:=no hd
  show (match (some (gh lds i):Option (Option V)) with
   | some (some v)=>gJ 3 v _ fun σ1=>bU σ1 _
   | some none=>K .next _
   | none=>False)
  rw [hn]
  have:=hK (ci b (b.length+1)) x y
  simpa [As] using this
 | (j,k')::r,k+1,i,b,x,y,ds,hd,hk,hb,hv,hds,hK=>by
  obtain ⟨hj,hk',hv⟩:=hv
  obtain ⟨hn,hd'⟩:=kT hd
  show (match (some (gh lds i):Option (Option V)) with
   | some (some v)=>gJ 3 v (cR (.fro lds) (ci b (b.length+1)) ds [(3,x),(4,y)]) fun σ1=>bU σ1 (fun fl σ2=>match fl with
    | .next=>bW (dD (.fro lds)) (gJ 3) bU k (i+1) σ2 K
    | .cont=>bW (dD (.fro lds)) (gJ 3) bU k (i+1) σ2 K
    | .brk=>K .next σ2
    | .ret v=>K (.ret v) σ2)
   | some none=>K .next (cR (.fro lds) (ci b (b.length+1)) ds [(3,x),(4,y)])
   | none=>False)
  rw [hn]
  simp only [List.length_cons] at hb hds hk
  have e:=AV (k:=k') hj
  show bU (cR (.fro lds) (ci b (b.length+1)) ds [(3,.str (f9 (mE b) j k')),(4,y)]) _
  rw [e]
  refine Az (by omega) hj (by omega) (.inr ⟨_,rfl⟩) ?_
  show bW (dD (.fro lds)) (gJ 3) bU k (i+1) (cR (.fro lds) (ci (bx b j k') (j+2)) (ds++[vI (j+1)]) [(3,.str (bo (bx b j k'))),(4,fZ (bo (bx b j k')))]) K
  have hsl:=cI (k:=k') hj
  have:=ku r k (i+1) (bx b j k') (.str (bo (bx b j k'))) (fZ (bo (bx b j k'))) (ds++[vI (j+1)]) hd' (by omega) (by rw [hsl]; omega) hv (by simp; omega) fun pile x y=>by
   have:=hK pile x y
   simpa [As,List.append_assoc] using this
  rw [hsl] at this
  exact this
noncomputable def qD (Q:V→St→Prop) (fl:Fl) (σ:St):Prop:=match fl with
 | .next=>fO 2 σ fun v σ1=>AI v σ1 fun a σ2=>Q a {σ2 with lo:=[]}
 | .ret v=>Q v {σ with lo:=[]}
 | _=>Q .non {σ with lo:=[]}
theorem qE (lds:List V) (Q:V→St→Prop):uB [.fro lds] [] ⟨[],[],0⟩ Q=bW (dD (.fro lds)) (gJ 3) bU 60 0 (cR (.fro lds) [] [] []) (qD Q):=by kernel_rfl
theorem tn (lds:V) (tail:List (Nat×V)) (pile ds:List V) (Q:V→St→Prop):qD Q .next (cR lds pile ds tail)=Q (.fro ds) ⟨[],[],1⟩:=by kernel_rfl
noncomputable def AB (vs kvs:List V) (σ:St) (Q:V→St→Prop):Prop:=∃ path,gu [] path∧path.length=6∧vs=[.fro (A5 path)]∧kvs=[]∧Q (.fro (KC path)) σ
theorem Fc (g:GA) (ok:(Gk g).Ok) (ba:Bare g):FN (Gk g) 3 399 [] AB:=by
 refine (EY g ok ba).mono fun vs kvs σ Q y_=>?_
 apply bc;intro z_
 obtain ⟨path,hv,hl,e1,e2,h⟩:=y_
 apply z_;clear z_
 subst e1 e2
 refine pj (bC (gi (nA path [])) rfl) rfl ?_
 rw [qE]
 show bU (cR (.fro (A5 path)) [] [] [(3,.str [])]) _
 refine v6 ?_
 show bW (dD (.fro (A5 path))) (gJ 3) bU 59 1 (cR (.fro (A5 path)) (ci [] 1) [vI 0] [(3,.str []),(4,fZ [])]) (qD (fM σ Q))
 refine ku path 59 1 [] (.str []) (fZ []) [vI 0] rfl (by omega) (by simp [hl]) hv (by simp [hl]) fun pile x y=>?_
 rw [tn]
 exact pn (gi (nz path)) h
noncomputable def Gv:List (Str×NameKind):=[((tS "script"),.local),((tS "cells"),.local),((tS "depths"),.local),((tS "leads"),.local),((tS "found"),.local),((tS "parents"),.cell),((tS "book"),.cell),((tS "least"),.local),((tS "owners"),.local),((tS "text"),.local),((tS "ends"),.local),((tS "_law_page"),.globalImplicit),((tS "_law_found"),.globalImplicit),((tS "_law_parents"),.globalImplicit),((tS "_law_book"),.globalImplicit),((tS "_law_least"),.globalImplicit),((tS "range"),.globalImplicit),((tS "_law_owners"),.globalImplicit),((tS "_law_written"),.globalImplicit),((tS "_law_told"),.globalImplicit),((tS "_law_sights"),.globalImplicit),((tS "len"),.globalImplicit)]
noncomputable def cz:Sc:=⟨Gv,true,448,(tS "law.<locals>.")⟩
theorem cc:NamesOk cz:=by unfold NamesOk; kernel_rfl
noncomputable def vZ:FuncData:=dE (cG P0 449) default
noncomputable def bM:List PySem.Stmt:=aX (some vZ)
noncomputable abbrev FW:=ac bM
theorem GZ (g:GA):FnOk (Gk g) 449 vZ bM cz:=FnOk.of (by kernel_rfl) (by kernel_rfl)
noncomputable def xv:List (Str×NameKind):=[((tS ".0"),.local),((tS "cell"),.local),((tS "int"),.globalImplicit)]
noncomputable def pF:Sc:=⟨xv,false,0,(tS "")⟩
theorem xy:NamesOk pF:=by unfold NamesOk; kernel_rfl
noncomputable def ph:ax 6 cz (FW 0):=⟨_,fun g ok ba=>(@aB _ _ _ 1 _ _ _ _ _ (@cW _ _ _ _ _ _ _ _ _ _ _ ok (@aD _ _ _ _ _ _ _ _ _ ok (@cY _ _ _ pF false _ _ _ _ _ _ _ _ _ _ ok (@CompOk.of _ _ _ [] (by kernel_rfl)) (@cP _ _ _ _ _ _ ok (@cW _ _ _ _ _ _ _ _ _ _ _ ok (@aa _ _ _ 0 _ _ _ cc rfl rfl) ez (@dL _ _ _ _ _ aq))) (fun _ _=>rfl) (@cT _ _ _ _ _ _ _ _ _ _ _ _ _ 60 (fun h=>nomatch h) (@aw _ _ _ 1 _ _ _ rfl (.inl rfl)) fx (@aD _ _ _ _ _ _ _ _ _ ok (@ar _ _ _ _ _ _ _ _ _ (@az _ _ _ _ 2 _ _ _ _ ok rfl (P8 g) Cg) (@aA _ _ _ _ _ _ _ (@aa _ _ _ 1 _ _ _ xy rfl rfl) ab rfl) rfl) (@aD _ _ _ _ _ _ _ _ _ ok aq aq)))) (@bk _ _ _ _ _ _ ok (@aA _ _ _ _ _ _ _ aq (@aA _ _ _ _ _ _ _ aq (@aA _ _ _ _ _ _ _ aq (@aA _ _ _ _ _ _ _ aq (@aA _ _ _ _ _ _ _ aq (@aA _ _ _ _ _ _ _ aq ab rfl) rfl) rfl) rfl) rfl) rfl))) ez (@dL _ _ _ _ _ aq)) rfl rfl)⟩
noncomputable def bE:DS:=ph.1
theorem Eb:dc (tS "_law_page"):=by kernel_rfl
theorem L9 (P:Params):nsIn (KK P) mainGlobals (tS "_law_page")=some (some (.ref 392)):=by kernel_rfl
noncomputable def kZ:ax 6 cz (FW 1):=⟨_,fun g ok ba=>(@bF _ _ _ _ _ _ _ _ (@ar _ _ _ _ _ _ _ _ _ (@aT _ _ _ _ 11 _ _ _ _ ok Eb rfl (L9 _) (@CB.up _ _ _ _ _ _ (@FN.cb _ _ _ _ _ ok (Fb g ok ba)) rfl)) (@aA _ _ _ _ _ _ _ (@aa _ _ _ 1 _ _ _ cc rfl rfl) ab rfl) rfl) (@cn _ _ _ _ _ (@cA _ _ _ _ _ _ _ (@aR _ _ _ _ _ _ _ (@aw _ _ _ 2 _ _ _ rfl (.inl rfl)) (@aR _ _ _ _ _ _ _ (@aw _ _ _ 3 _ _ _ rfl (.inl rfl)) dA (fun _=>rfl)) (fun _=>rfl)) (fun _=>rfl) (fun _=>rfl)) (fun _=>rfl)) (fun _=>rfl) (fun _ _=>rfl))⟩
noncomputable def j8:DS:=kZ.1
theorem Ec:dc (tS "_law_found"):=by kernel_rfl
theorem Ma (P:Params):nsIn (KK P) mainGlobals (tS "_law_found")=some (some (.ref 399)):=by kernel_rfl
noncomputable def k9:ax 6 cz (FW 2):=⟨_,fun g ok ba=>(@aB _ _ _ 4 _ _ _ _ _ (@ar _ _ _ _ _ _ _ _ _ (@aT _ _ _ _ 12 _ _ _ _ ok Ec rfl (Ma _) (@CB.up _ _ _ _ _ _ (@FN.cb _ _ _ _ _ ok (Fc g ok ba)) rfl)) (@aA _ _ _ _ _ _ _ (@aa _ _ _ 3 _ _ _ cc rfl rfl) ab rfl) rfl) rfl rfl)⟩
noncomputable def j9:DS:=k9.1
noncomputable def JF:ax 6 cz (ac (bM.drop 3) 0):=⟨_,fun g ok ba=>(@bL _ _ _ _ _ _ _ _ _ _ (@aY _ _ _ _ _ _ _ _ _ (@aa _ _ _ 4 _ _ _ cc rfl rfl) (@aa _ _ _ 2 _ _ _ cc rfl rfl) rfl) (@cr _ _ _ _ _ _ _ (@aF _ _ _ _ _ _ b7) ai) ai)⟩
theorem Ed:dc (tS "_law_parents"):=by kernel_rfl
theorem Mb (P:Params):nsIn (KK P) mainGlobals (tS "_law_parents")=some (some (.ref 404)):=by kernel_rfl
noncomputable def JG:ax 6 cz (ac (bM.drop 3) 1):=⟨_,fun g ok ba=>(@bF _ _ _ _ _ _ _ _ (@ar _ _ _ _ _ _ _ _ _ (@aT _ _ _ _ 13 _ _ _ _ ok Ed rfl (Mb _) (@CB.up _ _ _ _ _ _ (@FN.cb _ _ _ _ _ ok (EZ g ok ba)) rfl)) (@aA _ _ _ _ _ _ _ (@aa _ _ _ 4 _ _ _ cc rfl rfl) ab rfl) rfl) (@cn _ _ _ _ _ (@aw _ _ _ 5 _ _ _ rfl (.inr ⟨rfl,rfl⟩)) (fun _=>rfl)) (fun _=>rfl) (fun _ _=>rfl))⟩
theorem Ee:dc (tS "_law_book"):=by kernel_rfl
theorem Mc (P:Params):nsIn (KK P) mainGlobals (tS "_law_book")=some (some (.ref 411)):=by kernel_rfl
noncomputable def JH:ax 6 cz (ac (bM.drop 3) 2):=⟨_,fun g ok ba=>(@bF _ _ _ _ _ _ _ _ (@ar _ _ _ _ _ _ _ _ _ (@aT _ _ _ _ 14 _ _ _ _ ok Ee rfl (Mc _) (@CB.up _ _ _ _ _ _ (@FN.cb _ _ _ _ _ ok (EK g ok ba)) rfl)) (@aA _ _ _ _ _ _ _ (@aa _ _ _ 5 _ _ _ cc rfl rfl) ab rfl) rfl) (@cn _ _ _ _ _ (@aw _ _ _ 6 _ _ _ rfl (.inr ⟨rfl,rfl⟩)) (fun _=>rfl)) (fun _=>rfl) (fun _ _=>rfl))⟩
theorem Ef:dc (tS "_law_least"):=by kernel_rfl
theorem Md (P:Params):nsIn (KK P) mainGlobals (tS "_law_least")=some (some (.ref 437)):=by kernel_rfl
noncomputable def JI:ax 6 cz (ac (bM.drop 3) 3):=⟨_,fun g ok ba=>(@aB _ _ _ 7 _ _ _ _ _ (@ar _ _ _ _ _ _ _ _ _ (@aT _ _ _ _ 15 _ _ _ _ ok Ef rfl (Md _) (@CB.up _ _ _ _ _ _ (@FN.cb _ _ _ _ _ ok (E2 g ok ba)) rfl)) (@aA _ _ _ _ _ _ _ (@aa _ _ _ 5 _ _ _ cc rfl rfl) ab rfl) rfl) rfl rfl)⟩
noncomputable def tI:List (Str×NameKind):=[((tS ".0"),.local),((tS "line"),.local),((tS "_law_word"),.globalImplicit),((tS "book"),.cell)]
noncomputable def my:Sc:=⟨tI,false,0,(tS "")⟩
theorem ml:NamesOk my:=by unfold NamesOk; kernel_rfl
noncomputable def tJ:List (Str×NameKind):=[((tS ".0"),.local),((tS "many"),.local)]
noncomputable def mz:Sc:=⟨tJ,false,0,(tS "")⟩
theorem tL:NamesOk mz:=by unfold NamesOk; kernel_rfl
theorem Ny:(tS "ABCDEFGH")=(⟨([65,66,67,68,69,70,71,72]:List Nat).toArray⟩:Str):=by kernel_rfl
noncomputable def JJ:ax 6 cz (ac (bM.drop 3) 4):=⟨_,fun g ok ba=>(@bL _ _ _ _ _ _ _ _ _ _ (@aY _ _ _ _ _ _ _ _ _ (@cY _ _ _ my false _ _ _ _ _ _ _ _ _ _ ok (@CompOk.of _ _ _ [(3,6)] (by kernel_rfl)) (@cB _ _ _ _ _ 16 _ _ _ _ _ _ ok rfl (lB g) (fun _ h=>nomatch h) (eO ok) (@aA _ _ _ _ _ _ _ aq ab rfl) (fun _ _=>rfl)) (fun _ _=>rfl) (@cT _ _ _ _ _ _ _ _ _ _ _ _ _ 60 (fun h=>nomatch h) (@aw _ _ _ 1 _ _ _ rfl (.inl rfl)) fx (@al _ _ _ _ _ _ _ _ _ _ (@dB _ _ _ _ _ _ _ 10 _ _ _ ok (bP g) (lR g) (mi _) (mF _) (@aa _ _ _ 3 _ _ _ ml rfl rfl) (@CB.up _ _ _ _ _ _ (@FN.cb _ _ _ _ _ ok (m3 g ok ba)) rfl)) (@aA _ _ _ _ _ _ _ (@ar _ _ _ _ _ _ _ _ _ (@aT _ _ _ _ 2 _ _ _ _ ok gW rfl (kA _) (@CB.up _ _ _ _ _ _ (@FN.cb _ _ _ _ _ ok (gZ g ok ba)) rfl)) (@aA _ _ _ _ _ _ _ (@aa _ _ _ 1 _ _ _ ml rfl rfl) ab rfl) rfl) ab rfl) (fun _=>rfl) rfl rfl rfl))) (@cY _ _ _ mz false _ _ _ _ _ _ _ _ _ _ ok (@CompOk.of _ _ _ [] (by kernel_rfl)) (@cP _ _ _ _ _ _ ok (@aa _ _ _ 7 _ _ _ cc rfl rfl)) (fun _ _=>rfl) (@cT _ _ _ _ _ _ _ _ _ _ _ _ _ 60 (fun h=>nomatch h) (@aw _ _ _ 1 _ _ _ rfl (.inl rfl)) fx (@a9 _ _ _ _ _ _ _ _ ok (@aK _ _ _ _ _ _ _ Ny) (@aa _ _ _ 1 _ _ _ tL rfl rfl)))) rfl) (@cr _ _ _ _ _ _ _ (@aF _ _ _ _ _ _ b7) ai) ai)⟩
theorem Eg:dc (tS "_law_owners"):=by kernel_rfl
theorem Me (P:Params):nsIn (KK P) mainGlobals (tS "_law_owners")=some (some (.ref 418)):=by kernel_rfl
noncomputable def JK:ax 6 cz (ac (bM.drop 3) 5):=⟨_,fun g ok ba=>(@aB _ _ _ 8 _ _ _ _ _ (@ar _ _ _ _ _ _ _ _ _ (@aT _ _ _ _ 17 _ _ _ _ ok Eg rfl (Me _) (@CB.up _ _ _ _ _ _ (@FN.cb _ _ _ _ _ ok (EL g ok ba)) rfl)) (@aA _ _ _ _ _ _ _ (@aa _ _ _ 5 _ _ _ cc rfl rfl) (@aA _ _ _ _ _ _ _ (@aa _ _ _ 6 _ _ _ cc rfl rfl) ab rfl) rfl) rfl) rfl rfl)⟩
theorem Eh:dc (tS "_law_written"):=by kernel_rfl
theorem Mf (P:Params):nsIn (KK P) mainGlobals (tS "_law_written")=some (some (.ref 425)):=by kernel_rfl
noncomputable def JL:ax 6 cz (ac (bM.drop 3) 6):=⟨_,fun g ok ba=>(@aB _ _ _ 9 _ _ _ _ _ (@ar _ _ _ _ _ _ _ _ _ (@aT _ _ _ _ 18 _ _ _ _ ok Eh rfl (Mf _) (@CB.up _ _ _ _ _ _ (@FN.cb _ _ _ _ _ ok (E0 g ok ba)) rfl)) (@aA _ _ _ _ _ _ _ (@aa _ _ _ 4 _ _ _ cc rfl rfl) (@aA _ _ _ _ _ _ _ (@aa _ _ _ 8 _ _ _ cc rfl rfl) ab rfl) rfl) rfl) rfl rfl)⟩
theorem Ei:dc (tS "_law_told"):=by kernel_rfl
theorem Mg (P:Params):nsIn (KK P) mainGlobals (tS "_law_told")=some (some (.ref 432)):=by kernel_rfl
noncomputable def JM:ax 6 cz (ac (bM.drop 3) 7):=⟨_,fun g ok ba=>(@bL _ _ _ _ _ _ _ _ _ _ (@aY _ _ _ _ _ _ _ _ _ (@aa _ _ _ 9 _ _ _ cc rfl rfl) (@ar _ _ _ _ _ _ _ _ _ (@aT _ _ _ _ 19 _ _ _ _ ok Ei rfl (Mg _) (@CB.up _ _ _ _ _ _ (@FN.cb _ _ _ _ _ ok (E1 g ok ba)) rfl)) (@aA _ _ _ _ _ _ _ (@aa _ _ _ 2 _ _ _ cc rfl rfl) (@aA _ _ _ _ _ _ _ (@aa _ _ _ 8 _ _ _ cc rfl rfl) ab rfl) rfl) rfl) rfl) (@cr _ _ _ _ _ _ _ (@aF _ _ _ _ _ _ b7) ai) ai)⟩
noncomputable def tK:List (Str×NameKind):=[((tS ".0"),.local),((tS "line"),.local),((tS "parents"),.cell)]
noncomputable def mA:Sc:=⟨tK,false,0,(tS "")⟩
theorem jo:NamesOk mA:=by unfold NamesOk; kernel_rfl
noncomputable def JN:ax 6 cz (ac (bM.drop 3) 8):=⟨_,fun g ok ba=>(@fz _ _ _ mA false _ _ _ _ _ _ _ _ _ _ _ 10 _ _ ok (@CompOk.of _ _ _ [(2,5)] (by kernel_rfl)) (@cB _ _ _ _ _ 16 _ _ _ _ _ _ ok rfl (lB g) (fun _ h=>nomatch h) (eO ok) (@aA _ _ _ _ _ _ _ aq ab rfl) (fun _ _=>rfl)) (fun _ _=>rfl) (@cT _ _ _ _ _ _ _ _ _ _ _ _ _ 60 (fun h=>nomatch h) (@aw _ _ _ 1 _ _ _ rfl (.inl rfl)) (@mK _ _ _ _ _ (@aY _ _ _ _ _ _ _ _ _ (@aa _ _ _ 1 _ _ _ jo rfl rfl) (@cW _ _ _ _ _ _ _ _ _ _ _ ok (@aa _ _ _ 2 _ _ _ jo rfl rfl) (@dL _ _ _ _ _ aq) ez) rfl)) (@aa _ _ _ 1 _ _ _ jo rfl rfl)) rfl (fun env he=>(jx he).trans (by kernel_rfl)))⟩
theorem Ej:dc (tS "_law_sights"):=by kernel_rfl
theorem Mh (P:Params):nsIn (KK P) mainGlobals (tS "_law_sights")=some (some (.ref 444)):=by kernel_rfl
noncomputable def JO:ax 6 cz (ac (bM.drop 3) 9):=⟨_,fun g ok ba=>(@aF _ _ _ _ _ _ (@n8 _ _ _ _ _ _ _ _ _ (@ar _ _ _ _ _ _ _ _ _ (@aT _ _ _ _ 20 _ _ _ _ ok Ej rfl (Mh _) (@CB.up _ _ _ _ _ _ (@FN.cb _ _ _ _ _ ok (E3 g ok ba)) rfl)) (@aA _ _ _ _ _ _ _ (@aa _ _ _ 9 _ _ _ cc rfl rfl) ab rfl) rfl) (@bA _ _ _ _ _ _ _ ok (@aA _ _ _ _ _ _ _ (@a9 _ _ _ _ _ _ _ _ ok (@aa _ _ _ 7 _ _ _ cc rfl rfl) aq) (@aA _ _ _ _ _ _ _ (@ar _ _ _ _ _ _ _ _ _ (@az _ _ _ _ 21 _ _ _ _ ok rfl (s7 g) fJ) (@aA _ _ _ _ _ _ _ (@aa _ _ _ 10 _ _ _ cc rfl rfl) ab rfl) rfl) ab rfl) rfl) (by decide)) rfl))⟩
noncomputable def pi:Lc 6 cz (bM.drop 3):=⟨_,fun g ok ba=>(@aL _ _ _ (bM.drop 3) 10 _ (by kernel_rfl) (@ay _ _ _ _ _ JF g ok ba (@ay _ _ _ _ _ JG g ok ba (@ay _ _ _ _ _ JH g ok ba (@ay _ _ _ _ _ JI g ok ba (@ay _ _ _ _ _ JJ g ok ba (@ay _ _ _ _ _ JK g ok ba (@ay _ _ _ _ _ JL g ok ba (@ay _ _ _ _ _ JM g ok ba (@ay _ _ _ _ _ JN g ok ba (@ay _ _ _ _ _ JO g ok ba ai)))))))))))⟩
noncomputable def ic:DS:=pi.1
noncomputable def AT (P:V→Prop) (fl:Fl) (σ:St):Prop:=P (mx fl)
noncomputable def ce (i:Int):V:=.int (Int.fmod i 1000000)
noncomputable def zd (sv:V) (cs xs:List V):St:=⟨[(0,sv),(1,.fro cs)],[(0,.list xs)],1⟩
noncomputable def Pz (sv lv:V) (cs xs ds:List V):St:=⟨[(0,sv),(1,.fro cs),(2,.fro ds),(3,lv),(4,.fro ds)],[(0,.list xs)],1⟩
noncomputable def nu:(d:DS) ×' (∀ g:GA,(Gk g).Ok→Bare g→i8 (Gk g) 6 cz bM d):=⟨_,fun g ok ba=>cr (ph.2 g ok ba) (cr (kZ.2 g ok ba) (cr (k9.2 g ok ba) (pi.2 g ok ba)))⟩
theorem wW (σ:St) (K:Fl→St→Prop):nu.1 σ K=bE σ (eI j8 (eI j9 (eI ic K))):=by kernel_rfl
theorem c0 (K:Fl→St→Prop):bE ⟨[(0,.fro [])],[],0⟩ K=K .next (zd (.fro []) [.int 9,.int 1,.int 16,.int 3,.int 17,.int 10] []):=by kernel_rfl
theorem c1 (a:Int) (K:Fl→St→Prop):bE ⟨[(0,.fro [.int a])],[],0⟩ K=K .next (zd (.fro [.int a]) [ce a,.int 9,.int 1,.int 16,.int 3,.int 17] [ce a]):=by kernel_rfl
theorem c2 (a b:Int) (K:Fl→St→Prop):bE ⟨[(0,.fro [.int a,.int b])],[],0⟩ K=K .next (zd (.fro [.int a,.int b]) [ce a,ce b,.int 9,.int 1,.int 16,.int 3] [ce a,ce b]):=by kernel_rfl
theorem c3 (a b c:Int) (K:Fl→St→Prop):bE ⟨[(0,.fro [.int a,.int b,.int c])],[],0⟩ K=K .next (zd (.fro [.int a,.int b,.int c]) [ce a,ce b,ce c,.int 9,.int 1,.int 16] [ce a,ce b,ce c]):=by kernel_rfl
theorem c4 (a b c d:Int) (K:Fl→St→Prop):bE ⟨[(0,.fro [.int a,.int b,.int c,.int d])],[],0⟩ K=K .next (zd (.fro [.int a,.int b,.int c,.int d]) [ce a,ce b,ce c,ce d,.int 9,.int 1] [ce a,ce b,ce c,ce d]):=by kernel_rfl
theorem c5 (a b c d e:Int) (K:Fl→St→Prop):bE ⟨[(0,.fro [.int a,.int b,.int c,.int d,.int e])],[],0⟩ K=K .next (zd (.fro [.int a,.int b,.int c,.int d,.int e]) [ce a,ce b,ce c,ce d,ce e,.int 9] [ce a,ce b,ce c,ce d,ce e]):=by kernel_rfl
theorem c6 (a b c d e f:Int) (r:List V) (K:Fl→St→Prop):bE ⟨[(0,.fro (.int a::.int b::.int c::.int d::.int e::.int f::r))],[],0⟩ K=fits ((.int a::.int b::.int c::.int d::.int e::.int f::r:List V).length) (K .next (zd (.fro (.int a::.int b::.int c::.int d::.int e::.int f::r)) [ce a,ce b,ce c,ce d,ce e,ce f] [ce a,ce b,ce c,ce d,ce e,ce f])):=by kernel_rfl
theorem rk (i:Int):bg (Int.fmod i 1000000)=true:=by
 have h0:(0:Int)≤Int.fmod i 1000000:=Int.fmod_nonneg_of_pos _ (by omega)
 have h1:Int.fmod i 1000000<1000000:=Int.fmod_lt_of_pos _ (by omega)
 obtain ⟨k,hk⟩:=Int.eq_ofNat_of_zero_le h0
 rw [hk] at h1 ⊢
 show Nat.blt k 1000000000=true
 exact QQ (by omega)
theorem vD (is:List Int) (hl:is.length≤1000000) (K:Fl→St→Prop) (h:∀ (cs:List Int) (xs:List V),cs.length=6→(∀ c∈cs,bg c=true)→K .next (zd (.fro (is.map .int)) (cs.map .int) xs)):bE ⟨[(0,.fro (is.map .int))],[],0⟩ K:=by
 have sf:=rk
 have s9:bg 9=true:=rfl
 have s1:bg 1=true:=rfl
 have s16:bg 16=true:=rfl
 have s3:bg 3=true:=rfl
 have s17:bg 17=true:=rfl
 have s10:bg 10=true:=rfl
 match is,hl with
 | [],_=>
  show bE ⟨[(0,.fro [])],[],0⟩ K
  rw [c0]; exact h [9,1,16,3,17,10] [] rfl (by simp [*])
 | [a],_=>
  show bE ⟨[(0,.fro [.int a])],[],0⟩ K
  rw [c1]; exact h [Int.fmod a 1000000,9,1,16,3,17] _ rfl (by simp [*])
 | [a,b],_=>
  show bE ⟨[(0,.fro [.int a,.int b])],[],0⟩ K
  rw [c2]; exact h [Int.fmod a 1000000,Int.fmod b 1000000,9,1,16,3] _ rfl (by simp [*])
 | [a,b,c],_=>
  show bE ⟨[(0,.fro [.int a,.int b,.int c])],[],0⟩ K
  rw [c3]; exact h [Int.fmod a 1000000,Int.fmod b 1000000,Int.fmod c 1000000,9,1,16] _ rfl (by simp [*])
 | [a,b,c,d],_=>
  show bE ⟨[(0,.fro [.int a,.int b,.int c,.int d])],[],0⟩ K
  rw [c4]; exact h [Int.fmod a 1000000,Int.fmod b 1000000,Int.fmod c 1000000,Int.fmod d 1000000,9,1] _ rfl (by simp [*])
 | [a,b,c,d,e],_=>
  show bE ⟨[(0,.fro [.int a,.int b,.int c,.int d,.int e])],[],0⟩ K
  rw [c5]; exact h [Int.fmod a 1000000,Int.fmod b 1000000,Int.fmod c 1000000,Int.fmod d 1000000,Int.fmod e 1000000,9] _ rfl (by simp [*])
 | a::b::c::d::e::f::r,hl=>
  show bE ⟨[(0,.fro (.int a::.int b::.int c::.int d::.int e::.int f::r.map .int))],[],0⟩ K
  rw [c6]
  refine cK (by simpa using hl) ?_
  exact h [Int.fmod a 1000000,Int.fmod b 1000000,Int.fmod c 1000000,Int.fmod d 1000000,Int.fmod e 1000000,Int.fmod f 1000000] _ rfl (by simp [*])
theorem l7 {i:Nat} {σ:St} {v:V} {Q:V→St→Prop} (h:aj i σ.lo=some v) (q:Q v σ):fO i σ Q:=by unfold fO; rw [h]; exact q
theorem MP (sv:V) (cs:List Int) (xs:List V) (K:Fl→St→Prop) (hl:cs.length=6) (hs:∀ c∈cs,bg c=true)
  (h:∀ path,gu [] path→path.length=6→K .next (dm 3 (.fro (A5 path)) (dm 2 (.fro (KC path)) (zd sv (cs.map .int) xs)))):j8 (zd sv (cs.map .int) xs) K:=by
 unfold j8 kZ kf ja ib
 dsimp only
 refine l7 (v:=.fro (cs.map .int)) rfl ?_
 exact ⟨cs,rfl,rfl,hl,hs,fun path hv hp=>h path hv hp⟩
theorem AC (sv:V) (cs xs:List V) (K:Fl→St→Prop) (path:lA) (hv:gu [] path) (hp:path.length=6)
  (h:K .next (Pz sv (.fro (A5 path)) cs xs (KC path))):j9 (dm 3 (.fro (A5 path)) (dm 2 (.fro (KC path)) (zd sv cs xs))) K:=by
 unfold j9 k9 rF ja ib
 dsimp only
 refine l7 (v:=.fro (A5 path)) rfl ?_
 exact ⟨path,hv,hp,rfl,rfl,h⟩
noncomputable def mL:Prop:=∀ path,gu [] path→path.length=6→∀ (sv lv:V) (cs xs:List V) (P:V→Prop),ic (Pz sv lv cs xs (KC path)) (AT P)=P (.boo true)
theorem Fw (H:mL) (is:List Int) (hl:is.length≤1000000) (P:V→Prop) (hP:P (.boo true)):nu.1 ⟨[(0,.fro (is.map .int))],[],0⟩ (AT P):=by
 rw [wW]
 refine vD is hl _ fun cs xs hc hs=>?_
 refine MP _ cs xs _ hc hs fun path hv hp=>?_
 refine AC _ _ xs _ path hv hp ?_
 show ic _ _
 rw [H path hv hp]
 exact hP
theorem Fv (P:Params):nsIn (KK P) mainGlobals (Str.ofString "law")=some (some (.ref 449)):=by kernel_rfl
theorem Lv (i:Nat) (x:Str) (h:cO[i]?=some x):Op[i]?=some x:=by
 have hi:i<5:=by have:=(List.getElem?_eq_some_iff.mp h).1; rw [jz] at this; exact this
 match i,hi,h with
 | 0,_,h=>rw [← h]; rfl
 | 1,_,h=>rw [← h]; rfl
 | 2,_,h=>rw [← h]; rfl
 | 3,_,h=>rw [← h]; rfl
 | 4,_,h=>rw [← h]; rfl
theorem B9 (F F':Addr→Option Obj) (ps:Array Value) (h:∀ a o,F a=some o→Obj.loose o=false→F' a=some o) (t:Ke F ps):Ke F' ps:=by
 rcases t with e | ⟨c',o,vs,t,e,h1,h2,h3,h4⟩
 ·exact .inl e
 ·refine .inr ⟨c',o,vs,t,e,h _ _ h1 ?_,h2,h3,h4⟩
  unfold Obj.loose
  rw [h3]
  dsimp only
  rw [h2]
  decide
theorem Mj {w:World} {h:Heap} {mg mb:Str→Option Value} {os:OsState} {dr:Drawn} {gn:Array GenState→Prop} {hp:Addr→Option Obj} (KX:(KK w.params).In h) (hg:h.Ns mainGlobals mg) (hb:h.Ns builtinsNs mb) (hn:h.NoLimit) (hbt:∀ x:Str,x≠"__name__"→mb x=bootBuiltins x)
  (hm:∃ bm ob,mg "__builtins__"=some (.ref bm)∧bm≠builtinsNs∧h.get? bm=some ob∧ob.cls=.type "module"∧ob.dict=some builtinsNs∧ob.data=.plain) (hT:h.get? 123=some (tabObj #[])):(Gk ⟨w,h,mb,os,dr,gn,hp⟩).Ok:=by
 refine ⟨KX,by kernel_rfl,hn,(by decide:(123:Nat)≠cStatics),(by decide:(123:Nat)≠builtinsNs),(by decide:(123:Nat)≠mainGlobals),hb,?_,hbt,B9,au (by kernel_rfl),(by decide:Op.length≤1000),Lv,?_⟩
 ·obtain ⟨o,_,_,ho,_⟩:=hg; exact ⟨o,ho⟩
 ·apply bc;intro z_
  obtain ⟨bm,ob,h1,h2,h3,h4,h5,h6⟩:=hm
  apply z_;clear z_
  refine ⟨mg,hg,bm,ob,h1,h2,?_,?_,h3,h4,h5,h6⟩
  ·intro e
   apply bc;intro z_
   obtain ⟨o,es,ep,ho,hd,_⟩:=hg
   apply z_;clear z_
   rw [← e,h3] at ho; cases ho
   rw [h6] at hd; cases hd
  ·intro e
   rw [e] at h3
   have h3:h.get? 123=some ob:=h3
   rw [hT] at h3; cases h3; cases h6
theorem wK {X:Wd}:∀ {vals:List Value} {is:List Int},IntsAre vals is→RepVs X 0 (is.map V.int) vals:=by
 intro vals is h
 induction h with
 | nil=>exact .nil
 | cons=>exact .cons (.int _ _) (by assumption)
theorem AU (H:mL) {w:World} {s1:Shared} {mg mb:Str→Option Value} {is:List Int} {a:Addr} {vals:List Value} {R':Result→Shared→Prop} (KX:(KK w.params).In s1.heap) (hg:s1.heap.Ns mainGlobals mg) (hb:s1.heap.Ns builtinsNs mb) (hn:s1.heap.NoLimit) (hbt:∀ x:Str,x≠"__name__"→mb x=bootBuiltins x)
  (hm:∃ bm ob,mg "__builtins__"=some (.ref bm)∧bm≠builtinsNs∧s1.heap.get? bm=some ob∧ob.cls=.type "module"∧ob.dict=some builtinsNs∧ob.data=.plain) (hT:s1.heap.get? 123=some (tabObj #[])) (hgs:s1.gens=#[])
  (ha:s1.heap.get? a=some {cls:=.type "list",data:=.seq vals.toArray}) (hi:IntsAre vals is) (hl:is.length≤63)
  (k:∀ s',OldK s1.heap s'.heap→s'.os=s1.os→AllBare s'.gens→R' (.ok (.ret (.bool true))) s'):codeAny (model mt w) callerA (.call (.ref 449) ⟨[.ref a],[]⟩) R' s1:=by
 have ok:=Mj (os:=s1.os) (dr:=s1.drawn) (gn:=AllBare) (hp:=fun _=>none) KX hg hb hn hbt hm hT
 have ba:Bare ⟨w,s1.heap,mb,s1.os,s1.drawn,AllBare,fun _=>none⟩:=⟨rfl⟩
 refine Dx (sc:=cz) (lv:=6) (db:=nu.1) (x:=Str.ofString "script") (v:=.fro (is.map .int)) (Qf:=AT (·=.boo true)) ok (GZ _) rfl (nu.2 _ ok ba) rfl hT (.inl rfl) rfl rfl (by show AllBare s1.gens; rw [hgs]; exact fun x h=>by simp at h) rfl ⟨rfl,by decide,by decide⟩ ?_ ?_ (Fw H is (by omega) _ rfl) fun fl rv s' σ' X' env' q L R W=>?_
 ·refine .fro _ vals a {cls:=.type "list",data:=.seq vals.toArray} ?_ ⟨rfl,rfl,⟨_,rfl⟩,rfl⟩ (wK hi)
  show (if a=123 then none else s1.heap.get? a)=_
  rw [QH]; exact ha
  intro e
  rw [e] at ha
  rw [hT] at ha; cases ha
 ·exact Looks.of_peek (K:=KK w.params) KX (by kernel_rfl)
 ·have q:mx fl=.boo true:=q
  rw [q] at W
  cases (W.inv:_=Value.bool true)
  refine k s' ⟨fun b o e=>?_,fun b o e=>?_⟩ R.os R.gens
  ·by_cases hb':b=123
   ·subst hb'
    have e:s1.heap.get? 123=some o:=e
    rw [hT] at e; cases e
    apply bc;intro z_
    obtain ⟨oc,vs,_,_,_,_,_,_,_,h1,h2,h3,h4,_⟩:=(wU ⟨w,s1.heap,mb,s1.os,s1.drawn,AllBare,fun _=>none⟩).hC s1.heap KX
    apply z_;clear z_
    refine .inr (.inl ⟨⟨125,oc,vs,h1,h2,h3,h4⟩,rfl,#[],X'.tb,rfl,?_⟩)
    rw [Array.empty_append]
    exact R.tab.1
   ·exact .inl (R.sub _ _ (L.F _ _ (by show (if b=123 then none else s1.heap.get? b)=some o; rw [QH hb']; exact e)))
  ·by_cases hb':b=123
   ·subst hb'; exact ⟨_,R.tab.1⟩
   ·exact ⟨o,R.sub _ _ (L.F _ _ (by show (if b=123 then none else s1.heap.get? b)=some o; rw [QH hb']; exact e))⟩
theorem N3:PySem.Challenge.rw_tp0065_02.row.toRowW.promised:=by w_witness2
set_option tactic.hygienic true in
theorem law_holds (H:mL):PySem.Challenge.rw_tp0065_02.Holds:=by
 refine holds_law Px fun sd=>?_
 refine holds_open (q:=vw) (loose:=KE) (Xt:=XT) (XP:=XL vw []) (Yf:=Hook.obs HK) (Ya:=Hook.val HK) (YP:=Hook.says HK) (N:=5710) PM (Hook.of HK) (Hook.keeps HK) (fun s e=>xl_of s (Bool.and_eq_true_iff.mp e).1) XL.keeps (by rfl) (by rfl) (by rfl) (fun s e=>recFacts_of (Bool.and_eq_true_iff.mp e).2) (by rfl) sd (by decide +kernel) ⟨rfl,rfl,rfl,rfl,rfl,by decide +kernel⟩ N3 ?_
 intro w s0 s1 mg mb G Y fa o pm cd doc dV kV ho hd hcd hD hmg hg args vals as hpre hlay hrd hwl hlo
 have hf:mg (Str.ofString "law")=some (.ref fa):=hmg
 clear ho hd hcd hD hmg
 have KX:=km_in_of Y
 have TX:=km_tabs_of Y 123 (by simp)
 have T:=G.T
 clear Y G
 have ef:fa=449:=by
  have:=mg_of KX T.g (Fv w.params)
  rw [hf] at this; cases this; rfl
 subst ef
 wrow_args hpre hlay hrd hwl hlo
 all_goals (
  rename_i is _ _ _ _ _ _ _ a vs _ hL ra w1 r0 hI _ hc _
  refine wpAny_call (codeAny_mono (AU H (is:=is) (a:=a) (vals:=vs) (R':=fun r s'=>r=.ok (.ret (.bool true))∧OldK s1.heap s'.heap∧s'.os=s1.os∧AllBare s'.gens) KX T.g T.b T.nolimit T.builtins T.bmain TX hg ?_ hI (by omega) fun s' h1 h2 h3=>⟨rfl,h1,h2,h3⟩) fun r s' ⟨e,h1,h2,h3⟩=>?_)
  ·apply bc;intro z_
   obtain ⟨o',ho',_,ep,hd'⟩:=hL
   apply z_;clear z_
   cases w1
   rename_i vs2 h2 _
   rw [h2] at ho'
   cases ho'
   cases hd'
   exact h2
  ·subst e
   exact ⟨.inl ⟨_,.bool true,[],rfl,fun _=>rfl,.bool true,(by wrow_post),fun _=>⟨.nil,fun _ h=>nomatch h⟩⟩,h1,h2,h3⟩)
noncomputable abbrev PZ:=V→V→List V→List V→(V→Prop)→Prop
noncomputable def eM (ds:List Nat):PZ:=fun sv lv cs xs P=>ic (Pz sv lv cs xs (ds.map vI)) (AT P)
noncomputable def eN (ds:List Nat):PZ:=fun sv lv cs xs P=>P (.boo true)
noncomputable def zA:Nat→List Nat
 | 0=>[0]
 | n+1=>zA n++[n+1]
noncomputable def bO (p:List Nat) (d:Nat):List (List Nat):=(zA d).map fun i=>p++[i+1]
theorem kJ:∀ {n i:Nat},i≤n→i∈zA n
 | 0,i,h=>by rw [Nat.le_zero.mp h]; exact List.mem_singleton.mpr rfl
 | n+1,i,h=>by
  show i∈zA n++[n+1]
  rcases Nat.le_succ_iff.mp h with h | h
  ·exact QV _ (kJ h)
  ·exact QW _ (List.mem_singleton.mpr h)
theorem A7 {p:List Nat} {d i:Nat} (h:i≤d):p++[i+1]∈bO p d:=List.mem_map.mpr ⟨i,kJ h,rfl⟩
theorem yj:aG eM (bO [0,1,1,1,1,1] 1)=aP eN (bO [0,1,1,1,1,1] 1):=by kernel_rfl
theorem yk:aG eM (bO [0,1,1,1,1,2] 2)=aP eN (bO [0,1,1,1,1,2] 2):=by kernel_rfl
theorem yl:aG eM (bO [0,1,1,1,2,1] 1)=aP eN (bO [0,1,1,1,2,1] 1):=by kernel_rfl
theorem ym:aG eM (bO [0,1,1,1,2,2] 2)=aP eN (bO [0,1,1,1,2,2] 2):=by kernel_rfl
theorem yn:aG eM (bO [0,1,1,1,2,3] 3)=aP eN (bO [0,1,1,1,2,3] 3):=by kernel_rfl
theorem yp:aG eM (bO [0,1,1,2,1,1] 1)=aP eN (bO [0,1,1,2,1,1] 1):=by kernel_rfl
theorem yq:aG eM (bO [0,1,1,2,1,2] 2)=aP eN (bO [0,1,1,2,1,2] 2):=by kernel_rfl
theorem yr:aG eM (bO [0,1,1,2,2,1] 1)=aP eN (bO [0,1,1,2,2,1] 1):=by kernel_rfl
theorem yt:aG eM (bO [0,1,1,2,2,2] 2)=aP eN (bO [0,1,1,2,2,2] 2):=by kernel_rfl
theorem yu:aG eM (bO [0,1,1,2,2,3] 3)=aP eN (bO [0,1,1,2,2,3] 3):=by kernel_rfl
theorem yv:aG eM (bO [0,1,1,2,3,1] 1)=aP eN (bO [0,1,1,2,3,1] 1):=by kernel_rfl
theorem yw:aG eM (bO [0,1,1,2,3,2] 2)=aP eN (bO [0,1,1,2,3,2] 2):=by kernel_rfl
theorem yx:aG eM (bO [0,1,1,2,3,3] 3)=aP eN (bO [0,1,1,2,3,3] 3):=by kernel_rfl
theorem yy:aG eM (bO [0,1,1,2,3,4] 4)=aP eN (bO [0,1,1,2,3,4] 4):=by kernel_rfl
theorem yz:aG eM (bO [0,1,2,1,1,1] 1)=aP eN (bO [0,1,2,1,1,1] 1):=by kernel_rfl
theorem yA:aG eM (bO [0,1,2,1,1,2] 2)=aP eN (bO [0,1,2,1,1,2] 2):=by kernel_rfl
theorem yB:aG eM (bO [0,1,2,1,2,1] 1)=aP eN (bO [0,1,2,1,2,1] 1):=by kernel_rfl
theorem yC:aG eM (bO [0,1,2,1,2,2] 2)=aP eN (bO [0,1,2,1,2,2] 2):=by kernel_rfl
theorem yD:aG eM (bO [0,1,2,1,2,3] 3)=aP eN (bO [0,1,2,1,2,3] 3):=by kernel_rfl
theorem yE:aG eM (bO [0,1,2,2,1,1] 1)=aP eN (bO [0,1,2,2,1,1] 1):=by kernel_rfl
theorem yF:aG eM (bO [0,1,2,2,1,2] 2)=aP eN (bO [0,1,2,2,1,2] 2):=by kernel_rfl
theorem yG:aG eM (bO [0,1,2,2,2,1] 1)=aP eN (bO [0,1,2,2,2,1] 1):=by kernel_rfl
theorem yH:aG eM (bO [0,1,2,2,2,2] 2)=aP eN (bO [0,1,2,2,2,2] 2):=by kernel_rfl
theorem yI:aG eM (bO [0,1,2,2,2,3] 3)=aP eN (bO [0,1,2,2,2,3] 3):=by kernel_rfl
theorem yJ:aG eM (bO [0,1,2,2,3,1] 1)=aP eN (bO [0,1,2,2,3,1] 1):=by kernel_rfl
theorem yK:aG eM (bO [0,1,2,2,3,2] 2)=aP eN (bO [0,1,2,2,3,2] 2):=by kernel_rfl
theorem yL:aG eM (bO [0,1,2,2,3,3] 3)=aP eN (bO [0,1,2,2,3,3] 3):=by kernel_rfl
theorem yM:aG eM (bO [0,1,2,2,3,4] 4)=aP eN (bO [0,1,2,2,3,4] 4):=by kernel_rfl
theorem yN:aG eM (bO [0,1,2,3,1,1] 1)=aP eN (bO [0,1,2,3,1,1] 1):=by kernel_rfl
theorem yO:aG eM (bO [0,1,2,3,1,2] 2)=aP eN (bO [0,1,2,3,1,2] 2):=by kernel_rfl
theorem yP:aG eM (bO [0,1,2,3,2,1] 1)=aP eN (bO [0,1,2,3,2,1] 1):=by kernel_rfl
theorem yQ:aG eM (bO [0,1,2,3,2,2] 2)=aP eN (bO [0,1,2,3,2,2] 2):=by kernel_rfl
theorem yR:aG eM (bO [0,1,2,3,2,3] 3)=aP eN (bO [0,1,2,3,2,3] 3):=by kernel_rfl
theorem yS:aG eM (bO [0,1,2,3,3,1] 1)=aP eN (bO [0,1,2,3,3,1] 1):=by kernel_rfl
theorem yT:aG eM (bO [0,1,2,3,3,2] 2)=aP eN (bO [0,1,2,3,3,2] 2):=by kernel_rfl
theorem yU:aG eM (bO [0,1,2,3,3,3] 3)=aP eN (bO [0,1,2,3,3,3] 3):=by kernel_rfl
theorem yV:aG eM (bO [0,1,2,3,3,4] 4)=aP eN (bO [0,1,2,3,3,4] 4):=by kernel_rfl
theorem yW:aG eM (bO [0,1,2,3,4,1] 1)=aP eN (bO [0,1,2,3,4,1] 1):=by kernel_rfl
theorem yX:aG eM (bO [0,1,2,3,4,2] 2)=aP eN (bO [0,1,2,3,4,2] 2):=by kernel_rfl
theorem yY:aG eM (bO [0,1,2,3,4,3] 3)=aP eN (bO [0,1,2,3,4,3] 3):=by kernel_rfl
theorem yZ:aG eM (bO [0,1,2,3,4,4] 4)=aP eN (bO [0,1,2,3,4,4] 4):=by kernel_rfl
theorem y0:aG eM (bO [0,1,2,3,4,5] 5)=aP eN (bO [0,1,2,3,4,5] 5):=by kernel_rfl
noncomputable def KD (l:List (List Nat×Nat)):List (List Nat×Nat):=l.flatMap fun p=>(zA p.2).map fun i=>(p.1++[i+1],i+1)
theorem iQ {l:List (List Nat×Nat)} {p:List Nat} {d i:Nat} (h:(p,d)∈l) (hi:i≤d):(p++[i+1],i+1)∈KD l:=List.mem_flatMap.mpr ⟨_,h,List.mem_map.mpr ⟨i,kJ hi,rfl⟩⟩
theorem J5:∀ p∈KD (KD (KD (KD (KD [([0],0)])))),aG eM (bO p.1 p.2)=aP eN (bO p.1 p.2):=by
 show ∀ p∈[([0,1,1,1,1,1],1),([0,1,1,1,1,2],2),([0,1,1,1,2,1],1),([0,1,1,1,2,2],2),([0,1,1,1,2,3],3),([0,1,1,2,1,1],1),([0,1,1,2,1,2],2),([0,1,1,2,2,1],1),([0,1,1,2,2,2],2),([0,1,1,2,2,3],3),([0,1,1,2,3,1],1),([0,1,1,2,3,2],2),([0,1,1,2,3,3],3),([0,1,1,2,3,4],4),([0,1,2,1,1,1],1),([0,1,2,1,1,2],2),([0,1,2,1,2,1],1),([0,1,2,1,2,2],2),([0,1,2,1,2,3],3),([0,1,2,2,1,1],1),([0,1,2,2,1,2],2),([0,1,2,2,2,1],1),([0,1,2,2,2,2],2),([0,1,2,2,2,3],3),([0,1,2,2,3,1],1),([0,1,2,2,3,2],2),([0,1,2,2,3,3],3),([0,1,2,2,3,4],4),([0,1,2,3,1,1],1),([0,1,2,3,1,2],2),([0,1,2,3,2,1],1),([0,1,2,3,2,2],2),([0,1,2,3,2,3],3),([0,1,2,3,3,1],1),([0,1,2,3,3,2],2),([0,1,2,3,3,3],3),([0,1,2,3,3,4],4),([0,1,2,3,4,1],1),([0,1,2,3,4,2],2),([0,1,2,3,4,3],3),([0,1,2,3,4,4],4),([0,1,2,3,4,5],5)],aG eM (bO p.1 p.2)=aP eN (bO p.1 p.2)
 exact List.forall_mem_cons.mpr ⟨yj,List.forall_mem_cons.mpr ⟨yk,List.forall_mem_cons.mpr ⟨yl,List.forall_mem_cons.mpr ⟨ym,List.forall_mem_cons.mpr ⟨yn,List.forall_mem_cons.mpr ⟨yp,List.forall_mem_cons.mpr ⟨yq,List.forall_mem_cons.mpr ⟨yr,List.forall_mem_cons.mpr ⟨yt,List.forall_mem_cons.mpr ⟨yu,List.forall_mem_cons.mpr ⟨yv,List.forall_mem_cons.mpr ⟨yw,List.forall_mem_cons.mpr ⟨yx,List.forall_mem_cons.mpr ⟨yy,List.forall_mem_cons.mpr ⟨yz,List.forall_mem_cons.mpr ⟨yA,List.forall_mem_cons.mpr ⟨yB,List.forall_mem_cons.mpr ⟨yC,List.forall_mem_cons.mpr ⟨yD,List.forall_mem_cons.mpr ⟨yE,List.forall_mem_cons.mpr ⟨yF,List.forall_mem_cons.mpr ⟨yG,List.forall_mem_cons.mpr ⟨yH,List.forall_mem_cons.mpr ⟨yI,List.forall_mem_cons.mpr ⟨yJ,List.forall_mem_cons.mpr ⟨yK,List.forall_mem_cons.mpr ⟨yL,List.forall_mem_cons.mpr ⟨yM,List.forall_mem_cons.mpr ⟨yN,List.forall_mem_cons.mpr ⟨yO,List.forall_mem_cons.mpr ⟨yP,List.forall_mem_cons.mpr ⟨yQ,List.forall_mem_cons.mpr ⟨yR,List.forall_mem_cons.mpr ⟨yS,List.forall_mem_cons.mpr ⟨yT,List.forall_mem_cons.mpr ⟨yU,List.forall_mem_cons.mpr ⟨yV,List.forall_mem_cons.mpr ⟨yW,List.forall_mem_cons.mpr ⟨yX,List.forall_mem_cons.mpr ⟨yY,List.forall_mem_cons.mpr ⟨yZ,List.forall_mem_cons.mpr ⟨y0,fun _ h=>nomatch h⟩⟩⟩⟩⟩⟩⟩⟩⟩⟩⟩⟩⟩⟩⟩⟩⟩⟩⟩⟩⟩⟩⟩⟩⟩⟩⟩⟩⟩⟩⟩⟩⟩⟩⟩⟩⟩⟩⟩⟩⟩⟩
theorem J4 {a b c d e f:Nat} (h1:a≤0) (h2:b≤a+1) (h3:c≤b+1) (h4:d≤c+1) (h5:e≤d+1) (h6:f≤e+1):eM [0,a+1,b+1,c+1,d+1,e+1,f+1]=eN [0,a+1,b+1,c+1,d+1,e+1,f+1]:=
 aV (J5 ([0,a+1,b+1,c+1,d+1,e+1],e+1) (iQ (iQ (iQ (iQ (iQ (List.mem_singleton_self _) h1) h2) h3) h4) h5)) _ (A7 (p:=[0,a+1,b+1,c+1,d+1,e+1]) h6)
theorem fj {α:Type} {l:List α} {n:Nat} (h:l.length=n+1):∃ a r,l=a::r∧r.length=n:=by
 cases l with
 | nil=>cases h
 | cons a r=>exact ⟨a,r,rfl,Nat.succ.inj h⟩
theorem rest_ok:mL:=by
 intro path hv hp sv lv cs xs P
 obtain ⟨⟨a,k1⟩,_,rfl,p0⟩:=fj hp
 obtain ⟨⟨b,k2⟩,_,rfl,p1⟩:=fj p0
 obtain ⟨⟨c,k3⟩,_,rfl,p2⟩:=fj p1
 obtain ⟨⟨d,k4⟩,_,rfl,p3⟩:=fj p2
 obtain ⟨⟨e,k5⟩,_,rfl,p4⟩:=fj p3
 obtain ⟨⟨f,k6⟩,_,rfl,p5⟩:=fj p4
 cases List.length_eq_zero_iff.mp p5
 obtain ⟨h1,_,h2,_,h3,_,h4,_,h5,_,h6,_,_⟩:=hv
 have e1:=cI (b:=[]) (k:=k1) h1
 have e2:=cI (k:=k2) h2
 have e3:=cI (k:=k3) h3
 have e4:=cI (k:=k4) h4
 have e5:=cI (k:=k5) h5
 rw [e1] at h2
 rw [e2] at h3
 rw [e3] at h4
 rw [e4] at h5
 rw [e5] at h6
 exact Q9 (Q9 (Q9 (Q9 (Q9 (J4 h1 h2 h3 h4 h5 h6) sv) lv) cs) xs) P
end
end Mine
theorem PySem.Challenge.cw_tp0065_02_holds : PySem.Challenge.rw_tp0065_02.Holds :=
  Mine.law_holds Mine.rest_ok
