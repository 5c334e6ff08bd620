import PyProof.Rows.All
import PyProof.GenComp
import KE.KUnpack
import KE.KAssignIn
import KE.KLam
import KE.KDictList
import KE.KSortKey
import KE.KNestM
import KE.KRevIter
import KE.KSetDisp
import KE.KxDecode
import Wide.FinOn
import OpenK.AllK
import Wide.All
import Lean
import PySem.Challenge.RW_tp0065_01
set_option Elab.async false
set_option linter.all false
set_option tactic.hygienic false
set_option genInjectivity false
set_option genSizeOf false
set_option bootstrap.genMatcherCode false
set_option autoImplicit false
set_option maxRecDepth 100000
set_option maxHeartbeats 8000000
open PySem PySem.W PyProof.Rows PySem.Calls
namespace Mine
noncomputable section
noncomputable abbrev LD:=@wpAny_bind
noncomputable abbrev LE:=@wpAny_pure
noncomputable abbrev LF:=@wpAny_mono
noncomputable abbrev LG:=@wpAny_holding
noncomputable abbrev LH:=@wpAny_standAt
noncomputable abbrev LI:=@wpAny_of_eq
noncomputable abbrev LJ:=@wpAny_call_entry
noncomputable abbrev LK:=@wpAny_load
noncomputable abbrev LM:=@Heap.get?_push_of_some
noncomputable abbrev LN:=@Nat.le_trans
noncomputable abbrev LP:=@Nat.le_of_ble_eq_true
noncomputable abbrev LQ:=@List.mem_cons_of_mem
noncomputable abbrev LR:=@Nat.le_refl
noncomputable abbrev LT:=@Heap.get?_push_size
noncomputable abbrev LU:=@if_neg
noncomputable abbrev LV:=@if_pos
noncomputable abbrev LW:=@List.size_toArray
noncomputable abbrev LX:=@Nat.lt_succ_self
noncomputable abbrev LY:=@List.mem_cons_self
noncomputable abbrev LZ:=@Bool.false_ne_true
noncomputable abbrev L6:=@sizeLine_eq
noncomputable abbrev L7:=@Heap.lt_size
noncomputable abbrev L8:=@Nat.eq_of_beq_eq_true
noncomputable abbrev L9:=@Nat.ble_eq_true_of_le
noncomputable abbrev Ma:=@decide_eq_false
noncomputable abbrev Mb:=@decide_eq_true
noncomputable abbrev Mc:=@Nat.not_lt_of_le
noncomputable abbrev Md:=@builtinType_eq_fast
noncomputable abbrev Me:=@List.mem_append_left
noncomputable abbrev Mf:=@List.mem_append_right
noncomputable abbrev Mg:=@Heap.get?_update_other
noncomputable abbrev Mh:=@List.mem_of_getElem?
noncomputable abbrev Mi:=@Nat.lt_of_lt_of_le
noncomputable abbrev Mj:=@Nat.le_succ
noncomputable abbrev Ml:=@codeAny_builtin
noncomputable abbrev Mm:=@Nat.zero_le
noncomputable abbrev Mn:=@Nat.lt_succ_of_lt
noncomputable abbrev Mr:=@Nat.ne_of_gt
noncomputable abbrev Ms:=@Nat.ne_of_lt
noncomputable abbrev Mt:=@congrFun
noncomputable abbrev Mu:=@wpAny_rule
noncomputable abbrev Mv:=@Nat.lt_of_le_of_lt
noncomputable abbrev Mx:=@of_decide_eq_true
noncomputable abbrev My:=@List.getElem?_toArray
noncomputable abbrev pw:Program:=PySem.Challenge.pw_tp0065_01
noncomputable def af (b:List PySem.Stmt) (k:Nat):PySem.Stmt:=match b[k]? with
 | some s=>s
 | none=>.Pass default
noncomputable def eY (s:PySem.Stmt):List PySem.Stmt:=match s with
 | .ClassDef _ _ _ b _ _ _ _ _ _ _=>b
 | _=>[]
noncomputable def cI (x:String):Str:=Str.ofString x
noncomputable def bu (P:Params) (x:String) (t:Nat) (v:Value):DictEntry:=⟨PyData.keyHash P (Str.ofString x),.str (Str.ofString x) t,v⟩
noncomputable def dB (s:PySem.Stmt) (q:Str) (gl:Addr) (df kd doc pm:Value) (an:Option Addr) (cd ct:Value) (bi:Addr):FuncData:=match s with
 | .FunctionDef nm ps b _ _ _ sc _ _ _=>⟨nm,q,ps,.stmts b,sc,gl,[],df,kd,doc,pm,an,cd,ct,bi⟩
 | _=>default
noncomputable def Ls (e:PySem.Expr):List (Option PySem.Expr)×Str:=match e with
 | .Dict ks _ _=>(ks,Str.empty)
 | .Constant (.str x) _ _=>([],x)
 | _=>([],Str.empty)
noncomputable def Lr (i:Nat):Str:=match af (pw.main.body) 14 with
 | .Assign _ d _=>(match (Ls d).1[i]? with
  | some (some e)=>(Ls e).2
  | _=>Str.empty)
 | _=>Str.empty
noncomputable def GP (P:Params) (i t:Nat) (v:Value):DictEntry:=⟨PyData.keyHash P (Lr i),.str (Lr i) t,v⟩
noncomputable def dC (k:Nat):PySem.Stmt:=af pw.main.body k
noncomputable def ai (x:String) (t:Nat):Value:=.str (cI x) t
noncomputable def ah (i:Int) (t:Nat):Value:=.int i t
noncomputable def aT (a:Nat) (n:Nat) (l:List Value):Addr×Obj:=(a,{cls:=.type "tuple",data:=.seq l.toArray n})
noncomputable def dz (a:Nat) (l:List Value):Addr×Obj:=(a,{cls:=.type "code",data:=.fields l.toArray})
noncomputable def dA (a:Nat) (f:FuncData):Addr×Obj:=(a,{cls:=.type "function",data:=.func f})
noncomputable def KH (P:Params):Frag:=[
(2,⟨.none,none,(.dict [bu P "\x69mport.loaded._sre" 183 (.bool true),bu P "class._frozen_importlib.BuiltinImporter" 185 (.ref 14),bu P "watched.\x69mport" 206 (.ref 18),bu P "class._frozen_importlib.ModuleSpec" 216 (.ref 22),bu P "sys.modules.booked-epoch" 245 (ah 3 0),bu P "\x69mport.later-laid._sre" 270 (.bool true),bu P "watched.library" 272 (.ref 27),bu P "watched.library-objects" 0 (ai "\x0c" 0),bu P "watched.library-deep._sre" 273 (ai "\x04\x00\x00\x0b\x04\x00\x00\x0b\x04\x00\x00\x03\x04\x00\x00\x0b\x08\x04dict\x02" 0)].toArray 9),#[]⟩),
(3,⟨(.type "dict"),none,(.dict [bu P "__name__" 165 (ai "law_tp0065_01" 916),bu P "__doc__" 166 .none,bu P "__package__" 167 .none,bu P "__loader__" 168 (.builtin "__main__.__loader__#opaque"),bu P "__spec__" 169 .none,bu P "__annotations__" 170 (.ref 6),bu P "__builtins__" 171 (.ref 4),bu P "__file__" 173 (ai "/claim/cut.py" 172),bu P "__cached__" 174 .none,bu P "_sre" 275 (.ref 12),bu P "_wall" 288 (.ref 38),bu P "tspecials" 324 (.ref 43),bu P "_name_disallowed_re" 350 (.ref 48),bu P "_value_disallowed_re" 384 (.ref 53),bu P "_formatparam" 394 (.ref 61),bu P "Headers" 551 (.ref 182),bu P "Int2AP" 563 (.ref 193),bu P "Whitespace" 665 (.ref 255),bu P "_twin_re_1" 705 (.ref 264),bu P "_namespace_map" 727 (.ref 265),bu P "_raise_serialization_error" 734 (.ref 272),bu P "_looks_like_prefix_name" 736 (.ref 273),bu P "C14NWriterTarget" 901 (.ref 371),bu P "_escape_cdata_c14n" 908 (.ref 382),bu P "_escape_attrib_c14n" 915 (.ref 389),bu P "_law_word" 924 (.ref 396),bu P "_law_page" 937 (.ref 403),bu P "_law_found" 948 (.ref 410),bu P "_law_calls" 959 (.ref 417),bu P "_law_written" 970 (.ref 424),bu P "_law_heights" 981 (.ref 431),bu P "_law_bounces" 992 (.ref 438),bu P "_law_back" 1006 (.ref 445),bu P "law" 1012 (.ref 450)].toArray 34),#[]⟩),
aT 32 0 [],
aT 34 0 [ai "k" 285],
aT 35 0 [],
dz 37 [ai "_wall" 282,ai "_wall" 283,ai "/claim/cut.py" 284,ah 2 0,ah 1 0,ah 0 0,ah 0 0,ah 3 0,.ref 32,.bool true,ah 276 0,.ref 33,.none,.ref 34,.ref 35,.ref 36,ah 286 0,ah 2 0,ai "/claim/cut.py" 287],
dA 38 (dB (dC 1) (cI "_wall") 3 .none .none .none (ai "__main__" 164) none (.ref 37) .none 0),
aT 42 0 [ah 14 0,ah 14 0,ah 4 0,ah 1 0,ah 1 0,ah 9 0,ah 0 0,ah 4227896069 0,ah 939524097 0,ah 0 0,ah 0 0,ah 0 0,ah 0 0,ah 0 0,ah 0 0,ah 13 0,ah 11 0,ah 9 0,ah 0 0,ah 4227896069 0,ah 939524097 0,ah 0 0,ah 0 0,ah 0 0,ah 0 0,ah 0 0,ah 0 0,ah 1 0],
(43,⟨(.type "re.Pattern"),none,(.fields [(ai "[ \\(\\)<>@,;:\\\\\"/\\[\\]\\?=]" 292),ah 32 323,ah 0 0,.none,.none,.ref 42,ah 0 0].toArray),#[]⟩),
aT 47 0 [ah 14 0,ah 10 0,ah 4 0,ah 1 0,ah 1 0,ah 22 0,ah 0 0,ah 31 0,ah 16 0,ah 127 0,ah 0 0,ah 13 0,ah 7 0,ah 22 0,ah 0 0,ah 31 0,ah 16 0,ah 127 0,ah 0 0,ah 1 0],
(48,⟨(.type "re.Pattern"),none,(.fields [ai "[\\x00-\\x1F\\x7F]" 326,ah 32 349,ah 0 0,.none,.none,.ref 47,ah 0 0].toArray),#[]⟩),
aT 52 0 [ah 14 0,ah 14 0,ah 4 0,ah 1 0,ah 1 0,ah 9 0,ah 4294966783 0,ah 0 0,ah 0 0,ah 2147483648 0,ah 0 0,ah 0 0,ah 0 0,ah 0 0,ah 0 0,ah 13 0,ah 11 0,ah 9 0,ah 4294966783 0,ah 0 0,ah 0 0,ah 2147483648 0,ah 0 0,ah 0 0,ah 0 0,ah 0 0,ah 0 0,ah 1 0],
(53,⟨(.type "re.Pattern"),none,(.fields [ai "[\\x00-\\x08\\x0A-\\x1F\\x7F]" 352,ah 32 383,ah 0 0,.none,.none,.ref 52,ah 0 0].toArray),#[]⟩),
aT 54 0 [.none,ah 1 385],
aT 55 0 [],
aT 57 0 [ai "param" 389,ai "value" 390,ai "quote" 391],
aT 58 0 [],
dz 60 [ai "_formatparam" 386,ai "_formatparam" 387,ai "/claim/cut.py" 388,ah 9 0,ah 3 0,ah 0 0,ah 0 0,ah 3 0,.ref 55,.bool true,ah 276 0,.ref 56,.none,.ref 57,.ref 58,.ref 59,ah 392 0,ah 9 0,ai "/claim/cut.py" 393],
dA 61 (dB (dC 6) (cI "_formatparam") 3 (.ref 54) .none .none (ai "cpy313.wsgiref.headers" 289) none (.ref 60) .none 0),
aT 69 0 [.none],
aT 70 0 [],
aT 72 0 [ai "self" 410,ai "headers" 411,ai "k" 412,ai "v" 413],
aT 73 0 [],
dz 75 [ai "__init__" 407,ai "Headers.__init__" 408,ai "/claim/cut.py" 409,ah 20 0,ah 2 0,ah 0 0,ah 0 0,ah 3 0,.ref 70,.bool true,ah 276 0,.ref 71,.none,.ref 72,.ref 73,.ref 74,ah 414 0,ah 20 0,ai "/claim/cut.py" 415],
dA 76 (dB (af (eY (dC 7)) 0) (cI "Headers.__init__") 3 (.ref 69) .none .none (ai "cpy313.wsgiref.headers" 289) none (.ref 75) .none 0),
aT 77 0 [],
aT 79 0 [ai "self" 420,ai "value" 421,ai "name" 422,ai "regex" 423],
aT 80 0 [],
dz 82 [ai "_convert_string_type" 417,ai "Headers._convert_string_type" 418,ai "/claim/cut.py" 419,ah 30 0,ah 2 0,ah 0 0,ah 1 0,ah 3 0,.ref 77,.bool true,ah 276 0,.ref 78,.none,.ref 79,.ref 80,.ref 81,ah 424 0,ah 30 0,ai "/claim/cut.py" 425],
dA 83 (dB (af (eY (dC 7)) 1) (cI "Headers._convert_string_type") 3 .none .none .none (ai "cpy313.wsgiref.headers" 289) none (.ref 82) .none 0),
aT 84 0 [],
aT 86 0 [ai "self" 430],
aT 87 0 [],
dz 89 [ai "__len__" 427,ai "Headers.__len__" 428,ai "/claim/cut.py" 429,ah 38 0,ah 1 0,ah 0 0,ah 0 0,ah 3 0,.ref 84,.bool true,ah 276 0,.ref 85,.none,.ref 86,.ref 87,.ref 88,ah 431 0,ah 38 0,ai "/claim/cut.py" 432],
dA 90 (dB (af (eY (dC 7)) 2) (cI "Headers.__len__") 3 .none .none .none (ai "cpy313.wsgiref.headers" 289) none (.ref 89) .none 0),
aT 91 0 [],
aT 93 0 [ai "self" 437,ai "name" 438,ai "val" 439],
aT 94 0 [],
dz 96 [ai "__setitem__" 434,ai "Headers.__setitem__" 435,ai "/claim/cut.py" 436,ah 41 0,ah 3 0,ah 0 0,ah 0 0,ah 3 0,.ref 91,.bool true,ah 276 0,.ref 92,.none,.ref 93,.ref 94,.ref 95,ah 440 0,ah 41 0,ai "/claim/cut.py" 441],
dA 97 (dB (af (eY (dC 7)) 3) (cI "Headers.__setitem__") 3 .none .none .none (ai "cpy313.wsgiref.headers" 289) none (.ref 96) .none 0),
aT 98 0 [],
dz 101 [ai "__delitem__" 443,ai "Headers.__delitem__" 444,ai "/claim/cut.py" 445,ah 45 0,ah 2 0,ah 0 0,ah 0 0,ah 3 0,.ref 98,.bool true,ah 276 0,.ref 99,.none,.none,.none,.ref 100,ah 446 0,ah 45 0,ai "/claim/cut.py" 447],
dA 102 (dB (af (eY (dC 7)) 4) (cI "Headers.__delitem__") 3 .none .none .none (ai "cpy313.wsgiref.headers" 289) none (.ref 101) .none 0),
aT 103 0 [],
aT 105 0 [ai "self" 452,ai "name" 453],
aT 106 0 [],
dz 108 [ai "__getitem__" 449,ai "Headers.__getitem__" 450,ai "/claim/cut.py" 451,ah 49 0,ah 2 0,ah 0 0,ah 0 0,ah 3 0,.ref 103,.bool true,ah 276 0,.ref 104,.none,.ref 105,.ref 106,.ref 107,ah 454 0,ah 49 0,ai "/claim/cut.py" 455],
dA 109 (dB (af (eY (dC 7)) 5) (cI "Headers.__getitem__") 3 .none .none .none (ai "cpy313.wsgiref.headers" 289) none (.ref 108) .none 0),
aT 110 0 [],
aT 112 0 [ai "self" 460,ai "name" 461],
aT 113 0 [],
dz 115 [ai "__contains__" 457,ai "Headers.__contains__" 458,ai "/claim/cut.py" 459,ah 52 0,ah 2 0,ah 0 0,ah 0 0,ah 3 0,.ref 110,.bool true,ah 276 0,.ref 111,.none,.ref 112,.ref 113,.ref 114,ah 462 0,ah 52 0,ai "/claim/cut.py" 463],
dA 116 (dB (af (eY (dC 7)) 6) (cI "Headers.__contains__") 3 .none .none .none (ai "cpy313.wsgiref.headers" 289) none (.ref 115) .none 0),
aT 117 0 [],
dz 120 [ai "get_all" 465,ai "Headers.get_all" 466,ai "/claim/cut.py" 467,ah 55 0,ah 2 0,ah 0 0,ah 0 0,ah 3 0,.ref 117,.bool true,ah 276 0,.ref 118,.none,.none,.none,.ref 119,ah 468 0,ah 55 0,ai "/claim/cut.py" 469],
dA 121 (dB (af (eY (dC 7)) 7) (cI "Headers.get_all") 3 .none .none .none (ai "cpy313.wsgiref.headers" 289) none (.ref 120) .none 0),
aT 122 0 [.none],
aT 123 0 [],
aT 125 0 [ai "self" 474,ai "name" 475,ai "default" 476,ai "k" 477,ai "v" 478],
aT 126 0 [],
dz 128 [ai "get" 471,ai "Headers.get" 472,ai "/claim/cut.py" 473,ah 59 0,ah 3 0,ah 0 0,ah 0 0,ah 3 0,.ref 123,.bool true,ah 276 0,.ref 124,.none,.ref 125,.ref 126,.ref 127,ah 479 0,ah 59 0,ai "/claim/cut.py" 480],
dA 129 (dB (af (eY (dC 7)) 8) (cI "Headers.get") 3 (.ref 122) .none .none (ai "cpy313.wsgiref.headers" 289) none (.ref 128) .none 0),
aT 130 0 [],
dz 133 [ai "keys" 482,ai "Headers.keys" 483,ai "/claim/cut.py" 484,ah 66 0,ah 1 0,ah 0 0,ah 0 0,ah 3 0,.ref 130,.bool true,ah 276 0,.ref 131,.none,.none,.none,.ref 132,ah 485 0,ah 66 0,ai "/claim/cut.py" 486],
dA 134 (dB (af (eY (dC 7)) 9) (cI "Headers.keys") 3 .none .none .none (ai "cpy313.wsgiref.headers" 289) none (.ref 133) .none 0),
aT 135 0 [],
dz 138 [ai "values" 488,ai "Headers.values" 489,ai "/claim/cut.py" 490,ah 69 0,ah 1 0,ah 0 0,ah 0 0,ah 3 0,.ref 135,.bool true,ah 276 0,.ref 136,.none,.none,.none,.ref 137,ah 491 0,ah 69 0,ai "/claim/cut.py" 492],
dA 139 (dB (af (eY (dC 7)) 10) (cI "Headers.values") 3 .none .none .none (ai "cpy313.wsgiref.headers" 289) none (.ref 138) .none 0),
aT 140 0 [],
aT 142 0 [ai "self" 497],
aT 143 0 [],
dz 145 [ai "items" 494,ai "Headers.items" 495,ai "/claim/cut.py" 496,ah 72 0,ah 1 0,ah 0 0,ah 0 0,ah 3 0,.ref 140,.bool true,ah 276 0,.ref 141,.none,.ref 142,.ref 143,.ref 144,ah 498 0,ah 72 0,ai "/claim/cut.py" 499],
dA 146 (dB (af (eY (dC 7)) 11) (cI "Headers.items") 3 .none .none .none (ai "cpy313.wsgiref.headers" 289) none (.ref 145) .none 0),
aT 147 0 [],
aT 149 0 [ai "self" 504],
aT 150 0 [],
dz 152 [ai "__repr__" 501,ai "Headers.__repr__" 502,ai "/claim/cut.py" 503,ah 75 0,ah 1 0,ah 0 0,ah 0 0,ah 3 0,.ref 147,.bool true,ah 276 0,.ref 148,.none,.ref 149,.ref 150,.ref 151,ah 505 0,ah 75 0,ai "/claim/cut.py" 506],
dA 153 (dB (af (eY (dC 7)) 12) (cI "Headers.__repr__") 3 .none .none .none (ai "cpy313.wsgiref.headers" 289) none (.ref 152) .none 0),
aT 154 0 [],
dz 157 [ai "__str__" 508,ai "Headers.__str__" 509,ai "/claim/cut.py" 510,ah 78 0,ah 1 0,ah 0 0,ah 0 0,ah 3 0,.ref 154,.bool true,ah 276 0,.ref 155,.none,.none,.none,.ref 156,ah 511 0,ah 78 0,ai "/claim/cut.py" 512],
dA 158 (dB (af (eY (dC 7)) 13) (cI "Headers.__str__") 3 .none .none .none (ai "cpy313.wsgiref.headers" 289) none (.ref 157) .none 0),
aT 159 0 [],
aT 161 0 [ai "self" 517],
aT 162 0 [],
dz 164 [ai "__bytes__" 514,ai "Headers.__bytes__" 515,ai "/claim/cut.py" 516,ah 81 0,ah 1 0,ah 0 0,ah 0 0,ah 3 0,.ref 159,.bool true,ah 276 0,.ref 160,.none,.ref 161,.ref 162,.ref 163,ah 518 0,ah 81 0,ai "/claim/cut.py" 519],
dA 165 (dB (af (eY (dC 7)) 14) (cI "Headers.__bytes__") 3 .none .none .none (ai "cpy313.wsgiref.headers" 289) none (.ref 164) .none 0),
aT 166 0 [],
aT 168 0 [ai "self" 524,ai "name" 525,ai "value" 526],
aT 169 0 [],
dz 171 [ai "setdefault" 521,ai "Headers.setdefault" 522,ai "/claim/cut.py" 523,ah 84 0,ah 3 0,ah 0 0,ah 0 0,ah 3 0,.ref 166,.bool true,ah 276 0,.ref 167,.none,.ref 168,.ref 169,.ref 170,ah 527 0,ah 84 0,ai "/claim/cut.py" 528],
dA 172 (dB (af (eY (dC 7)) 15) (cI "Headers.setdefault") 3 .none .none .none (ai "cpy313.wsgiref.headers" 289) none (.ref 171) .none 0),
aT 173 0 [],
aT 175 0 [ai "self" 533,ai "_name" 534,ai "_value" 535,ai "_params" 536,ai "parts" 537,ai "k" 538,ai "v" 539],
aT 176 0 [],
dz 178 [ai "add_header" 530,ai "Headers.add_header" 531,ai "/claim/cut.py" 532,ah 87 0,ah 3 0,ah 0 0,ah 0 0,ah 11 0,.ref 173,.bool true,ah 276 0,.ref 174,.none,.ref 175,.ref 176,.ref 177,ah 540 0,ah 87 0,ai "/claim/cut.py" 541],
dA 179 (dB (af (eY (dC 7)) 16) (cI "Headers.add_header") 3 .none .none .none (ai "cpy313.wsgiref.headers" 289) none (.ref 178) .none 0),
aT 180 0 [ai "_headers" 543],
(181,⟨(.type "dict"),none,(.dict [bu P "__module__" 402 (ai "cpy313.wsgiref.headers" 289),bu P "__firstlineno__" 406 (ah 18 405),bu P "__init__" 416 (.ref 76),bu P "_convert_string_type" 426 (.ref 83),bu P "__len__" 433 (.ref 90),bu P "__setitem__" 442 (.ref 97),bu P "__delitem__" 448 (.ref 102),bu P "__getitem__" 456 (.ref 109),bu P "__contains__" 464 (.ref 116),bu P "get_all" 470 (.ref 121),bu P "get" 481 (.ref 129),bu P "keys" 487 (.ref 134),bu P "values" 493 (.ref 139),bu P "items" 500 (.ref 146),bu P "__repr__" 507 (.ref 153),bu P "__str__" 513 (.ref 158),bu P "__bytes__" 520 (.ref 165),bu P "setdefault" 529 (.ref 172),bu P "add_header" 542 (.ref 179),bu P "__static_attributes__" 544 (.ref 180),bu P "__dict__" 546 (.ref 183),bu P "__weakref__" 548 (.ref 184),bu P "__doc__" 549 .none].toArray 4),#[]⟩),
(182,⟨(.type "type"),none,(.cls ⟨(cI "Headers"),[.type "object"],[.ref 182,(.type "object")],181,(cI "Headers"),true,[],[],false,none,false⟩),#[none,none,(some (ai "Headers" 395)),(some (ai "Headers" 403)),(some (.builtin "object.__new__")),(some (.bool true))]⟩),
(183,⟨(.type "getset_descriptor"),none,(.fields [ai "__dict__" 545,.ref 182,(.builtin "function.__dict__"),(.builtin "function.__dict__#set")].toArray),#[]⟩),
(184,⟨(.type "getset_descriptor"),none,(.fields [ai "__weakref__" 547,.ref 182,(.builtin "ExceptionGroup.__weakref__"),.none].toArray),#[]⟩),
aT 187 0 [],
aT 189 0 [ai "num" 557,ai "val" 558,ai "AP" 559,ai "mod" 560],
aT 190 0 [],
dz 192 [ai "Int2AP" 554,ai "Int2AP" 555,ai "/claim/cut.py" 556,ah 101 0,ah 1 0,ah 0 0,ah 0 0,ah 3 0,.ref 187,.bool true,ah 276 0,.ref 188,.none,.ref 189,.ref 190,.ref 191,ah 561 0,ah 101 0,ai "/claim/cut.py" 562],
dA 193 (dB (dC 9) (cI "Int2AP") 3 .none .none .none (ai "cpy313.imaplib" 552) none (.ref 192) .none 0),
aT 204 0 [],
aT 206 0 [ai "self" 586,ai "ws" 587,ai "S" 588,ai "T" 589,ai "count" 590,ai "b" 591,ai "n" 592,ai "nt" 593,ai "ch" 594],
aT 207 0 [],
dz 209 [ai "__init__" 583,ai "Whitespace.__init__" 584,ai "/claim/cut.py" 585,ah 113 0,ah 2 0,ah 0 0,ah 0 0,ah 3 0,.ref 204,.bool true,ah 276 0,.ref 205,.none,.ref 206,.ref 207,.ref 208,ah 595 0,ah 113 0,ai "/claim/cut.py" 596],
dA 210 (dB (af (eY (dC 11)) 1) (cI "Whitespace.__init__") 3 .none .none .none (ai "cpy313.tabnanny" 564) none (.ref 209) .none 0),
aT 211 0 [],
aT 213 0 [ai "self" 601,ai "count" 602,ai "trailing" 603],
aT 214 0 [],
dz 216 [ai "longest_run_of_spaces" 598,ai "Whitespace.longest_run_of_spaces" 599,ai "/claim/cut.py" 600,ah 136 0,ah 1 0,ah 0 0,ah 0 0,ah 3 0,.ref 211,.bool true,ah 276 0,.ref 212,.none,.ref 213,.ref 214,.ref 215,ah 604 0,ah 136 0,ai "/claim/cut.py" 605],
dA 217 (dB (af (eY (dC 11)) 2) (cI "Whitespace.longest_run_of_spaces") 3 .none .none .none (ai "cpy313.tabnanny" 564) none (.ref 216) .none 0),
aT 218 0 [],
aT 220 0 [ai "self" 610,ai "tabsize" 611,ai "count" 612,ai "trailing" 613,ai "il" 614,ai "i" 615],
aT 221 0 [],
dz 223 [ai "indent_level" 607,ai "Whitespace.indent_level" 608,ai "/claim/cut.py" 609,ah 140 0,ah 2 0,ah 0 0,ah 0 0,ah 3 0,.ref 218,.bool true,ah 276 0,.ref 219,.none,.ref 220,.ref 221,.ref 222,ah 616 0,ah 140 0,ai "/claim/cut.py" 617],
dA 224 (dB (af (eY (dC 11)) 3) (cI "Whitespace.indent_level") 3 .none .none .none (ai "cpy313.tabnanny" 564) none (.ref 223) .none 0),
aT 225 0 [],
aT 227 0 [ai "self" 622,ai "other" 623],
aT 228 0 [],
dz 230 [ai "equal" 619,ai "Whitespace.equal" 620,ai "/claim/cut.py" 621,ah 147 0,ah 2 0,ah 0 0,ah 0 0,ah 3 0,.ref 225,.bool true,ah 276 0,.ref 226,.none,.ref 227,.ref 228,.ref 229,ah 624 0,ah 147 0,ai "/claim/cut.py" 625],
dA 231 (dB (af (eY (dC 11)) 4) (cI "Whitespace.equal") 3 .none .none .none (ai "cpy313.tabnanny" 564) none (.ref 230) .none 0),
aT 232 0 [],
aT 234 0 [ai "self" 630,ai "other" 631],
aT 235 0 [],
dz 237 [ai "not_equal_witness" 627,ai "Whitespace.not_equal_witness" 628,ai "/claim/cut.py" 629,ah 150 0,ah 2 0,ah 0 0,ah 0 0,ah 3 0,.ref 232,.bool true,ah 276 0,.ref 233,.none,.ref 234,.ref 235,.ref 236,ah 632 0,ah 150 0,ai "/claim/cut.py" 633],
dA 238 (dB (af (eY (dC 11)) 5) (cI "Whitespace.not_equal_witness") 3 .none .none .none (ai "cpy313.tabnanny" 564) none (.ref 237) .none 0),
aT 239 0 [],
aT 241 0 [ai "self" 638,ai "other" 639,ai "n" 640,ai "ts" 641],
aT 242 0 [],
dz 244 [ai "less" 635,ai "Whitespace.less" 636,ai "/claim/cut.py" 637,ah 153 0,ah 2 0,ah 0 0,ah 0 0,ah 3 0,.ref 239,.bool true,ah 276 0,.ref 240,.none,.ref 241,.ref 242,.ref 243,ah 642 0,ah 153 0,ai "/claim/cut.py" 643],
dA 245 (dB (af (eY (dC 11)) 6) (cI "Whitespace.less") 3 .none .none .none (ai "cpy313.tabnanny" 564) none (.ref 244) .none 0),
aT 246 0 [],
aT 248 0 [ai "self" 648,ai "other" 649],
aT 249 0 [],
dz 251 [ai "not_less_witness" 645,ai "Whitespace.not_less_witness" 646,ai "/claim/cut.py" 647,ah 164 0,ah 2 0,ah 0 0,ah 0 0,ah 3 0,.ref 246,.bool true,ah 276 0,.ref 247,.none,.ref 248,.ref 249,.ref 250,ah 650 0,ah 164 0,ai "/claim/cut.py" 651],
dA 252 (dB (af (eY (dC 11)) 7) (cI "Whitespace.not_less_witness") 3 .none .none .none (ai "cpy313.tabnanny" 564) none (.ref 251) .none 0),
aT 253 0 [ai "is_simple" 653,ai "n" 654,ai "norm" 655,ai "nt" 656,ai "raw" 657],
(254,⟨(.type "dict"),none,(.dict [bu P "__module__" 573 (ai "cpy313.tabnanny" 564),bu P "__firstlineno__" 577 (ah 110 576),bu P "S" 581 (ai " " 579),bu P "T" 582 (ai "\t" 580),bu P "__init__" 597 (.ref 210),bu P "longest_run_of_spaces" 606 (.ref 217),bu P "indent_level" 618 (.ref 224),bu P "equal" 626 (.ref 231),bu P "not_equal_witness" 634 (.ref 238),bu P "less" 644 (.ref 245),bu P "not_less_witness" 652 (.ref 252),bu P "__static_attributes__" 658 (.ref 253),bu P "__dict__" 660 (.ref 256),bu P "__weakref__" 662 (.ref 257),bu P "__doc__" 663 .none].toArray 4),#[]⟩),
(255,⟨(.type "type"),none,(.cls ⟨(cI "Whitespace"),[.type "object"],[.ref 255,(.type "object")],254,(cI "Whitespace"),true,[],[],false,none,false⟩),#[none,none,(some (ai "Whitespace" 566)),(some (ai "Whitespace" 574)),(some (.builtin "object.__new__")),(some (.bool true))]⟩),
(256,⟨(.type "getset_descriptor"),none,(.fields [ai "__dict__" 659,.ref 255,(.builtin "function.__dict__"),(.builtin "function.__dict__#set")].toArray),#[]⟩),
(257,⟨(.type "getset_descriptor"),none,(.fields [ai "__weakref__" 661,.ref 255,(.builtin "ExceptionGroup.__weakref__"),.none].toArray),#[]⟩),
aT 263 0 [ah 14 0,ah 4 0,ah 0 0,ah 3 0,ah 4294967295 0,ah 6 0,ah 0 0,ah 24 0,ah 9 0,ah 1 0,ah 4294967295 0,ah 13 0,ah 4 0,ah 8 0,ah 14 0,ah 0 0,ah 1 0,ah 16 0,ah 58 0,ah 24 0,ah 9 0,ah 1 0,ah 4294967295 0,ah 13 0,ah 4 0,ah 8 0,ah 14 0,ah 0 0,ah 1 0,ah 6 0,ah 5 0,ah 1 0],
(264,⟨(.type "re.Pattern"),none,(.fields [ai "^\\w+:\\w+$" 669,ah 32 704,ah 0 0,.none,.none,.ref 263,ah 0 0].toArray),#[]⟩),
(265,⟨(.type "dict"),none,(.dict [GP P 0 706 (ai "xml" 707),GP P 1 708 (ai "html" 709),GP P 2 710 (ai "rdf" 711),GP P 3 712 (ai "wsdl" 713),GP P 4 714 (ai "xs" 715),GP P 5 716 (ai "xsi" 717),GP P 6 718 (ai "dc" 719)].toArray 7),#[]⟩),
aT 266 0 [],
aT 268 0 [ai "text" 731],
aT 269 0 [],
dz 271 [ai "_raise_serialization_error" 728,ai "_raise_serialization_error" 729,ai "/claim/cut.py" 730,ah 169 0,ah 1 0,ah 0 0,ah 0 0,ah 3 0,.ref 266,.bool true,ah 276 0,.ref 267,.none,.ref 268,.ref 269,.ref 270,ah 732 0,ah 169 0,ai "/claim/cut.py" 733],
dA 272 (dB (dC 15) (cI "_raise_serialization_error") 3 .none .none .none (ai "cpy313.xml.etree.ElementTree" 666) none (.ref 271) .none 0),
(273,⟨(.type "builtin_function_or_method"),none,(.fields [.builtin "re.Pattern.match",.ref 264].toArray),#[]⟩),
(281,⟨(.type "dict"),none,(.dict [bu P "with_comments" 749 (.bool false),bu P "strip_text" 750 (.bool false),bu P "rewrite_prefixes" 751 (.bool false),bu P "qname_aware_tags" 752 .none,bu P "qname_aware_attrs" 753 .none,bu P "exclude_attrs" 754 .none,bu P "exclude_tags" 755 .none].toArray 7),#[]⟩),
aT 282 0 [],
aT 284 0 [ai "self" 759,ai "write" 760,ai "with_comments" 761,ai "strip_text" 762,ai "rewrite_prefixes" 763,ai "qname_aware_tags" 764,ai "qname_aware_attrs" 765,ai "exclude_attrs" 766,ai "exclude_tags" 767],
aT 285 0 [],
dz 287 [ai "__init__" 756,ai "C14NWriterTarget.__init__" 757,ai "/claim/cut.py" 758,ah 174 0,ah 2 0,ah 0 0,ah 7 0,ah 3 0,.ref 282,.bool true,ah 276 0,.ref 283,.none,.ref 284,.ref 285,.ref 286,ah 768 0,ah 174 0,ai "/claim/cut.py" 769],
dA 288 (dB (af (eY (dC 17)) 0) (cI "C14NWriterTarget.__init__") 3 .none (.ref 281) .none (ai "cpy313.xml.etree.ElementTree" 666) none (.ref 287) .none 0),
aT 289 0 [.type "reversed"],
aT 290 0 [],
aT 292 0 [ai "self" 774,ai "ns_stack" 775,ai "_reversed" 776,ai "namespaces" 777],
aT 293 0 [],
dz 295 [ai "_iter_namespaces" 771,ai "C14NWriterTarget._iter_namespaces" 772,ai "/claim/cut.py" 773,ah 202 0,ah 3 0,ah 0 0,ah 0 0,ah 35 0,.ref 290,.bool true,ah 276 0,.ref 291,.none,.ref 292,.ref 293,.ref 294,ah 778 0,ah 202 0,ai "/claim/cut.py" 779],
dA 296 (dB (af (eY (dC 17)) 1) (cI "C14NWriterTarget._iter_namespaces") 3 (.ref 289) .none .none (ai "cpy313.xml.etree.ElementTree" 666) none (.ref 295) .none 0),
aT 297 0 [],
aT 299 0 [ai "self" 784,ai "prefixed_name" 785,ai "prefix" 786,ai "name" 787,ai "uri" 788,ai "p" 789],
aT 300 0 [],
dz 302 [ai "_resolve_prefix_name" 781,ai "C14NWriterTarget._resolve_prefix_name" 782,ai "/claim/cut.py" 783,ah 207 0,ah 2 0,ah 0 0,ah 0 0,ah 3 0,.ref 297,.bool true,ah 276 0,.ref 298,.none,.ref 299,.ref 300,.ref 301,ah 790 0,ah 207 0,ai "/claim/cut.py" 791],
dA 303 (dB (af (eY (dC 17)) 2) (cI "C14NWriterTarget._resolve_prefix_name") 3 .none .none .none (ai "cpy313.xml.etree.ElementTree" 666) none (.ref 302) .none 0),
aT 304 0 [.none],
aT 305 0 [],
aT 307 0 [ai "self" 796,ai "qname" 797,ai "uri" 798,ai "tag" 799,ai "prefixes_seen" 800,ai "u" 801,ai "prefix" 802],
aT 308 0 [],
dz 310 [ai "_qname" 793,ai "C14NWriterTarget._qname" 794,ai "/claim/cut.py" 795,ah 214 0,ah 3 0,ah 0 0,ah 0 0,ah 3 0,.ref 305,.bool true,ah 276 0,.ref 306,.none,.ref 307,.ref 308,.ref 309,ah 803 0,ah 214 0,ai "/claim/cut.py" 804],
dA 311 (dB (af (eY (dC 17)) 3) (cI "C14NWriterTarget._qname") 3 (.ref 304) .none .none (ai "cpy313.xml.etree.ElementTree" 666) none (.ref 310) .none 0),
aT 312 0 [],
aT 314 0 [ai "self" 809,ai "data" 810],
aT 315 0 [],
dz 317 [ai "data" 806,ai "C14NWriterTarget.data" 807,ai "/claim/cut.py" 808,ah 241 0,ah 2 0,ah 0 0,ah 0 0,ah 3 0,.ref 312,.bool true,ah 276 0,.ref 313,.none,.ref 314,.ref 315,.ref 316,ah 811 0,ah 241 0,ai "/claim/cut.py" 812],
dA 318 (dB (af (eY (dC 17)) 4) (cI "C14NWriterTarget.data") 3 .none .none .none (ai "cpy313.xml.etree.ElementTree" 666) none (.ref 317) .none 0),
(319,⟨(.type "builtin_function_or_method"),none,(.fields [.builtin "str.join",ai "" 814].toArray),#[]⟩),
aT 320 0 [.ref 319],
aT 321 0 [],
aT 323 0 [ai "self" 819,ai "_join_text" 820,ai "data" 821,ai "args" 822,ai "qname_text" 823],
aT 324 0 [],
dz 326 [ai "_flush" 816,ai "C14NWriterTarget._flush" 817,ai "/claim/cut.py" 818,ah 245 0,ah 2 0,ah 0 0,ah 0 0,ah 3 0,.ref 321,.bool true,ah 276 0,.ref 322,.none,.ref 323,.ref 324,.ref 325,ah 824 0,ah 245 0,ai "/claim/cut.py" 825],
dA 327 (dB (af (eY (dC 17)) 5) (cI "C14NWriterTarget._flush") 3 (.ref 320) .none .none (ai "cpy313.xml.etree.ElementTree" 666) none (.ref 326) .none 0),
aT 328 0 [],
aT 330 0 [ai "self" 830,ai "prefix" 831,ai "uri" 832],
aT 331 0 [],
dz 333 [ai "start_ns" 827,ai "C14NWriterTarget.start_ns" 828,ai "/claim/cut.py" 829,ah 259 0,ah 3 0,ah 0 0,ah 0 0,ah 3 0,.ref 328,.bool true,ah 276 0,.ref 329,.none,.ref 330,.ref 331,.ref 332,ah 833 0,ah 259 0,ai "/claim/cut.py" 834],
dA 334 (dB (af (eY (dC 17)) 6) (cI "C14NWriterTarget.start_ns") 3 .none .none .none (ai "cpy313.xml.etree.ElementTree" 666) none (.ref 333) .none 0),
aT 335 0 [],
aT 337 0 [ai "self" 839,ai "tag" 840,ai "attrs" 841,ai "new_namespaces" 842],
aT 338 0 [],
dz 340 [ai "start" 836,ai "C14NWriterTarget.start" 837,ai "/claim/cut.py" 838,ah 262 0,ah 3 0,ah 0 0,ah 0 0,ah 3 0,.ref 335,.bool true,ah 276 0,.ref 336,.none,.ref 337,.ref 338,.ref 339,ah 843 0,ah 262 0,ai "/claim/cut.py" 844],
dA 341 (dB (af (eY (dC 17)) 7) (cI "C14NWriterTarget.start") 3 .none .none .none (ai "cpy313.xml.etree.ElementTree" 666) none (.ref 340) .none 0),
aT 342 0 [.none],
aT 343 0 [],
dz 346 [ai "_start" 846,ai "C14NWriterTarget._start" 847,ai "/claim/cut.py" 848,ah 275 0,ah 5 0,ah 0 0,ah 0 0,ah 3 0,.ref 343,.bool true,ah 276 0,.ref 344,.none,.none,.none,.ref 345,ah 849 0,ah 275 0,ai "/claim/cut.py" 850],
dA 347 (dB (af (eY (dC 17)) 8) (cI "C14NWriterTarget._start") 3 (.ref 342) .none .none (ai "cpy313.xml.etree.ElementTree" 666) none (.ref 346) .none 0),
aT 348 0 [],
aT 350 0 [ai "self" 855,ai "tag" 856],
aT 351 0 [],
dz 353 [ai "end" 852,ai "C14NWriterTarget.end" 853,ai "/claim/cut.py" 854,ah 320 0,ah 2 0,ah 0 0,ah 0 0,ah 3 0,.ref 348,.bool true,ah 276 0,.ref 349,.none,.ref 350,.ref 351,.ref 352,ah 857 0,ah 320 0,ai "/claim/cut.py" 858],
dA 354 (dB (af (eY (dC 17)) 9) (cI "C14NWriterTarget.end") 3 .none .none .none (ai "cpy313.xml.etree.ElementTree" 666) none (.ref 353) .none 0),
aT 355 0 [],
aT 357 0 [ai "self" 863,ai "text" 864],
aT 358 0 [],
dz 360 [ai "comment" 860,ai "C14NWriterTarget.comment" 861,ai "/claim/cut.py" 862,ah 332 0,ah 2 0,ah 0 0,ah 0 0,ah 3 0,.ref 355,.bool true,ah 276 0,.ref 356,.none,.ref 357,.ref 358,.ref 359,ah 865 0,ah 332 0,ai "/claim/cut.py" 866],
dA 361 (dB (af (eY (dC 17)) 10) (cI "C14NWriterTarget.comment") 3 .none .none .none (ai "cpy313.xml.etree.ElementTree" 666) none (.ref 360) .none 0),
aT 362 0 [],
aT 364 0 [ai "self" 871,ai "target" 872,ai "data" 873],
aT 365 0 [],
dz 367 [ai "pi" 868,ai "C14NWriterTarget.pi" 869,ai "/claim/cut.py" 870,ah 335 0,ah 3 0,ah 0 0,ah 0 0,ah 3 0,.ref 362,.bool true,ah 276 0,.ref 363,.none,.ref 364,.ref 365,.ref 366,ah 874 0,ah 335 0,ai "/claim/cut.py" 875],
dA 368 (dB (af (eY (dC 17)) 11) (cI "C14NWriterTarget.pi") 3 .none .none .none (ai "cpy313.xml.etree.ElementTree" 666) none (.ref 367) .none 0),
aT 369 0 [ai "_data" 877,ai "_declared_ns_stack" 878,ai "_exclude_attrs" 879,ai "_exclude_tags" 880,ai "_find_qname_aware_attrs" 881,ai "_ignored_depth" 882,ai "_ns_stack" 883,ai "_pending_start" 884,ai "_prefix_map" 885,ai "_preserve_space" 886,ai "_qname_aware_tags" 887,ai "_rewrite_prefixes" 888,ai "_root_done" 889,ai "_root_seen" 890,ai "_strip_text" 891,ai "_with_comments" 892,ai "_write" 893],
(370,⟨(.type "dict"),none,(.dict [bu P "__module__" 744 (ai "cpy313.xml.etree.ElementTree" 666),bu P "__firstlineno__" 748 (ah 172 747),bu P "__init__" 770 (.ref 288),bu P "_iter_namespaces" 780 (.ref 296),bu P "_resolve_prefix_name" 792 (.ref 303),bu P "_qname" 805 (.ref 311),bu P "data" 813 (.ref 318),bu P "_flush" 826 (.ref 327),bu P "start_ns" 835 (.ref 334),bu P "start" 845 (.ref 341),bu P "_start" 851 (.ref 347),bu P "end" 859 (.ref 354),bu P "comment" 867 (.ref 361),bu P "pi" 876 (.ref 368),bu P "__static_attributes__" 894 (.ref 369),bu P "__dict__" 896 (.ref 372),bu P "__weakref__" 898 (.ref 373),bu P "__doc__" 899 .none].toArray 4),#[]⟩),
(371,⟨(.type "type"),none,(.cls ⟨(cI "C14NWriterTarget"),[.type "object"],[.ref 371,(.type "object")],370,(cI "C14NWriterTarget"),true,[],[],false,none,false⟩),#[none,none,(some (ai "C14NWriterTarget" 737)),(some (ai "C14NWriterTarget" 745)),(some (.builtin "object.__new__")),(some (.bool true))]⟩),
(372,⟨(.type "getset_descriptor"),none,(.fields [ai "__dict__" 895,.ref 371,(.builtin "function.__dict__"),(.builtin "function.__dict__#set")].toArray),#[]⟩),
(373,⟨(.type "getset_descriptor"),none,(.fields [ai "__weakref__" 897,.ref 371,(.builtin "ExceptionGroup.__weakref__"),.none].toArray),#[]⟩),
aT 376 0 [],
aT 378 0 [ai "text" 905],
aT 379 0 [],
dz 381 [ai "_escape_cdata_c14n" 902,ai "_escape_cdata_c14n" 903,ai "/claim/cut.py" 904,ah 337 0,ah 1 0,ah 0 0,ah 0 0,ah 3 0,.ref 376,.bool true,ah 276 0,.ref 377,.none,.ref 378,.ref 379,.ref 380,ah 906 0,ah 337 0,ai "/claim/cut.py" 907],
dA 382 (dB (dC 18) (cI "_escape_cdata_c14n") 3 .none .none .none (ai "cpy313.xml.etree.ElementTree" 666) none (.ref 381) .none 0),
aT 383 0 [],
aT 385 0 [ai "text" 912],
aT 386 0 [],
dz 388 [ai "_escape_attrib_c14n" 909,ai "_escape_attrib_c14n" 910,ai "/claim/cut.py" 911,ah 350 0,ah 1 0,ah 0 0,ah 0 0,ah 3 0,.ref 383,.bool true,ah 276 0,.ref 384,.none,.ref 385,.ref 386,.ref 387,ah 913 0,ah 350 0,ai "/claim/cut.py" 914],
dA 389 (dB (dC 19) (cI "_escape_attrib_c14n") 3 .none .none .none (ai "cpy313.xml.etree.ElementTree" 666) none (.ref 388) .none 0),
aT 390 0 [],
aT 392 0 [ai "number" 921],
aT 393 0 [],
dz 395 [ai "_law_word" 918,ai "_law_word" 919,ai "/claim/cut.py" 920,ah 368 0,ah 1 0,ah 0 0,ah 0 0,ah 3 0,.ref 390,.bool true,ah 276 0,.ref 391,.none,.ref 392,.ref 393,.ref 394,ah 922 0,ah 368 0,ai "/claim/cut.py" 923],
dA 396 (dB (dC 21) (cI "_law_word") 3 .none .none .none (ai "law_tp0065_01" 916) none (.ref 395) .none 0),
aT 397 0 [],
aT 399 0 [ai "cells" 928,ai "tower" 929,ai "depths" 930,ai "leads" 931,ai "cell" 932,ai "depth" 933,ai "under" 934],
aT 400 0 [],
dz 402 [ai "_law_page" 925,ai "_law_page" 926,ai "/claim/cut.py" 927,ah 370 0,ah 1 0,ah 0 0,ah 0 0,ah 3 0,.ref 397,.bool true,ah 276 0,.ref 398,.none,.ref 399,.ref 400,.ref 401,ah 935 0,ah 370 0,ai "/claim/cut.py" 936],
dA 403 (dB (dC 22) (cI "_law_page") 3 .none .none .none (ai "law_tp0065_01" 916) none (.ref 402) .none 0),
aT 404 0 [],
aT 406 0 [ai "leads" 941,ai "pile" 942,ai "depths" 943,ai "lead" 944,ai "indent" 945],
aT 407 0 [],
dz 409 [ai "_law_found" 938,ai "_law_found" 939,ai "/claim/cut.py" 940,ah 379 0,ah 1 0,ah 0 0,ah 0 0,ah 3 0,.ref 404,.bool true,ah 276 0,.ref 405,.none,.ref 406,.ref 407,.ref 408,ah 946 0,ah 379 0,ai "/claim/cut.py" 947],
dA 410 (dB (dC 23) (cI "_law_found") 3 .none .none .none (ai "law_tp0065_01" 916) none (.ref 409) .none 0),
aT 411 0 [],
aT 413 0 [ai "depths" 952,ai "table" 953,ai "calls" 954,ai "place" 955,ai "depth" 956],
aT 414 0 [],
dz 416 [ai "_law_calls" 949,ai "_law_calls" 950,ai "/claim/cut.py" 951,ah 388 0,ah 1 0,ah 0 0,ah 0 0,ah 3 0,.ref 411,.bool true,ah 276 0,.ref 412,.none,.ref 413,.ref 414,.ref 415,ah 957 0,ah 388 0,ai "/claim/cut.py" 958],
dA 417 (dB (dC 24) (cI "_law_calls") 3 .none .none .none (ai "law_tp0065_01" 916) none (.ref 416) .none 0),
aT 418 0 [],
aT 420 0 [ai "calls" 963,ai "pieces" 964,ai "opened" 965,ai "writer" 966,ai "word" 967],
aT 421 0 [],
dz 423 [ai "_law_written" 960,ai "_law_written" 961,ai "/claim/cut.py" 962,ah 396 0,ah 1 0,ah 0 0,ah 0 0,ah 3 0,.ref 418,.bool true,ah 276 0,.ref 419,.none,.ref 420,.ref 421,.ref 422,ah 968 0,ah 396 0,ai "/claim/cut.py" 969],
dA 424 (dB (dC 25) (cI "_law_written") 3 .none .none .none (ai "law_tp0065_01" 916) none (.ref 423) .none 0),
aT 425 0 [],
aT 427 0 [ai "marks" 974,ai "heights" 975,ai "nest" 976,ai "begun" 977,ai "mark" 978],
aT 428 0 [],
dz 430 [ai "_law_heights" 971,ai "_law_heights" 972,ai "/claim/cut.py" 973,ah 409 0,ah 1 0,ah 0 0,ah 0 0,ah 3 0,.ref 425,.bool true,ah 276 0,.ref 426,.none,.ref 427,.ref 428,.ref 429,ah 979 0,ah 409 0,ai "/claim/cut.py" 980],
dA 431 (dB (dC 26) (cI "_law_heights") 3 .none .none .none (ai "law_tp0065_01" 916) none (.ref 430) .none 0),
aT 432 0 [],
aT 434 0 [ai "heights" 985,ai "bounces" 986,ai "spot" 987,ai "column" 988,ai "height" 989],
aT 435 0 [],
dz 437 [ai "_law_bounces" 982,ai "_law_bounces" 983,ai "/claim/cut.py" 984,ah 419 0,ah 1 0,ah 0 0,ah 0 0,ah 3 0,.ref 432,.bool true,ah 276 0,.ref 433,.none,.ref 434,.ref 435,.ref 436,ah 990 0,ah 419 0,ai "/claim/cut.py" 991],
dA 438 (dB (dC 27) (cI "_law_bounces") 3 .none .none .none (ai "law_tp0065_01" 916) none (.ref 437) .none 0),
aT 439 0 [],
aT 441 0 [ai "marks" 996,ai "bounces" 997,ai "lines" 998,ai "depth" 999,ai "bounce" 1000,ai "many" 1001,ai "merged" 1002,ai "mark" 1003],
aT 442 0 [],
dz 444 [ai "_law_back" 993,ai "_law_back" 994,ai "/claim/cut.py" 995,ah 426 0,ah 2 0,ah 0 0,ah 0 0,ah 3 0,.ref 439,.bool true,ah 276 0,.ref 440,.none,.ref 441,.ref 442,.ref 443,ah 1004 0,ah 426 0,ai "/claim/cut.py" 1005],
dA 445 (dB (dC 28) (cI "_law_back") 3 .none .none .none (ai "law_tp0065_01" 916) none (.ref 444) .none 0),
aT 446 0 [],
dz 449 [ai "law" 1007,ai "law" 1008,ai "/claim/cut.py" 1009,ah 440 0,ah 1 0,ah 0 0,ah 0 0,ah 3 0,.ref 446,.bool true,ah 276 0,.ref 447,.none,.none,.none,.ref 448,ah 1010 0,ah 440 0,ai "/claim/cut.py" 1011],
dA 450 (dB (dC 29) (cI "law") 3 .none .none .none (ai "law_tp0065_01" 916) none (.ref 449) .none 0)]
noncomputable def g0 (ok:Thread→Bool) (st:SharedT→Thread→Option (SharedT×Thread)):Nat→SharedT→Thread→Option SharedT
 | 0,_,_=>none
 | n+1,s,t=>match through t with
  | true=>some s
  | false=>match ok t with
   | false=>none
   | true=>match st s t with
    | some (s',t')=>g0 ok st n s' t'
    | none=>none
theorem jX {tb:String→Option Builtin} {p:Program} {w:World} {n₀:Nat} {ann:Option Value}:∀ {n:Nat} {s s':SharedT} {t:Thread},g0 (stepOk n₀ ann) (stepT (denote tb) p w) n s t=some s'→topRun tb p w n₀ ann n s.abs t=some s'.abs
 | 0,_,_,_,h=>by cases h
 | n+1,s,s',t,h=>by
  unfold g0 at h
  unfold topRun
  cases ht:through t with
  | true=>rw [ht] at h; cases h; rfl
  | false=>
   rw [ht] at h
   cases hk:stepOk n₀ ann t with
   | false=>rw [hk] at h; cases h
   | true=>
    rw [hk] at h
    cases hs:stepT (denote tb) p w s t with
    | none=>rw [hs] at h; cases h
    | some r=>obtain ⟨s₂,t₂⟩:=r; rw [hs] at h; dsimp only; rw [stepT_spec hs]; exact jX h
noncomputable def Ix:List Obj→BT→Nat→Option (BT×Nat)
 | [],T,n=>some (T,n)
 | o::l,T,n=>match ((T.ins n o).get n).isSome with
  | true=>Ix l (T.ins n o) (n+1)
  | false=>none
theorem um {life:Life}:∀ {l:List Obj} {T T':BT} {n n':Nat},Ix l T n=some (T',n')→(absHeap T' n' life).objs=(absHeap T n life).objs++l.toArray
 | [],T,T',n,n',h=>by cases h; simp
 | o::l,T,T',n,n',h=>by
  unfold Ix at h
  cases e:((T.ins n o).get n).isSome with
  | false=>rw [e] at h; cases h
  | true=>
   rw [e] at h
   rw [um h,absHeap_ins e]
   simp [Heap.push]
noncomputable def gZ (ok:Nat→Option Value→Thread→Bool) (st:SharedT→Thread→Option (SharedT×Thread)) (p:Program) (N:Nat) (s₀:Shared):Option Shared:=
 match s₀.heap.isNs mainGlobals && s₀.gens.size==0 with
 | true=>match Ix s₀.heap.objs.toList .nil 0 with
  | none=>none
  | some (T,n)=>match g0 (ok s₀.heap.objs.size (s₀.heap.nsMap mainGlobals "__annotations__")) st N ⟨T,n,s₀.heap.life,s₀.gens,s₀.drawn,s₀.toks,s₀.os⟩ (topStub p) with
   | none=>none
   | some s₁=>match staticsOk (importedModules p.main.body) s₀.heap s₁.abs.heap && namesBound p s₁.abs.heap && gensDone s₁.abs && laidKept s₀.heap s₁.abs.heap with
    | true=>some s₁.abs
    | false=>none
 | false=>none
theorem iN {tb:String→Option Builtin} {p:Program} {w:World} {N:Nat} {s₀ r:Shared} (h:gZ stepOk (stepT (denote tb) p w) p N s₀=some r):topFrom tb p w N s₀=some r:=by
 unfold gZ at h
 unfold topFrom
 cases e:s₀.heap.isNs mainGlobals && s₀.gens.size==0 with
 | false=>rw [e] at h; cases h
 | true=>
  rw [e] at h
  dsimp only at h ⊢
  cases m:Ix s₀.heap.objs.toList .nil 0 with
  | none=>rw [m] at h; cases h
  | some x=>
   obtain ⟨T,n⟩:=x
   rw [m] at h
   dsimp only at h
   have q:(⟨T,n,s₀.heap.life,s₀.gens,s₀.drawn,s₀.toks,s₀.os⟩:SharedT).abs=s₀:=by
    have:=um (life:=s₀.heap.life) m
    show (⟨absHeap T n s₀.heap.life,_,_,_,_⟩:Shared)=s₀
    have:absHeap T n s₀.heap.life=s₀.heap:=by
     show Heap.mk (absHeap T n s₀.heap.life).objs s₀.heap.life=_
     rw [this]
     simp [absHeap,BT.list]
    rw [this]
   cases k:g0 (stepOk s₀.heap.objs.size (s₀.heap.nsMap mainGlobals "__annotations__")) (stepT (denote tb) p w) N ⟨T,n,s₀.heap.life,s₀.gens,s₀.drawn,s₀.toks,s₀.os⟩ (topStub p) with
   | none=>rw [k] at h; cases h
   | some s₁=>
    rw [k] at h
    have k':=jX k
    rw [q] at k'
    rw [k']
    dsimp only [Option.bind] at h ⊢
    exact h
noncomputable def vw:Program:=view pw [0,1,3,4,5,7,9,11,13,14,15,16,17,18,19,21,22,23,24,25,26,27,28,29]
noncomputable def Ha:List Str:=[cI "tspecials",cI "_name_disallowed_re",cI "_value_disallowed_re",cI "_formatparam",cI "Whitespace",cI "_twin_re_1",cI "_namespace_map",cI "_looks_like_prefix_name",cI "C14NWriterTarget"]
noncomputable def XT (s:Shared):Bool:=xlAt vw [] s && recOk (RowW.records PySem.Challenge.rw_tp0065_01.row.toRowW) s
noncomputable def KA:List Addr:=[2,3,32,34,35,37,38,42,43,47,48,52,53,54,55,57,58,60,61,69,70,72,73,75,76,77,79,80,82,83,84,86,87,89,90,91,93,94,96,97,98,101,102,103,105,106,108,109,110,112,113,115,116,117,120,121,122,123,125,126,128,129,130,133,134,135,138,139,140,142,143,145,146,147,149,150,152,153,154,157,158,159,161,162,164,165,166,168,169,171,172,173,175,176,178,179,180,181,182,183,184,187,189,190,192,193,204,206,207,209,210,211,213,214,216,217,218,220,221,223,224,225,227,228,230,231,232,234,235,237,238,239,241,242,244,245,246,248,249,251,252,253,254,255,256,257,263,264,265,266,268,269,271,272,273,281,282,284,285,287,288,289,290,292,293,295,296,297,299,300,302,303,304,305,307,308,310,311,312,314,315,317,318,319,320,321,323,324,326,327,328,330,331,333,334,335,337,338,340,341,342,343,346,347,348,350,351,353,354,355,357,358,360,361,362,364,365,367,368,369,370,371,372,373,376,378,379,381,382,383,385,386,388,389,390,392,393,395,396,397,399,400,402,403,404,406,407,409,410,411,413,414,416,417,418,420,421,423,424,425,427,428,430,431,432,434,435,437,438,439,441,442,444,445,446,449,450]
theorem Hr (P:Params):KA=(KH P).map (·.1):=rfl
noncomputable def HK:Hook:=kmHook KH KA Hr [344]
theorem J9 {α β γ:Type} {o:Option α} {f:α→β} {g:α→γ} {a:β} {b:γ} (h1:o.map f=some a) (h2:o.map g=some b):o.map (fun x=>(f x,g x))=some (a,b):=by
 cases o with
 | none=>cases h1
 | some x=>cases h1; cases h2; rfl
noncomputable def qb (w:World):Option Shared:=(Fast.tw10274390034422433532 Fast.tw14364793385576792824 (opening pw) w 5808 (Fast.tw1435165496053646825 (opening pw)).1 (Fast.tw1435165496053646825 (opening pw)).2).bind (Fast.tw14289696077712309145 pw)
theorem uJ (w:World):fencedOpening treeTable pw w 5808=qb w:=by
 unfold fencedOpening qb
 rw [Fast.te10274390034422433532,Fast.te1435165496053646825,Fast.te14289696077712309145,Fast.te14364793385576792824]
noncomputable abbrev yP (w:World) (b:Bool):World:=w.withFollow "special-get-raises" b
noncomputable abbrev I2 (w:World) (b:Bool) (s₀:Shared):Option Shared:=gZ stepOk (stepT (denote treeTable) pw (yP w b)) pw 5808 s₀
noncomputable abbrev zz (w:World) (b:Bool) (s₀:Shared):Option Shared:=gZ Fast.tw6613529449190102663 (Fast.tw10156331382660048174 (Fast.tw11892475500146522536 Fast.tw14364793385576792824) pw (yP w b)) pw 5808 s₀
theorem zA:@I2=@zz:=by
 funext w b s
 unfold I2 zz
 rw [Fast.te6613529449190102663,Fast.te10156331382660048174,Fast.te11892475500146522536,Fast.te14364793385576792824]
theorem JH (w:World):(qb w).map (fun s₀=>(zz w false s₀).map fun s=>(Fast.tw4187177175401517315 vw Ha (Fast.tw5923862056798008813 pw.main.body) XT true s,Hook.obs HK s))=some (some (openGood vw Ha,Hook.val HK (yP w false))):=by kernel_rfl
theorem JI (w:World):(qb w).map (fun s₀=>(zz w true s₀).map fun s=>(Fast.tw4187177175401517315 vw Ha (Fast.tw5923862056798008813 pw.main.body) XT true s,Hook.obs HK s))=some (some (openGood vw Ha,Hook.val HK (yP w true))):=by kernel_rfl
theorem Au {α β γ:Type} {o:Option α} {r r':α→Option β} {f:β→γ} {v:γ} (hr:∀ {a:α} {x:β},r a=some x→r' a=some x) (h:o.map (fun a=>(r a).map f)=some (some v)):o.map (fun a=>(r' a).map f)=some (some v):=by
 cases o with
 | none=>cases h
 | some a=>
  obtain ⟨x,e,rfl⟩:=Option.map_eq_some_iff.mp (Option.some.inj h)
  show some ((r' a).map f)=_
  rw [hr e]
  rfl
theorem KQ:LeftO pw vw Ha XT (Hook.obs HK) (Hook.val HK) 5808:=LeftO.of_split "special-get-raises" fun w=>by
 have e1:=JH w
 have e2:=JI w
 rw [← uJ,← zA,← Fast.te4187177175401517315,← Fast.te5923862056798008813] at e1 e2
 exact J9 (Au iN e1) (Au iN e2)
theorem KL:PySem.Challenge.rw_tp0065_01.wellSaid=true:=(Mt Fast.te9446332074065402090 _).trans (by kernel_rfl)
inductive V where
 | non | boo (b:Bool) | int (i:Int) | str (s:List Nat) | byt (s:List UInt8)
 | ty (n:String) | gl (a:Nat) | loc (l:Nat)
 | obj (C:Nat) (l:Nat)
 | tup (vs:List V) | fro (vs:List V)
 | bm (l:Nat)
 | pm (f:Nat) (C:Nat) (l:Nat)
 | junk
 | fob (C:Nat) (vs:List V)
inductive AO where
 | list (vs:List V)
 | ns (at_:List (Nat×V))
 | dict (kvs:List (List Nat×V))
 | set (ks:List (List Nat))
 | cold
 | set1 (k:Option (List Nat))
 | wds (ss:List (List Nat))
 | own
structure St where
 lo:List (Nat×V)
 st:List (Nat×AO)
 nx:Nat
noncomputable def aq {α:Type} (n:Nat) (l:List (Nat×α)):Option α:=@List.rec (Nat×α) (fun _=>Option α) none (fun p _ ih=>@Prod.rec Nat α (fun _=>Option α) (fun k v=>@Bool.rec (fun _=>Option α) ih (some v) (Nat.beq n k)) p) l
noncomputable def fq {α:Type} (n:Nat) (a:α) (l:List (Nat×α)):List (Nat×α):=@List.rec (Nat×α) (fun _=>List (Nat×α)) [(n,a)] (fun p r ih=>@Prod.rec Nat α (fun _=>List (Nat×α)) (fun k v=>@Bool.rec (fun _=>List (Nat×α)) ((k,v)::ih) ((n,a)::r) (Nat.beq n k)) p) l
theorem d4 {a b:Nat}:Nat.beq a b=decide (a=b):=by
 cases h:Nat.beq a b with
 | true=>exact (Mb (L8 h)).symm
 | false=>exact (Ma (Nat.ne_of_beq_eq_false h)).symm
theorem ub {α:Type} {n:Nat}:aq n ([]:List (Nat×α))=none:=rfl
theorem ax {α:Type} {n m:Nat} {a:α} {r:List (Nat×α)}:aq n ((m,a)::r)=if n=m then some a else aq n r:=by
 show (@Bool.rec (fun _=>Option α) (aq n r) (some a) (Nat.beq n m))=_
 rw [d4]; by_cases h:n=m <;> simp [h]
theorem lF {α:Type} {n:Nat} {a:α}:fq n a []=[(n,a)]:=rfl
theorem eG {α:Type} {n m:Nat} {a b:α} {r:List (Nat×α)}:fq n a ((m,b)::r)=if n=m then (n,a)::r else (m,b)::fq n a r:=by
 show (@Bool.rec (fun _=>List (Nat×α)) ((m,b)::fq n a r) ((n,a)::r) (Nat.beq n m))=_
 rw [d4]; by_cases h:n=m <;> simp [h]
theorem dN {α:Type} {n:Nat} {a:α}:∀ {l:List (Nat×α)} {k:Nat},aq k (fq n a l)=if k=n then some a else aq k l
 | [],k=>by rw [lF,ax]
 | (m,b)::r,k=>by
  rw [eG]
  by_cases h:n=m
  ·subst h; rw [LV rfl,ax,ax]; by_cases q:k=n <;> simp [q]
  ·rw [LU h,ax,ax,dN]
   by_cases q:k=m
   ·subst q; simp [Ne.symm h]
   ·simp [q]
structure Wd where
 ρ:Nat→Addr
 F:Addr→Option Obj
 tb:Array Value
 P:Addr→Bool
noncomputable def cD:List Str:=(["raw","n","nt","norm","is_simple"]:List String).map Str.ofString
noncomputable def pi (od:Obj) (vals:List Value):Prop:=∃ (es:Array DictEntry) (ep:Nat) (m:Str→Option Value),od.data=.dict es ep∧StrKeys es∧UniqKeys es∧(∀ name,nsFind es name=m name)∧vals.length=5∧(∀ (k:Nat) (x:Str),cD[k]?=some x→m x=vals[k]?)∧∀ (x:Str) (v:Value),m x=some v→x∈cD
noncomputable def LObj (T:String) (o:Obj) (items:List Value):Prop:=o.cls=.type T∧o.dict=none∧(∃ ep,o.data=.seq items.toArray ep)∧o.slots=#[]
mutual
inductive RepV (X:Wd) (n:Nat):V→Value→Prop
 | non:RepV X n .non .none
 | boo (b:Bool):RepV X n (.boo b) (.bool b)
 | int (i:Int) (t:Tok):RepV X n (.int i) (.int i t)
 | str (s:List Nat) (t:Tok):RepV X n (.str s) (.str ⟨s.toArray⟩ t)
 | byt (s:List UInt8) (t:Tok):RepV X n (.byt s) (.bytes s.toArray t)
 | ty (T:String):RepV X n (.ty T) (.type T)
 | gl (a:Addr):RepV X n (.gl a) (.ref a)
 | loc (l:Nat) (h:l<n):RepV X n (.loc l) (.ref (X.ρ l))
 | obj (C l a:Nat) (h:l<n) (o:X.F a=some (instObj C (X.ρ l))):RepV X n (.obj C l) (.ref a)
 | tup (vs:List V) (vals:List Value) (a:Addr) (o:Obj) (h:X.F a=some o) (ho:LObj "tuple" o vals) (hs:RepVs X n vs vals):RepV X n (.tup vs) (.ref a)
 | fro (vs:List V) (vals:List Value) (a:Addr) (o:Obj) (h:X.F a=some o) (ho:LObj "list" o vals) (hs:RepVs X n vs vals):RepV X n (.fro vs) (.ref a)
 | bm (l a:Nat) (h:l<n) (o:X.F a=some {cls:=.type "builtin_function_or_method",data:=.fields #[.builtin "list.append",.ref (X.ρ l)]}):RepV X n (.bm l) (.ref a)
 | pm (f C l a b:Nat) (h:l<n) (o:X.F a=some (methodObj (.ref f) (.ref b))) (ob:X.F b=some (instObj C (X.ρ l))):RepV X n (.pm f C l) (.ref a)
 | junk (a:Addr):RepV X n .junk (.ref a)
 | fob (C a d:Nat) (od:Obj) (vs:List V) (vals:List Value) (h:X.F a=some (instObj C d)) (hd:X.F d=some od) (hP:X.P d=true) (ho:pi od vals) (hs:RepVs X n vs vals):RepV X n (.fob C vs) (.ref a)
inductive RepVs (X:Wd) (n:Nat):List V→List Value→Prop
 | nil:RepVs X n [] []
 | cons {v:V} {val:Value} {vs:List V} {vals:List Value} (h:RepV X n v val) (hs:RepVs X n vs vals):RepVs X n (v::vs) (val::vals)
end
structure Wd.le (n:Nat) (X X':Wd):Prop where
 ρ:∀ l,l<n→X'.ρ l=X.ρ l
 F:∀ a o,X.F a=some o→X'.F a=some o
 P:∀ a o,X.F a=some o→X'.P a=X.P a
theorem Wd.le.refl {n:Nat} {X:Wd}:X.le n X:=⟨fun _ _=>rfl,fun _ _ e=>e,fun _ _ _=>rfl⟩
theorem Wd.le.trans {n m:Nat} {X Y Z:Wd} (a:X.le n Y) (b:Y.le m Z) (h:n≤m):X.le n Z:=
 ⟨fun l hl=>(b.ρ l (Mi hl h)).trans (a.ρ l hl),fun x o e=>b.F x o (a.F x o e),fun x o e=>(b.P x o (a.F x o e)).trans (a.P x o e)⟩
noncomputable def Obj.loose (o:Obj):Bool:=match o.data with
 | .seq ..=>false
 | .plain=>false
 | .fields vs=>(o.cls==.type "list_iterator") || (o.cls==.type "range_iterator") || (o.cls==.type "enumerate")
   || (o.cls==.type "str_ascii_iterator") || (o.cls==.type "zip") || (o.cls==.type "tuple_iterator") || (o.cls==.type "list_reverseiterator") || (o.cls==.type "generator")
 | _=>true
theorem Obj.loose_lobj {T:String} {o:Obj} {xs:List Value} (h:LObj T o xs):Obj.loose o=false:=by
 obtain ⟨_,_,⟨ep,hd⟩,_⟩:=h; unfold Obj.loose; rw [hd]
noncomputable def eK (X:Wd) (b:Addr) (o:Obj):Prop:=Obj.loose o=true∧(X.P b=false∨∃ vs,o.data=.fields vs)
noncomputable def bM (v:V):Bool:=@V.rec (fun _=>Bool) (fun _=>Bool) true (fun _=>true) (fun _=>true) (fun _=>true) (fun _=>true) (fun _=>true) (fun _=>true) (fun _=>false) (fun _ _=>false) (fun _ ih=>ih) (fun _ ih=>ih) (fun _=>false) (fun _ _ _=>false) true (fun _ _ ih=>ih) true (fun _ _ a b=>@Bool.rec (fun _=>Bool) false b a) v
noncomputable def aU (vs:List V):Bool:=@List.rec V (fun _=>Bool) true (fun v _ b=>@Bool.rec (fun _=>Bool) false b (bM v)) vs
theorem dp:∀ {vs:List V},@V.rec_1 (fun _=>Bool) (fun _=>Bool) true (fun _=>true) (fun _=>true) (fun _=>true) (fun _=>true) (fun _=>true) (fun _=>true) (fun _=>false) (fun _ _=>false) (fun _ ih=>ih) (fun _ ih=>ih) (fun _=>false) (fun _ _ _=>false) true (fun _ _ ih=>ih) true (fun _ _ a b=>@Bool.rec (fun _=>Bool) false b a) vs=aU vs
 | []=>rfl
 | v::r=>congrArg (fun b=>@Bool.rec (fun _=>Bool) false b (bM v)) (dp (vs:=r))
theorem q8 {vs:List V} (h:bM (.tup vs)=true):aU vs=true:=dp.symm.trans h
theorem q7 {vs:List V} (h:bM (.fro vs)=true):aU vs=true:=dp.symm.trans h
theorem q6 {C:Nat} {vs:List V} (h:bM (.fob C vs)=true):aU vs=true:=dp.symm.trans h
theorem d6 {v:V} {r:List V} (h:aU (v::r)=true):bM v=true∧aU r=true:=by
 have h:@Bool.rec (fun _=>Bool) false (aU r) (bM v)=true:=h
 cases q:bM v with
 | true=>rw [q] at h; exact ⟨rfl,h⟩
 | false=>rw [q] at h; first | exact nS h | exact nB h | cases h
section
variable {X X':Wd} {n n':Nat}
theorem RepV.map (hF:∀ a o,X.F a=some o→Obj.loose o=false→X'.F a=some o) (hD:∀ d od vals,X.F d=some od→X.P d=true→pi od vals→X'.F d=some od∧X'.P d=true)
  {v:V} {val:Value} (W:RepV X n v val):(bM v=true∨∀ l,l<n→l<n'∧X'.ρ l=X.ρ l)→RepV X' n' v val:=
 @RepV.rec X n (fun v val _=>(bM v=true∨∀ l,l<n→l<n'∧X'.ρ l=X.ρ l)→RepV X' n' v val) (fun vs vals _=>(aU vs=true∨∀ l,l<n→l<n'∧X'.ρ l=X.ρ l)→RepVs X' n' vs vals)
  (fun _=>.non) (fun b _=>.boo b) (fun i t _=>.int i t) (fun s t _=>.str s t) (fun s t _=>.byt s t) (fun T _=>.ty T) (fun a _=>.gl a)
  (fun l h p=>p.elim (fun p=>(LZ p).elim) fun q=>(q l h).2 ▸ .loc l (q l h).1)
  (fun C l a h o p=>p.elim (fun p=>(LZ p).elim) fun q=>.obj C l a (q l h).1 ((q l h).2.symm ▸ hF _ _ o rfl))
  (fun vs vals a o h ho _ ih p=>.tup vs vals a o (hF _ _ h (Obj.loose_lobj ho)) ho (ih (p.imp_left q8)))
  (fun vs vals a o h ho _ ih p=>.fro vs vals a o (hF _ _ h (Obj.loose_lobj ho)) ho (ih (p.imp_left q7)))
  (fun l a h o p=>p.elim (fun p=>(LZ p).elim) fun q=>.bm l a (q l h).1 ((q l h).2.symm ▸ hF _ _ o rfl))
  (fun f C l a b h o ob p=>p.elim (fun p=>(LZ p).elim) fun q=>.pm f C l a b (q l h).1 (hF _ _ o rfl) ((q l h).2.symm ▸ hF _ _ ob rfl))
  (fun a _=>.junk a)
  (fun C a d od vs vals h hd hP ho _ ih p=>.fob C a d od vs vals (hF _ _ h rfl) (hD _ _ _ hd hP ho).1 (hD _ _ _ hd hP ho).2 ho (ih (p.imp_left q6)))
  (fun _=>.nil)
  (fun _ _ h hs p=>.cons (h (p.imp_left fun e=>(d6 e).1)) (hs (p.imp_left fun e=>(d6 e).2))) v val W
theorem RepVs.imp {p:V→Prop} (f:∀ {v:V} {val:Value},RepV X n v val→p v→RepV X' n' v val):∀ {vs:List V} {vals:List Value},RepVs X n vs vals→(∀ v∈vs,p v)→RepVs X' n' vs vals:=by
 intro vs
 induction vs with
 | nil=>intro vals h _; cases h; exact .nil
 | cons v r ih=>intro vals h q; cases h with | cons a b=>exact .cons (f a (q v (LY ..))) (ih b fun u hu=>q u (LQ _ hu))
theorem jN:∀ {vs:List V},aU vs=true→∀ v∈vs,bM v=true
 | [],_,_,h=>nomatch h
 | _::_,h,_,.head _=>(d6 h).1
 | _::_,h,_,.tail _ m=>jN (d6 h).2 _ m
theorem RepV.mono (L:X.le n X') (hn:n≤n') {v:V} {val:Value} (W:RepV X n v val):RepV X' n' v val:=
 W.map (fun a o h _=>L.F a o h) (fun d od _ h hP _=>⟨L.F d od h,(L.P d od h).trans hP⟩) (.inr fun l h=>⟨Mi h hn,L.ρ l h⟩)
theorem RepVs.mono (L:X.le n X') (hn:n≤n') {vs:List V} {vals:List Value} (W:RepVs X n vs vals):RepVs X' n' vs vals:=W.imp (p:=fun _=>True) (fun a _=>a.mono L hn) fun _ _=>trivial
theorem RepV.pure (hF:∀ a o,X.F a=some o→X'.F a=some o) (hP:∀ a o,X.F a=some o→X'.P a=X.P a) {v:V} {val:Value} (W:RepV X n v val) (p:bM v=true):RepV X' n' v val:=
 W.map (fun a o h _=>hF a o h) (fun d od _ h hp _=>⟨hF d od h,(hP d od h).trans hp⟩) (.inl p)
theorem RepVs.pure (hF:∀ a o,X.F a=some o→X'.F a=some o) (hP:∀ a o,X.F a=some o→X'.P a=X.P a) {vs:List V} {vals:List Value} (W:RepVs X n vs vals) (p:aU vs=true):RepVs X' n' vs vals:=W.imp (fun a q=>a.pure hF hP q) (jN p)
theorem RepV.loc_at {l:Nat} {a:Addr} (h:l<n) (e:X.ρ l=a):RepV X n (.loc l) (.ref a):=e ▸ .loc l h
inductive AtTup (X:Wd) (n:Nat) (T:String) (vs:List V):Value→Prop
 | mk (vals:List Value) (a:Addr) (o:Obj) (h:X.F a=some o) (h1:LObj T o vals) (h2:RepVs X n vs vals):AtTup X n T vs (.ref a)
inductive AtFob (X:Wd) (n C:Nat) (vs:List V):Value→Prop
 | mk (a d:Addr) (od:Obj) (vals:List Value) (h:X.F a=some (instObj C d)) (hd:X.F d=some od) (hP:X.P d=true) (ho:pi od vals) (hs:RepVs X n vs vals):AtFob X n C vs (.ref a)
inductive AtBm (X:Wd) (n l:Nat):Value→Prop
 | mk (a:Addr) (h:l<n) (o:X.F a=some {cls:=.type "builtin_function_or_method",data:=.fields #[.builtin "list.append",.ref (X.ρ l)]}):AtBm X n l (.ref a)
inductive AtPm (X:Wd) (n f C l:Nat):Value→Prop
 | mk (a b:Addr) (h:l<n) (o:X.F a=some (methodObj (.ref f) (.ref b))) (ob:X.F b=some (instObj C (X.ρ l))):AtPm X n f C l (.ref a)
inductive AtOb (X:Wd) (n C l:Nat):Value→Prop
 | mk (a:Addr) (h:l<n) (o:X.F a=some (instObj C (X.ρ l))):AtOb X n C l (.ref a)
noncomputable def Hu (X:Wd) (n:Nat) (v:V) (w:Value):Prop:=match v with
 | .non=>w=.none
 | .boo b=>w=.bool b
 | .int i=>∃ t,w=.int i t
 | .str s=>∃ t,w=.str ⟨s.toArray⟩ t
 | .byt s=>∃ t,w=.bytes s.toArray t
 | .ty T=>w=.type T
 | .gl a=>w=.ref a
 | .loc l=>w=.ref (X.ρ l)
 | .tup vs=>AtTup X n "tuple" vs w
 | .fro vs=>AtTup X n "list" vs w
 | .bm l=>AtBm X n l w
 | .pm f C l=>AtPm X n f C l w
 | .obj C l=>AtOb X n C l w
 | .junk=>∃ a,w=.ref a
 | .fob C vs=>AtFob X n C vs w
theorem RepV.inv {v:V} {w:Value} (W:RepV X n v w):Hu X n v w:=
 @RepV.casesOn X n (fun v w _=>Hu X n v w) v w W rfl (fun _=>rfl) (fun _ t=>⟨t,rfl⟩) (fun _ t=>⟨t,rfl⟩) (fun _ t=>⟨t,rfl⟩) (fun _=>rfl) (fun _=>rfl) (fun _ _=>rfl)
  (fun _ _ a h o=>.mk a h o) (fun _ vals a o h h1 h2=>.mk vals a o h h1 h2) (fun _ vals a o h h1 h2=>.mk vals a o h h1 h2) (fun _ a h o=>.mk a h o) (fun _ _ _ a b h o ob=>.mk a b h o ob) (fun a=>⟨a,rfl⟩) (fun _ a d od _ vals h hd hP ho hs=>.mk a d od vals h hd hP ho hs)
theorem RepV.tupI {vs:List V} {w:Value} (W:RepV X n (.tup vs) w):AtTup X n "tuple" vs w:=W.inv
theorem RepV.froI {vs:List V} {w:Value} (W:RepV X n (.fro vs) w):AtTup X n "list" vs w:=W.inv
theorem bc {P:Prop} (h:¬P→False):P:=Classical.byContradiction h
theorem nS {α:Type} {a:α} {P:Prop} (h:none=some a):P:=nomatch h
theorem nB {P:Prop} (h:false=true):P:=nomatch h
noncomputable def bD (v:V) (k:Int→Prop):Prop:=match v with | .int i=>k i | _=>False
noncomputable def cE (v:V) (k:List Nat→Prop):Prop:=match v with | .str x=>k x | _=>False
noncomputable def uI (v:V) (k:List UInt8→Prop):Prop:=match v with | .byt x=>k x | _=>False
noncomputable def fW (v:V) (k:Nat→Prop):Prop:=match v with | .loc l=>k l | _=>False
noncomputable def v4 (v:V) (k:List V→Prop):Prop:=match v with | .tup vs=>k vs | _=>False
noncomputable def Ay (v:V) (k:List V→Prop):Prop:=match v with | .fro vs=>k vs | _=>False
noncomputable def mE (vs:List V) (k:V→Prop):Prop:=match vs with | [v]=>k v | _=>False
noncomputable def D6 (vs:List V) (k:V→V→Prop):Prop:=match vs with | [v,w]=>k v w | _=>False
noncomputable def IH (vs:List V) (k:V→V→V→Prop):Prop:=match vs with | [u,v,w]=>k u v w | _=>False
noncomputable def xC (v:V) (k:Nat→Prop):Prop:=match v with | .bm l=>k l | _=>False
noncomputable def D7 (v:V) (k:Nat→Nat→Nat→Prop):Prop:=match v with | .pm f C l=>k f C l | _=>False
noncomputable def Az (v:V) (k:Nat→Nat→Prop):Prop:=match v with | .obj C l=>k C l | _=>False
noncomputable def noS {α:Type} (o:Option α) (P:Prop):Prop:=match o with | none=>P | some _=>False
theorem noS.out {α:Type} {o:Option α} {P:Prop} (h:noS o P):o=none∧P:=by cases o with | none=>exact ⟨rfl,h⟩ | some _=>exact h.elim
noncomputable def onNil {α:Type} (l:List α) (P:Prop):Prop:=match l with | []=>P | _::_=>False
theorem onNil.out {α:Type} {l:List α} {P:Prop} (h:onNil l P):l=[]∧P:=by cases l with | nil=>exact ⟨rfl,h⟩ | cons=>exact h.elim
noncomputable def onT (b:Bool) (P:Prop):Prop:=match b with | true=>P | false=>False
noncomputable def onS {α:Type} (o:Option α) (k:α→Prop):Prop:=match o with | some x=>k x | none=>False
theorem onT.out {b:Bool} {P:Prop} (h:onT b P):b=true∧P:=by cases b with | true=>exact ⟨rfl,h⟩ | false=>exact h.elim
inductive Got {α:Type} (o:Option α) (k:α→Prop):Prop
 | mk (x:α) (e:o=some x) (h:k x):Got o k
theorem onS.out {α:Type} {o:Option α} {k:α→Prop} (h:onS o k):Got o k:=by cases o with | some x=>exact ⟨x,rfl,h⟩ | none=>exact h.elim
section
variable {v:V} {w:Value} {M:Value→Prop}
@[elab_as_elim] theorem RepV.int_ (W:RepV X n v w) {k:Int→Prop} (h:bD v k) (H:∀ i t,k i→M (.int i t)):M w:=by
 cases v with
 | int i=>obtain ⟨t,rfl⟩:=W.inv; exact H _ _ h
 | _=>exact h.elim
@[elab_as_elim] theorem RepV.str_ (W:RepV X n v w) {k:List Nat→Prop} (h:cE v k) (H:∀ x t,k x→M (.str ⟨x.toArray⟩ t)):M w:=by
 cases v with
 | str i=>obtain ⟨t,rfl⟩:=W.inv; exact H _ _ h
 | _=>exact h.elim
@[elab_as_elim] theorem RepV.byt_ (W:RepV X n v w) {k:List UInt8→Prop} (h:uI v k) (H:∀ x t,k x→M (.bytes x.toArray t)):M w:=by
 cases v with
 | byt i=>obtain ⟨t,rfl⟩:=W.inv; exact H _ _ h
 | _=>exact h.elim
@[elab_as_elim] theorem RepV.tup_ (W:RepV X n v w) {k:List V→Prop} (h:v4 v k) (H:∀ vs vals a o,X.F a=some o→LObj "tuple" o vals→RepVs X n vs vals→k vs→M (.ref a)):M w:=by
 cases v with
 | tup vs=>cases W.tupI with | mk vals a o h1 h2 h3=>exact H _ _ _ _ h1 h2 h3 h
 | _=>exact h.elim
@[elab_as_elim] theorem RepV.fro_ (W:RepV X n v w) {k:List V→Prop} (h:Ay v k) (H:∀ vs vals a o,X.F a=some o→LObj "list" o vals→RepVs X n vs vals→k vs→M (.ref a)):M w:=by
 cases v with
 | fro vs=>cases W.froI with | mk vals a o h1 h2 h3=>exact H _ _ _ _ h1 h2 h3 h
 | _=>exact h.elim
@[elab_as_elim] theorem RepV.bm_ (W:RepV X n v w) {k:Nat→Prop} (h:xC v k) (H:∀ l a,l<n→X.F a=some {cls:=.type "builtin_function_or_method",data:=.fields #[.builtin "list.append",.ref (X.ρ l)]}→k l→M (.ref a)):M w:=by
 cases v with
 | bm l=>cases (W.inv:AtBm X n l w) with | mk a h1 h2=>exact H _ _ h1 h2 h
 | _=>exact h.elim
@[elab_as_elim] theorem RepV.pm_ (W:RepV X n v w) {k:Nat→Nat→Nat→Prop} (h:D7 v k) (H:∀ f C l a b,l<n→X.F a=some (methodObj (.ref f) (.ref b))→X.F b=some (instObj C (X.ρ l))→k f C l→M (.ref a)):M w:=by
 cases v with
 | pm f C l=>cases (W.inv:AtPm X n f C l w) with | mk a b h1 h2 h3=>exact H _ _ _ _ _ h1 h2 h3 h
 | _=>exact h.elim
@[elab_as_elim] theorem RepV.loc_ (W:RepV X n v w) {k:Nat→Prop} (h:fW v k) (H:∀ l,k l→M (.ref (X.ρ l))):M w:=by
 cases v with
 | loc l=>cases (W.inv:w=.ref (X.ρ l)); exact H _ h
 | _=>exact h.elim
@[elab_as_elim] theorem RepVs.on1_ {vs:List V} {vals:List Value} {M:List Value→Prop} (W:RepVs X n vs vals) {k:V→Prop} (h:mE vs k) (H:∀ v val,RepV X n v val→k v→M [val]):M vals:=by
 cases W with
 | nil=>exact h.elim
 | cons a b=>cases b with
  | nil=>exact H _ _ a h
  | cons=>exact h.elim
@[elab_as_elim] theorem RepVs.on2_ {vs:List V} {vals:List Value} {M:List Value→Prop} (W:RepVs X n vs vals) {k:V→V→Prop} (h:D6 vs k) (H:∀ v w val val',RepV X n v val→RepV X n w val'→k v w→M [val,val']):M vals:=by
 cases W with
 | nil=>exact h.elim
 | cons a b=>cases b with
  | nil=>exact h.elim
  | cons b c=>cases c with
   | nil=>exact H _ _ _ _ a b h
   | cons=>exact h.elim
@[elab_as_elim] theorem RepVs.on3_ {vs:List V} {vals:List Value} {M:List Value→Prop} (W:RepVs X n vs vals) {k:V→V→V→Prop} (h:IH vs k) (H:∀ u v w val val' val'',RepV X n u val→RepV X n v val'→RepV X n w val''→k u v w→M [val,val',val'']):M vals:=by
 cases W with
 | nil=>exact h.elim
 | cons a b=>cases b with
  | nil=>exact h.elim
  | cons b c=>cases c with
   | nil=>exact h.elim
   | cons c d=>cases d with
    | nil=>exact H _ _ _ _ _ _ a b c h
    | cons=>exact h.elim
end
end
noncomputable def Wd.drop (X:Wd) (S:List Addr):Wd:={X with F:=fun a=>if a∈S then none else X.F a}
noncomputable def Wd.frz (X:Wd) (S:List Addr) (h:Heap):Wd:={X with F:=fun a=>if a∈S then h.get? a else X.F a,P:=fun a=>if a∈S then false else X.P a}
section
variable {X:Wd} {n:Nat} {S:List Addr}
theorem Wd.drop_F {a:Addr} {o:Obj} (hS:∀ b∈S,∀ o,X.F b=some o→eK X b o) (h:X.F a=some o) (hl:Obj.loose o=false):(X.drop S).F a=some o:=by
 show (if a∈S then none else X.F a)=_
 by_cases q:a∈S
 ·rw [(hS a q o h).1] at hl; cases hl
 ·rw [LU q]; exact h
theorem Wd.drop_P {d:Addr} {od:Obj} {vals:List Value} (hS:∀ b∈S,∀ o,X.F b=some o→eK X b o) (h:X.F d=some od) (hP:X.P d=true) (ho:pi od vals):(X.drop S).F d=some od:=by
 show (if d∈S then none else X.F d)=_
 by_cases q:d∈S
 ·rcases (hS d q od h).2 with z | ⟨vs,z⟩
  ·rw [hP] at z; cases z
  ·obtain ⟨es,ep,m,e,_⟩:=ho; rw [e] at z; cases z
 ·rw [LU q]; exact h
theorem RepV.drop (hS:∀ b∈S,∀ o,X.F b=some o→eK X b o) {v:V} {val:Value} (W:RepV X n v val):RepV (X.drop S) n v val:=
 W.map (fun a o h hl=>Wd.drop_F hS h hl) (fun d od vals h hP ho=>⟨Wd.drop_P hS h hP ho,hP⟩) (.inr fun l h=>⟨h,rfl⟩)
end
structure Glob where
 prog:Program
 w:World
 K:Frag
 hb:Heap
 T:Addr
 mb:Str→Option Value
 an:List Str
 os:OsState
 drawn:Drawn
 TbOk:(Addr→Option Obj)→Array Value→Prop
 Gn:Array GenState→Prop
 Hp:Addr→Option Obj
structure Glob.Ok (G:Glob):Prop where
 K:G.K.In G.hb
 KT:G.K.lookup G.T=none
 nolimit:G.hb.NoLimit
 T1:G.T≠cStatics
 T2:G.T≠builtinsNs
 T3:G.T≠mainGlobals
 b:G.hb.Ns builtinsNs G.mb
 main:∃ o,G.hb.get? mainGlobals=some o
 boot:∀ x:Str,x≠"__name__"→G.mb x=bootBuiltins x
 tbmono:∀ F F' ps,(∀ a o,F a=some o→Obj.loose o=false→F' a=some o)→G.TbOk F ps→G.TbOk F' ps
 annd:G.an.Nodup
 anlen:G.an.length≤1000
 ws:∀ (i:Nat) (x:Str),cD[i]?=some x→G.an[i]?=some x
 lam:∃ mg,G.hb.Ns mainGlobals mg∧G.hb.BuiltinsAt mg G.T
noncomputable def zG (ps:Array Value):Obj:={cls:=.none,data:=.fields ps}
noncomputable def AttrsAre (G:Glob) (X:Wd) (n:Nat) (at_:List (Nat×V)) (m:Str→Option Value):Prop:=
 ∀ i x,G.an[i]?=some x→match aq i at_ with
  | some v=>∃ val,m x=some val∧RepV X n v val
  | none=>m x=none
noncomputable def PairsAre (X:Wd) (n:Nat):List (List Nat×V)→List (Str×Value)→Prop
 | [],[]=>True
 | (k,v)::r,(x,val)::r'=>x=⟨k.toArray⟩∧RepV X n v val∧PairsAre X n r r'
 | _,_=>False
noncomputable def Bd (w:World) (k:Option (List Nat)) (o:Obj):Prop:=match k with
 | none=>o={cls:=.type "set",dict:=none,data:=.set #[] 0 (.fresh 0 0 (!w.params.followText "set-order"))}
 | some k=>o.ExactSet∧∃ (hs:Int) (tk:Tok) (ep:Nat) (t:SetTable),o.data=.set #[(hs,.str ⟨k.toArray⟩ tk)] ep t∧t.fits 1=true∧t.led=(!w.params.followText "set-order")∧t.tooFull=false
noncomputable def RepO (G:Glob) (X:Wd) (n:Nat) (h:Heap) (a:Addr):AO→Prop
 | .list vs=>∃ o vals,h.get? a=some o∧LObj "list" o vals∧RepVs X n vs vals
 | .ns at_=>∃ m,h.Ns1 a m∧Within m G.an∧AttrsAre G X n at_ m
 | .dict kvs=>∃ kvals,h.DictOf (strKind G.prog G.w) a kvals∧PairsAre X n kvs kvals
 | .set ks=>∃ S,h.SetOf (strKind G.prog G.w) a S ks.length∧∀ x:Str,S x=ks.contains x.cps.toList
 | .cold=>h.get? a=some {cls:=.type "list",data:=.seq #[] 1}
 | .set1 k=>∃ o,h.get? a=some o∧Bd G.w k o
 | .wds ss=>∃ o vals,h.get? a=some o∧LObj "list" o vals∧RepVs X n (ss.map V.str) vals
 | .own=>∃ x y:Value,h.get? a=some {cls:=.type "tuple",data:=.seq #[x,y]}
structure LocOk (G:Glob) (X:Wd) (n:Nat) (st:List (Nat×AO)) (env:Env) (lo:List (Nat×V)) (h:Heap):Prop where
 ns:∃ (m cm:Str→Option Value),h.Ns env.locals m∧(∀ x c,env.cells.lookup x=some c→h.IsCell c (cm x)) ∧
  ∀ i v,aq i lo=some v→∃ x k val,env.scope.names[i]?=some (x,k)∧RepV X n v val ∧
   ((k=.local∧m x=some val)∨((k=.cell∨k=.free)∧(env.cells.lookup x).isSome=true∧cm x=some val))
 freeL:X.F env.locals=none∧(∀ l o,aq l st=some o→X.ρ l≠env.locals)∧env.locals≠G.T
 freeC:env.frame=some env.locals→∀ x c,env.cells.lookup x=some c→X.F c=none∧(∀ l o,aq l st=some o→X.ρ l≠c)∧c≠env.locals∧c≠G.T
 frzC:env.frame≠some env.locals→∀ x c,env.cells.lookup x=some c→∃ o,X.F c=some o
 apart:env.cells.Pairwise fun x y=>x.2≠y.2
noncomputable def A9 (G:Glob) (X:Wd) (st:List (Nat×AO)) (env:Env) (h:Heap):Prop:=∀ a o,G.Hp a=some o→h.get? a=some o∧X.F a=none∧(∀ l o',aq l st=some o'→X.ρ l≠a)∧a≠env.locals∧(∀ x c,env.cells.lookup x=some c→c≠a)∧a≠G.T
structure Rel (G:Glob) (X:Wd) (env:Env) (σ:St) (s:Shared):Prop where
 sub:∀ a o,X.F a=some o→s.heap.get? a=some o
 base:∀ a o,G.hb.get? a=some o→a≠G.T→X.F a=some o
 own:∀ l o,aq l σ.st=some o→X.F (X.ρ l)=none∧X.ρ l≠G.T
 inj:∀ l l' o o',aq l σ.st=some o→aq l' σ.st=some o'→X.ρ l=X.ρ l'→l=l'
 big:∀ l o,aq l σ.st=some o→mainGlobals<X.ρ l
 st:∀ l o,aq l σ.st=some o→l<σ.nx∧RepO G X σ.nx s.heap (X.ρ l) o
 tab:s.heap.get? G.T=some (zG X.tb)∧X.F G.T=none∧G.TbOk X.F X.tb
 loc:LocOk G X σ.nx σ.st env σ.lo s.heap
 os:s.os=G.os
 drawn:s.drawn=G.drawn
 gens:G.Gn s.gens
 hp:A9 G X σ.st env s.heap
inductive Post (G:Glob) (X:Wd) (env:Env) (n:Nat) (Q:V→St→Prop) (val:Value) (s':Shared):Prop
 | mk (v:V) (σ':St) (X':Wd) (q:Q v σ') (L:X.le n X') (hn:n≤σ'.nx) (R:Rel G X' env σ' s') (W:RepV X' σ'.nx v val)
inductive PostT (G:Glob) (X:Wd) (env:Env) (n:Nat) (Q:St→Prop) {α:Type} (u:α) (s':Shared):Prop
 | mk (σ':St) (X':Wd) (q:Q σ') (L:X.le n X') (hn:n≤σ'.nx) (R:Rel G X' env σ' s')
structure AOk (lv:Nat) (A:Around):Prop where
 handled:A.handled=none
 depth:A.depth+4*lv+8<recursionLimit
 units:A.units+64*lv+64<cLine
theorem AOk.room {lv:Nat} {A:Around} (h:AOk lv A):A.depth<recursionLimit:=Mv (LN (Nat.le_add_right _ (4*lv)) (Nat.le_add_right _ 8)) h.depth
theorem AU {d a k l c:Nat} (h:a≤k):d+a+k*l+c≤d+k*(l+1)+c:=by
 rw [Nat.mul_succ,Nat.add_assoc d,Nat.add_comm a]; exact Nat.add_le_add_right (Nat.add_le_add_left (Nat.add_le_add_left h _) _) _
theorem AOk.up {lv:Nat} (a b:Nat) {A A':Around} (h:AOk (lv+1) A) (e0:A'.handled=A.handled) (e1:A'.depth=A.depth+a) (e2:A'.units=A.units+b) (ha:a≤4) (hb:b≤64):AOk lv A':=
 ⟨e0.trans h.handled,e1 ▸ Mv (AU ha) h.depth,e2 ▸ Mv (AU hb) h.units⟩
structure Sc where
 names:List (Str×NameKind)
 fn:Bool
 code:Nat
 qual:Str
structure EOk (sc:Sc) (env:Env):Prop where
 names:env.scope.names=sc.names
 kind:env.scope.kind=.function
 globals:env.globals=mainGlobals
 builtins:env.builtins=builtinsNs
 nd:(sc.names.map (·.1)).Nodup
 fn:sc.fn=true→env.frame=some env.locals
 hasC:∀ x,sc.names.lookup x=some .cell→(env.cells.lookup x).isSome=true
 code:sc.code≠0→env.code=.ref sc.code∧env.qual=sc.qual
noncomputable abbrev DE:=St→(V→St→Prop)→Prop
noncomputable def SE (G:Glob) (lv:Nat) (sc:Sc) (e:PySem.Expr) (d:DE):Prop:=∀ σ Q,d σ Q→∀ A env X s,AOk lv A→EOk sc env→Rel G X env σ s →
 wpAny (model G.prog G.w) A (eval e env) (Post G X env σ.nx Q) (fun _ _=>False) s
noncomputable abbrev DB:=St→(Bool→St→Prop)→Prop
noncomputable abbrev PostB (G:Glob) (X:Wd) (env:Env) (n:Nat) (Q:Bool→St→Prop) (b:Bool) (s':Shared):Prop:=PostT G X env n (Q b) b s'
noncomputable def SB (G:Glob) (lv:Nat) (sc:Sc) (e:PySem.Expr) (d:DB):Prop:=∀ σ Q,d σ Q→∀ A env X s,AOk lv A→EOk sc env→Rel G X env σ s →
 wpAny (model G.prog G.w) A (isTrue e env (eval e env)) (PostB G X env σ.nx Q) (fun _ _=>False) s
inductive Fl where
 | next | brk | cont | ret (v:V)
inductive RepF (X:Wd) (n:Nat):Fl→Flow→Prop
 | next:RepF X n .next .next
 | brk:RepF X n .brk .brk
 | cont:RepF X n .cont .cont
 | ret (v:V) (val:Value) (h:RepV X n v val):RepF X n (.ret v) (.ret val)
noncomputable abbrev DS:=St→(Fl→St→Prop)→Prop
inductive PostS (G:Glob) (X:Wd) (env:Env) (n:Nat) (Q:Fl→St→Prop) (f:Flow) (s':Shared):Prop
 | mk (fl:Fl) (σ':St) (X':Wd) (q:Q fl σ') (L:X.le n X') (hn:n≤σ'.nx) (R:Rel G X' env σ' s') (W:RepF X' σ'.nx fl f)
noncomputable def SS (G:Glob) (lv:Nat) (sc:Sc) (b:PySem.Stmt) (d:DS):Prop:=∀ σ Q,d σ Q→∀ A env X s,AOk lv A→EOk sc env→Rel G X env σ s →
 wpAny (model G.prog G.w) A (exec b env) (PostS G X env σ.nx Q) (fun _ _=>False) s
noncomputable def iQ (G:Glob) (lv:Nat) (sc:Sc) (b:List PySem.Stmt) (d:DS):Prop:=∀ σ Q,d σ Q→∀ A env X s,AOk lv A→EOk sc env→Rel G X env σ s →
 wpAny (model G.prog G.w) A (execs b env) (PostS G X env σ.nx Q) (fun _ _=>False) s
variable {G:Glob} {X X' X0 X1 X2:Wd} {env env':Env} {σ σ' σ1 σ2:St} {s s' s1 s2:Shared} {n n' n0:Nat} {lv lv':Nat} {sc sc':Sc} {A:Around} {S:List Addr} {tg tg':Bool}
theorem AttrsAre.imp {m:Str→Option Value} {n':Nat} {at_:List (Nat×V)} (f:∀ {v:V} {val:Value},RepV X n v val→RepV X' n' v val) (h:AttrsAre G X n at_ m):AttrsAre G X' n' at_ m:=by
 intro i x hx
 have:=h i x hx
 cases q:aq i at_ with
 | none=>rw [q] at this; exact this
 | some v=>rw [q] at this; exact this.imp fun val w=>⟨w.1,f w.2⟩
theorem PairsAre.imp {n':Nat} (f:∀ {v:V} {val:Value},RepV X n v val→RepV X' n' v val) {kvs:List (List Nat×V)}:∀ {kvals:List (Str×Value)},PairsAre X n kvs kvals→PairsAre X' n' kvs kvals:=by
 induction kvs with
 | nil=>intro kvals h; cases kvals with | nil=>exact h | cons=>exact h.elim
 | cons a r ih=>intro kvals h; cases kvals with | nil=>exact h.elim | cons=>exact ⟨h.1,f h.2.1,ih h.2.2⟩
theorem sR {prog:Program} {w:World} {h h':Heap} {a:Addr} {kvs:List (Str×Value)} (x:h.DictOf (strKind prog w) a kvs) (e:h'.get? a=h.get? a):h'.DictOf (strKind prog w) a kvs:=
 let ⟨o,es,ep,ho,r⟩:=x; ⟨o,es,ep,e.trans ho,r⟩
theorem zC {prog:Program} {w:World} {h h':Heap} {a:Addr} {S:Str→Bool} {n:Nat} (x:h.SetOf (strKind prog w) a S n) (e:h'.get? a=h.get? a):h'.SetOf (strKind prog w) a S n:=
 let ⟨o,es,ep,t,ho,r⟩:=x; ⟨o,es,ep,t,e.trans ho,r⟩
theorem ij {h h':Heap} {a:Addr} {m:Str→Option Value} (x:h.Ns a m) (e:h'.get? a=h.get? a):h'.Ns a m:=
 let ⟨o,es,ep,ho,r⟩:=x; ⟨o,es,ep,e.trans ho,r⟩
theorem xz {h h':Heap} {a:Addr} {m:Str→Option Value} (x:h.Ns1 a m) (e:h'.get? a=h.get? a):h'.Ns1 a m:=x.at fun o z=>e.trans z
theorem RepO.imp {h h':Heap} {a:Addr} {o:AO} {n':Nat} (f:∀ {v:V} {val:Value},RepV X n v val→RepV X' n' v val) (r:RepO G X n h a o) (e:h'.get? a=h.get? a):RepO G X' n' h' a o:=by
 have fs:∀ {vs:List V} {vals:List Value},RepVs X n vs vals→RepVs X' n' vs vals:=fun w=>w.imp (p:=fun _=>True) (fun a _=>f a) fun _ _=>trivial
 cases o with
 | list vs=>obtain ⟨o,vals,h1,h2,h3⟩:=r; exact ⟨o,vals,e.trans h1,h2,fs h3⟩
 | ns at_=>obtain ⟨m,h1,h1',h2⟩:=r; exact ⟨m,xz h1 e,h1',h2.imp f⟩
 | dict kvs=>obtain ⟨kvals,h1,h2⟩:=r; exact ⟨kvals,sR h1 e,h2.imp f⟩
 | set ks=>obtain ⟨S,h1,h2⟩:=r; exact ⟨S,zC h1 e,h2⟩
 | cold=>exact e.trans r
 | set1 k=>obtain ⟨ob,h1,h2⟩:=r; exact ⟨ob,e.trans h1,h2⟩
 | wds ss=>obtain ⟨o,vals,h1,h2,h3⟩:=r; exact ⟨o,vals,e.trans h1,h2,fs h3⟩
 | own=>obtain ⟨x,y,h1⟩:=r; exact ⟨x,y,e.trans h1⟩
theorem RepO.go {h h':Heap} {a:Addr} {o:AO} {n':Nat} (r:RepO G X n h a o) (L:X.le n X') (hn:n≤n') (e:h'.get? a=h.get? a):RepO G X' n' h' a o:=r.imp (fun w=>w.mono L hn) e
theorem RepO.there {h:Heap} {a:Addr} {o:AO} (r:RepO G X n h a o):∃ ob,h.get? a=some ob:=by
 cases o with
 | list vs=>obtain ⟨o,vals,h1,h2,h3⟩:=r; exact ⟨o,h1⟩
 | ns at_=>obtain ⟨m,h1,_,h2⟩:=r; obtain ⟨o,_,_,h1,_⟩:=h1.ns; exact ⟨o,h1⟩
 | dict kvs=>obtain ⟨kvals,⟨o,_,_,h1,_⟩,h2⟩:=r; exact ⟨o,h1⟩
 | set ks=>obtain ⟨S,⟨o,_,_,_,h1,_⟩,h2⟩:=r; exact ⟨o,h1⟩
 | cold=>exact ⟨_,r⟩
 | set1 k=>obtain ⟨ob,h1,h2⟩:=r; exact ⟨ob,h1⟩
 | wds ss=>obtain ⟨o,vals,h1,h2,h3⟩:=r; exact ⟨o,h1⟩
 | own=>obtain ⟨x,y,h1⟩:=r; exact ⟨_,h1⟩
theorem fg {h h':Heap} {a:Addr} {o:Obj} (k:∀ b o,h.get? b=some o→h'.get? b=some o) (e:h.get? a=some o):h'.get? a=h.get? a:=(k a o e).trans e.symm
theorem LocOk.go {lo:List (Nat×V)} {st st':List (Nat×AO)} {h h':Heap} {n':Nat} (r:LocOk G X n st env lo h) (L:X.le n X') (hn:n≤n')
  (eL:h'.get? env.locals=h.get? env.locals) (eC:∀ x c,env.cells.lookup x=some c→h'.get? c=h.get? c)
  (fL:X'.F env.locals=none∧(∀ l o,aq l st'=some o→X'.ρ l≠env.locals))
  (fC:env.frame=some env.locals→∀ x c,env.cells.lookup x=some c→X'.F c=none∧(∀ l o,aq l st'=some o→X'.ρ l≠c)):LocOk G X' n' st' env lo h':=by
 apply bc;intro z_
 obtain ⟨⟨m,cm,h1,h2,h3⟩,h4,h5,h6,h7⟩:=r
 apply z_;clear z_
 refine ⟨⟨m,cm,ij h1 eL,fun x c hc=>?_,fun i v hv=>?_⟩,⟨fL.1,fL.2,h4.2.2⟩,fun w x c b=>⟨(fC w x c b).1,(fC w x c b).2,(h5 w x c b).2.2⟩,fun w x c b=>let ⟨o,z⟩:=h6 w x c b; ⟨o,L.F _ _ z⟩,h7⟩
 ·obtain ⟨o,ho,hd⟩:=h2 x c hc; exact ⟨o,(eC x c hc).trans ho,hd⟩
 ·obtain ⟨x,k,val,a,b,c⟩:=h3 i v hv; exact ⟨x,k,val,a,b.mono L hn,c⟩
theorem LocOk.ltL {lo:List (Nat×V)} {st:List (Nat×AO)} {h:Heap} (r:LocOk G X n st env lo h):∃ o,h.get? env.locals=some o:=by obtain ⟨_,_,⟨o,_,_,ho,_⟩,_⟩:=r.ns; exact ⟨o,ho⟩
theorem LocOk.ltC {lo:List (Nat×V)} {st:List (Nat×AO)} {h:Heap} (r:LocOk G X n st env lo h) {x:Str} {c:Addr} (e:env.cells.lookup x=some c):∃ o,h.get? c=some o:=by obtain ⟨_,_,_,h2,_⟩:=r.ns; obtain ⟨o,ho,_⟩:=h2 x c e; exact ⟨o,ho⟩
theorem Rel.keeps (R:Rel G X env σ s) (k:∀ b o,s.heap.get? b=some o→s'.heap.get? b=some o) (ho:s'.os=s.os) (hd:s'.drawn=s.drawn) (hg:G.Gn s'.gens):Rel G X env σ s':=by
 apply bc;intro z_
 obtain ⟨h1,h2,h3,h4,hb,h5,h6,h7,h8,h9,h10,h11⟩:=R
 apply z_;clear z_
 refine ⟨fun a o e=>k _ _ (h1 a o e),h2,h3,h4,hb,fun l o e=>⟨(h5 l o e).1,?_⟩,⟨k _ _ h6.1,h6.2⟩,?_,ho.trans h8,hd.trans h9,hg,fun a o e=>let ⟨z,r⟩:=h11 a o e; ⟨k _ _ z,r⟩⟩
 ·apply bc;intro z_
  obtain ⟨ob,z⟩:=(h5 l o e).2.there
  apply z_;clear z_
  exact (h5 l o e).2.go .refl (LR _) (fg k z)
 ·apply bc;intro z_
  obtain ⟨oL,zL⟩:=h7.ltL
  apply z_;clear z_
  exact h7.go .refl (LR _) (fg k zL) (fun x c e=>let ⟨o,z⟩:=h7.ltC e; fg k z) ⟨h7.freeL.1,h7.freeL.2.1⟩ (fun w x c b=>⟨(h7.freeC w x c b).1,(h7.freeC w x c b).2.1⟩)
theorem Rel.toks (R:Rel G X env σ s) (t:Nat):Rel G X env σ {s with toks:=t}:=R.keeps (fun _ _ e=>e) rfl rfl R.gens
theorem Rel.heap (R:Rel G X env σ s) {h':Heap} {t:Nat} (k:∀ b o,s.heap.get? b=some o→h'.get? b=some o):Rel G X env σ {s with heap:=h',toks:=t}:=R.keeps k rfl rfl R.gens
theorem Rel.push (R:Rel G X env σ s) (o:Obj) (t:Nat):Rel G X env σ {s with heap:=s.heap.push o,toks:=t}:=R.heap fun _ _ e=>LM o e
theorem Rel.K (R:Rel G X env σ s) (ok:G.Ok):G.K.In s.heap:=fun a o e=>by
 refine R.sub _ _ (R.base a o (ok.K a o e) fun q=>?_)
 rw [q,ok.KT] at e; cases e
theorem Rel.nolimit (R:Rel G X env σ s) (ok:G.Ok):s.heap.NoLimit:=by
 apply bc;intro z_
 obtain ⟨mc,⟨o,es,ep,ho,r⟩,q⟩:=ok.nolimit
 apply z_;clear z_
 exact ⟨mc,⟨o,es,ep,R.sub _ _ (R.base _ _ ho ok.T1.symm),r⟩,q⟩
theorem Rel.bns (R:Rel G X env σ s) (ok:G.Ok):s.heap.Ns builtinsNs G.mb:=by
 apply bc;intro z_
 obtain ⟨o,es,ep,ho,r⟩:=ok.b
 apply z_;clear z_
 exact ⟨o,es,ep,R.sub _ _ (R.base _ _ ho ok.T2.symm),r⟩
theorem Rel.size (R:Rel G X env σ s) (ok:G.Ok):mainGlobals<s.heap.objs.size:=by
 obtain ⟨o,ho⟩:=ok.main
 exact L7 (R.sub _ _ (R.base _ _ ho ok.T3.symm))
theorem Rel.there (R:Rel G X env σ s) {l:Nat} {o:AO} (e:aq l σ.st=some o):∃ ob,s.heap.get? (X.ρ l)=some ob:=(R.st l o e).2.there
theorem Rel.still (R:Rel G X env σ s) {a:Addr} {o:Obj} (ha:s.heap.get? a=none) (k:∀ b o,s.heap.get? b=some o→s'.heap.get? b=some o) (ho:s'.heap.get? a=some o)
  (hos:s'.os=s.os) (hd:s'.drawn=s.drawn) (hg:G.Gn s'.gens) (ok:G.Ok) :
  Rel G {X with F:=fun b=>if b=a then some o else X.F b} env σ s'∧X.le σ.nx {X with F:=fun b=>if b=a then some o else X.F b}:=by
 have ne:∀ {b:Addr} {ob:Obj},s.heap.get? b=some ob→b≠a:=fun e q=>by rw [q,ha] at e; cases e
 have L:X.le σ.nx {X with F:=fun b=>if b=a then some o else X.F b}:=⟨fun _ _=>rfl,fun b ob e=>by
  show (if b=a then some o else X.F b)=_
  rw [LU (ne (R.sub _ _ e))]; exact e,fun _ _ _=>rfl⟩
 have R':=R.keeps k hos hd hg
 apply bc;intro z_
 obtain ⟨h1,h2,h3,h4,hb,h5,h6,h7,h8,h9,h10,h11⟩:=R'
 apply z_;clear z_
 refine ⟨⟨fun b ob e=>?_,fun b ob e q=>L.F _ _ (h2 b ob e q),fun l ol hl=>⟨?_,(h3 l ol hl).2⟩,h4,hb,fun l ob e=>⟨(h5 l ob e).1,(h5 l ob e).2.go L (LR _) rfl⟩,⟨h6.1,?_,ok.tbmono _ _ _ (fun b ob e _=>L.F _ _ e) h6.2.2⟩,?_,h8,h9,h10,fun b ob e=>let ⟨z1,z2,r⟩:=h11 b ob e; ⟨z1,(LU (ne (R.hp b ob e).1)).trans z2,r⟩⟩,L⟩
 ·by_cases q:b=a
  ·have:(if b=a then some o else X.F b)=some ob:=e
   rw [LV q] at this; rw [q]; rw [← this]; exact ho
  ·have:(if b=a then some o else X.F b)=some ob:=e
   rw [LU q] at this; exact h1 _ _ this
 ·show (if X.ρ l=a then some o else X.F (X.ρ l))=none
  apply bc;intro z_
  obtain ⟨ob,z⟩:=R.there hl
  apply z_;clear z_
  rw [LU (ne z)]; exact (h3 l ol hl).1
 ·show (if G.T=a then some o else X.F G.T)=none
  rw [LU (ne R.tab.1)]; exact h6.2.1
 ·refine h7.go L (LR _) rfl (fun _ _ _=>rfl) ⟨?_,h7.freeL.2.1⟩ (fun w x c q=>⟨?_,(h7.freeC w x c q).2.1⟩)
  ·show (if env.locals=a then some o else X.F env.locals)=none
   apply bc;intro z_
   obtain ⟨oL,zL⟩:=R.loc.ltL
   apply z_;clear z_
   rw [LU (ne zL)]; exact h7.freeL.1
  ·show (if c=a then some o else X.F c)=none
   apply bc;intro z_
   obtain ⟨oL,zL⟩:=R.loc.ltC q
   apply z_;clear z_
   rw [LU (ne zL)]; exact (h7.freeC w x c q).1
theorem Rel.anew (R:Rel G X env σ s) {a:Addr} {o:AO} (ha:s.heap.get? a=none) (hbig:mainGlobals<a) (k:∀ b o,s.heap.get? b=some o→s'.heap.get? b=some o)
  (ho:∀ X',X.le σ.nx X'→RepO G X' (σ.nx+1) s'.heap a o)
  (hos:s'.os=s.os) (hd:s'.drawn=s.drawn) (hg:G.Gn s'.gens) :
  Rel G {X with ρ:=fun l=>if l=σ.nx then a else X.ρ l} env {σ with st:=(σ.nx,o)::σ.st,nx:=σ.nx+1} s'∧X.le σ.nx {X with ρ:=fun l=>if l=σ.nx then a else X.ρ l}:=by
 have ne:∀ {b:Addr} {ob:Obj},s.heap.get? b=some ob→b≠a:=fun e q=>by rw [q,ha] at e; cases e
 have L:X.le σ.nx {X with ρ:=fun l=>if l=σ.nx then a else X.ρ l}:=⟨fun l hl=>LU (Ms hl),fun _ _ e=>e,fun _ _ _=>rfl⟩
 have Fa:X.F a=none:=by
  cases q:X.F a with
  | none=>rfl
  | some ob=>exact absurd rfl (ne (R.sub _ _ q))
 have R':=R.keeps k hos hd hg
 apply bc;intro z_
 obtain ⟨h1,h2,h3,h4,hb,h5,h6,h7,h8,h9,h10,h11⟩:=R'
 apply z_;clear z_
 have ho':=ho _ L
 have own':∀ l ol,aq l σ.st=some ol→X.ρ l≠a:=fun l ol hl=>let ⟨ob,z⟩:=R.there hl; ne z
 have cs:∀ {l:Nat} {ol:AO},aq l ((σ.nx,o)::σ.st)=some ol→(l=σ.nx∧ol=o)∨(l≠σ.nx∧aq l σ.st=some ol):=fun {l ol} e=>by
  rw [ax] at e
  by_cases q:l=σ.nx
  ·rw [LV q] at e; cases e; exact .inl ⟨q,rfl⟩
  ·rw [LU q] at e; exact .inr ⟨q,e⟩
 refine ⟨⟨h1,h2,fun l ol hl=>?_,fun l l' ol ol' hl hl'=>?_,fun l ol hl=>?_,fun l ob e=>?_,h6,?_,h8,h9,h10,fun b ob e=>let ⟨z1,z2,z3,r⟩:=h11 b ob e; ⟨z1,z2,fun l ol hl=>?_,r⟩⟩,L⟩
 ·show X.F (if l=σ.nx then a else X.ρ l)=none∧(if l=σ.nx then a else X.ρ l)≠G.T
  rcases cs hl with ⟨q,_⟩ | ⟨q,hl⟩
  ·rw [LV q]; exact ⟨Fa,fun z=>ne R.tab.1 z.symm⟩
  ·rw [LU q]; exact h3 l ol hl
 ·show (if l=σ.nx then a else X.ρ l)=(if l'=σ.nx then a else X.ρ l')→l=l'
  rcases cs hl with ⟨q,_⟩ | ⟨q,hl⟩ <;> rcases cs hl' with ⟨q',_⟩ | ⟨q',hl'⟩
  ·intro _; rw [q,q']
  ·rw [LV q,LU q']; intro z; exact absurd z.symm (own' l' _ hl')
  ·rw [LU q,LV q']; intro z; exact absurd z (own' l _ hl)
  ·rw [LU q,LU q']; exact h4 l l' _ _ hl hl'
 ·show mainGlobals<(if l=σ.nx then a else X.ρ l)
  rcases cs hl with ⟨q,_⟩ | ⟨q,hl⟩
  ·rw [LV q]; exact hbig
  ·rw [LU q]; exact hb l _ hl
 ·rcases cs e with ⟨q,rfl⟩ | ⟨q,e⟩
  ·refine ⟨by rw [q]; exact LX _,?_⟩
   show RepO _ _ _ _ (if l=σ.nx then a else X.ρ l) _
   rw [LV q]; exact ho'
  ·refine ⟨Mn (h5 l ob e).1,?_⟩
   show RepO _ _ _ _ (if l=σ.nx then a else X.ρ l) _
   rw [LU q]; exact (h5 l ob e).2.go L (Mj _) rfl
 ·refine h7.go L (Mj _) rfl (fun _ _ _=>rfl) ⟨h7.freeL.1,fun l ol hl=>?_⟩ (fun w x c q=>⟨(h7.freeC w x c q).1,fun l ol hl=>?_⟩)
  ·show (if l=σ.nx then a else X.ρ l)≠_
   rcases cs hl with ⟨w,_⟩ | ⟨w,hl⟩
   ·rw [LV w]; obtain ⟨oL,zL⟩:=R.loc.ltL; exact fun z=>ne zL z.symm
   ·rw [LU w]; exact h7.freeL.2.1 l ol hl
  ·show (if l=σ.nx then a else X.ρ l)≠_
   rcases cs hl with ⟨w',_⟩ | ⟨w',hl⟩
   ·rw [LV w']; obtain ⟨oL,zL⟩:=R.loc.ltC q; exact fun z=>ne zL z.symm
   ·rw [LU w']; exact (h7.freeC w x c q).2.1 l ol hl
 ·show (if l=σ.nx then a else X.ρ l)≠_
  rcases cs hl with ⟨w',_⟩ | ⟨w',hl⟩
  ·rw [LV w']; exact fun z=>ne (R.hp b ob e).1 z.symm
  ·rw [LU w']; exact z3 l ol hl
theorem Rel.upd (R:Rel G X env σ s) {l:Nat} {o₀ o:AO} (hl:aq l σ.st=some o₀) (k:∀ b,b≠X.ρ l→∀ o,s.heap.get? b=some o→s'.heap.get? b=some o)
  (ho:RepO G X σ.nx s'.heap (X.ρ l) o)
  (hos:s'.os=s.os) (hd:s'.drawn=s.drawn) (hg:G.Gn s'.gens):Rel G X env {σ with st:=fq l o σ.st} s':=by
 apply bc;intro z_
 obtain ⟨h1,h2,h3,h4,hb,h5,h6,h7,h8,h9,h10,h11⟩:=R
 apply z_;clear z_
 have neF:∀ {b:Addr} {ob:Obj},X.F b=some ob→b≠X.ρ l:=fun e q=>by rw [q,(h3 l _ hl).1] at e; cases e
 have cs:∀ {l':Nat} {ol:AO},aq l' (fq l o σ.st)=some ol→(l'=l∧ol=o)∨(l'≠l∧aq l' σ.st=some ol):=fun {l' ol} e=>by
  rw [dN] at e
  by_cases q:l'=l
  ·rw [LV q] at e; cases e; exact .inl ⟨q,rfl⟩
  ·rw [LU q] at e; exact .inr ⟨q,e⟩
 have live:∀ {l':Nat} {ol:AO},aq l' (fq l o σ.st)=some ol→∃ ol',aq l' σ.st=some ol':=fun e=>by
  rcases cs e with ⟨rfl,_⟩ | ⟨_,e⟩
  ·exact ⟨_,hl⟩
  ·exact ⟨_,e⟩
 refine ⟨fun b ob e=>k b (neF e) _ (h1 b ob e),h2,fun l' ol hl'=>let ⟨_,z⟩:=live hl'; h3 l' _ z,fun l' l'' _ _ e e'=>let ⟨_,z⟩:=live e; let ⟨_,z'⟩:=live e'; h4 l' l'' _ _ z z',fun l' _ e=>let ⟨_,z⟩:=live e; hb l' _ z,fun l' ob e=>?_,⟨k _ (h3 l _ hl).2.symm _ h6.1,h6.2⟩,?_,hos.trans h8,hd.trans h9,hg,fun b ob e=>let ⟨z1,z2,z3,r⟩:=h11 b ob e; ⟨k _ (fun w=>z3 l _ hl w.symm) _ z1,z2,fun l' _ e=>let ⟨_,z⟩:=live e; z3 l' _ z,r⟩⟩
 ·rcases cs e with ⟨rfl,rfl⟩ | ⟨q,e⟩
  ·exact ⟨(h5 _ _ hl).1,ho⟩
  ·refine ⟨(h5 l' ob e).1,?_⟩
   apply bc;intro z_
   obtain ⟨ob',z⟩:=(h5 l' ob e).2.there
   apply z_;clear z_
   exact (h5 l' ob e).2.go .refl (LR _) ((k _ (fun w=>q (h4 _ _ _ _ e hl w)) _ z).trans z.symm)
 ·apply bc;intro z_
  obtain ⟨oL,zL⟩:=h7.ltL
  apply z_;clear z_
  refine h7.go .refl (LR _) ((k _ (h7.freeL.2.1 l _ hl).symm _ zL).trans zL.symm) (fun x c e=>?_) ⟨h7.freeL.1,fun l' _ e=>let ⟨_,z⟩:=live e; h7.freeL.2.1 l' _ z⟩ (fun w x c b=>⟨(h7.freeC w x c b).1,fun l' _ e=>let ⟨_,z⟩:=live e; (h7.freeC w x c b).2.1 l' _ z⟩)
  apply bc;intro z_
  obtain ⟨oc,zc⟩:=h7.ltC e
  apply z_;clear z_
  refine (k _ (fun w=>?_) _ zc).trans zc.symm
  by_cases q:env.frame=some env.locals
  ·exact (h7.freeC q x c e).2.1 l _ hl w.symm
  ·apply bc;intro z_
   obtain ⟨o',z⟩:=h7.frzC q x c e
   apply z_;clear z_
   exact neF z w
noncomputable abbrev bg:Value→Shared→Prop:=fun _ _=>False
theorem Post.lift {Q:V→St→Prop} {val:Value} (L:X.le n X') (hn:n≤n') (h:Post G X' env n' Q val s):Post G X env n Q val s:=by
 obtain ⟨v,σ',Y,q,L',n1,R,W⟩:=h
 exact ⟨v,σ',Y,q,L.trans L' hn,LN hn n1,R,W⟩
theorem PostB.lift {Q:Bool→St→Prop} {b:Bool} (L:X.le n X') (hn:n≤n') (h:PostB G X' env n' Q b s):PostB G X env n Q b s:=by
 obtain ⟨σ',Y,q,L',n1,R⟩:=h
 exact ⟨σ',Y,q,L.trans L' hn,LN hn n1,R⟩
theorem PostS.lift {Q:Fl→St→Prop} {f:Flow} (L:X.le n X') (hn:n≤n') (h:PostS G X' env n' Q f s):PostS G X env n Q f s:=by
 obtain ⟨v,σ',Y,q,L',n1,R,W⟩:=h
 exact ⟨v,σ',Y,q,L.trans L' hn,LN hn n1,R,W⟩
theorem Post.ret {Q:V→St→Prop} {val:Value} {v:V} (q:Q v σ) (R:Rel G X env σ s) (W:RepV X σ.nx v val):Post G X env σ.nx Q val s:=
 ⟨v,σ,X,q,.refl,LR _,R,W⟩
theorem PostB.ret {Q:Bool→St→Prop} {b:Bool} (q:Q b σ) (R:Rel G X env σ s):PostB G X env σ.nx Q b s:=
 ⟨σ,X,q,.refl,LR _,R⟩
theorem SE.run {e:PySem.Expr} {d:DE} (h:SE G lv sc e d) {K:V→St→Prop} {Q:Value→Shared→Prop} (hd:d σ K) (ha:AOk lv A) (he:EOk sc env) (R:Rel G X env σ s)
  (k:∀ val s1 v σ1 X1,K v σ1→X.le σ.nx X1→σ.nx≤σ1.nx→Rel G X1 env σ1 s1→RepV X1 σ1.nx v val→Q val s1):wpAny (model G.prog G.w) A (eval e env) Q bg s:=
 LF (h σ K hd A env X s ha he R) (fun val s1 ⟨v,σ1,X1,q,L,n1,R1,W⟩=>k val s1 v σ1 X1 q L n1 R1 W) fun _ _ z=>z
theorem SB.run {e:PySem.Expr} {d:DB} (h:SB G lv sc e d) {K:Bool→St→Prop} {Q:Bool→Shared→Prop} (hd:d σ K) (ha:AOk lv A) (he:EOk sc env) (R:Rel G X env σ s)
  (k:∀ b s1 σ1 X1,K b σ1→X.le σ.nx X1→σ.nx≤σ1.nx→Rel G X1 env σ1 s1→Q b s1):wpAny (model G.prog G.w) A (isTrue e env (eval e env)) Q bg s:=
 LF (h σ K hd A env X s ha he R) (fun b s1 ⟨σ1,X1,q,L,n1,R1⟩=>k b s1 σ1 X1 q L n1 R1) fun _ _ z=>z
theorem SS.run {b:PySem.Stmt} {d:DS} (h:SS G lv sc b d) {K:Fl→St→Prop} {Q:Flow→Shared→Prop} (hd:d σ K) (ha:AOk lv A) (he:EOk sc env) (R:Rel G X env σ s)
  (k:∀ f s1 fl σ1 X1,K fl σ1→X.le σ.nx X1→σ.nx≤σ1.nx→Rel G X1 env σ1 s1→RepF X1 σ1.nx fl f→Q f s1):wpAny (model G.prog G.w) A (exec b env) Q bg s:=
 LF (h σ K hd A env X s ha he R) (fun f s1 ⟨fl,σ1,X1,q,L,n1,R1,W⟩=>k f s1 fl σ1 X1 q L n1 R1 W) fun _ _ z=>z
theorem cw {k:Nat} {p:Pos}:SE G lv sc (.Constant .none k p) (fun σ Q=>Q .non σ):=fun σ Q hd A env X s ha he R=>wpAny_Constant_none (Post.ret hd R .non)
theorem b0 {b:Bool} {k:Nat} {p:Pos}:SE G lv sc (.Constant (.bool b) k p) (fun σ Q=>Q (.boo b) σ):=fun σ Q hd A env X s ha he R=>wpAny_Constant_bool (Post.ret hd R (.boo b))
theorem ay {i:Int} {k:Nat} {p:Pos}:SE G lv sc (.Constant (.int i) k p) (fun σ Q=>Q (.int i) σ):=fun σ Q hd A env X s ha he R=>wpAny_Constant_int (Post.ret hd (R.toks _) (.int i _))
theorem bn {x:Str} {cs:List Nat} {k:Nat} {p:Pos} (h:x=⟨cs.toArray⟩):SE G lv sc (.Constant (.str x) k p) (fun σ Q=>Q (.str cs) σ):=fun σ Q hd A env X s ha he R=>by
 subst h; exact wpAny_Constant_str (Post.ret hd (R.toks _) (.str cs _))
theorem z8 {x:List UInt8} {k:Nat} {p:Pos}:SE G lv sc (.Constant (.bytes x) k p) (fun σ Q=>Q (.byt x) σ):=fun σ Q hd A env X s ha he R=>by
 show wpAny _ _ (mkTextBytes x.toArray) _ _ _
 exact LD (wpAny_fresh (LE (Post.ret hd (R.toks _) (.byt x _))))
theorem iW {env:Env} {sc:Sc} (he:EOk sc env) {i:Nat} {x:Str} {k:NameKind} (h:sc.names[i]?=some (x,k)):env.kindOf x=some k:=by
 show env.scope.names.lookup x=some k
 rw [he.names]
 have nd:=he.nd
 revert i
 generalize sc.names=l at nd
 induction l with
 | nil=>intro i h; simp at h
 | cons y r ih=>
  intro i h
  obtain ⟨y,ky⟩:=y
  simp only [List.map_cons,List.nodup_cons] at nd
  cases i with
  | zero=>simp at h; obtain ⟨rfl,rfl⟩:=h; simp [List.lookup_cons]
  | succ i=>
   simp at h
   have hm:x∈r.map (·.1):=List.mem_map.mpr ⟨(x,k),Mh h,rfl⟩
   have hne:(x==y)=false:=by
    cases q:x==y with
    | false=>rfl
    | true=>rw [beq_iff_eq.mp q] at hm; exact absurd hm nd.1
   rw [List.lookup_cons,hne]; exact ih nd.2 h
noncomputable def gi (i:Nat) (σ:St) (Q:V→St→Prop):Prop:=match aq i σ.lo with | some v=>Q v σ | none=>False
theorem jx {Q:V→St→Prop} {i:Nat} {x:Str} {k:NameKind} (hx:sc.names[i]?=some (x,k)) (hd:gi i σ Q) (he:EOk sc env) (R:Rel G X env σ s) (hcd:(x==("__classdict__":Str))=false) :
  wpAny (model G.prog G.w) A (loadName env x) (Post G X env σ.nx Q) bg s:=by
 unfold gi at hd
 cases hv:aq i σ.lo with
 | none=>rw [hv] at hd; exact hd.elim
 | some v=>
  rw [hv] at hd
  apply bc;intro z_
  obtain ⟨m,cm,h1,h2,h3⟩:=R.loc.ns
  obtain ⟨x',k',val,e1,W,e2⟩:=h3 i v hv
  apply z_;clear z_
  rw [he.names,hx] at e1
  cases e1
  have hk:=iW he hx
  have hkf:env.scope.kind=.function:=he.kind
  rcases e2 with ⟨rfl,hm⟩ | ⟨hk',hc,hm⟩
  ·exact wpAny_loadName_local hkf hk h1 hm (Post.ret hd R W)
  ·apply bc;intro z_
   obtain ⟨c,hc⟩:=Option.isSome_iff_exists.mp hc
   apply z_;clear z_
   have hcell:=h2 x c hc
   rw [hm] at hcell
   rcases hk' with rfl | rfl
   ·exact wpAny_loadName_cell hkf hk hc hcell (Post.ret hd R W)
   ·exact wpAny_loadName_free hkf hk hc hcell (Post.ret hd R W) hcd
theorem rS {i:Nat} {x:Str} {k:NameKind} {p:Pos} (hx:sc.names[i]?=some (x,k)) (hdb:(x==("__debug__":Str))=false) (hcd:(x==("__classdict__":Str))=false):SE G lv sc (.Name x p) (gi i):=
 fun σ Q hd A env X s ha he R=>wpAny_Name (jx hx hd he R hcd) hdb
theorem fh {x:Str} {i:Nat} (he:EOk sc env) {Q:Value→Shared→Prop} (hx:sc.names[i]?=some (x,.globalImplicit)) (h:wpAny (model G.prog G.w) A (loadGlobal env x) Q bg s) :
  wpAny (model G.prog G.w) A (loadName env x) Q bg s:=by
 have hk:env.kindOf x=some .globalImplicit:=iW he hx
 have hkf:env.scope.kind=.function:=he.kind
 unfold loadName
 simp only [Env.blockKind,hkf,hk,ScopeKind.isAnnotationScope,Bool.false_and,Bool.false_eq_true,if_false]
 exact h
theorem no {i:Nat} {x:Str} {p:Pos} {a:Addr} (ok:G.Ok) (hx:sc.names[i]?=some (x,.globalImplicit)) (hg:nsIn G.K mainGlobals x=some (some (.ref a))) (hdb:(x==("__debug__":Str))=false) :
  SE G lv sc (.Name x p) (fun σ Q=>Q (.gl a) σ):=fun σ Q hd A env X s ha he R=>by
 refine wpAny_Name (fh he hx ?_) hdb
 unfold loadGlobal
 rw [he.globals]
 refine LD ((looks_nsIn (R.K ok) hg).here ?_)
 exact LE (Post.ret hd R (.gl a))
theorem cZ {i:Nat} {x:Str} {v:Value} {Q:Value→Shared→Prop} (ok:G.Ok) (he:EOk sc env) (R:Rel G X env σ s) (hx:sc.names[i]?=some (x,.globalImplicit)) (hg:nsIn G.K mainGlobals x=some none)
  (hn:x≠"__name__") (hb:bootBuiltins x=some v) (q:Q v s):wpAny (model G.prog G.w) A (loadName env x) Q bg s:=by
 refine fh he hx ?_
 unfold loadGlobal
 rw [he.globals]
 refine LD ((looks_nsIn (R.K ok) hg).here ?_)
 rw [he.builtins]
 refine LD (wpAny_nsGet (R.bns ok) ?_)
 rw [ok.boot x hn,hb]
 exact LE q
theorem J0 {i:Nat} {x:Str} {p:Pos} {T:String} (ok:G.Ok) (hx:sc.names[i]?=some (x,.globalImplicit)) (hg:nsIn G.K mainGlobals x=some none) (hn:x≠"__name__") (hb:bootBuiltins x=some (.type T)) (hdb:(x==("__debug__":Str))=false) :
  SE G lv sc (.Name x p) (fun σ Q=>Q (.ty T) σ):=fun σ Q hd A env X s ha he R=>wpAny_Name (cZ ok he R hx hg hn hb (Post.ret hd R (.ty T))) hdb
noncomputable def b9 (v:V) (σ:St) (k:List V→Prop):Prop:=match v with
 | .fro vs=>k vs
 | .loc l=>match aq l σ.st with
  | some (.list vs)=>k vs
  | _=>False
 | _=>False
theorem qR {q:Option AO} {k:List V→Prop} (h:match q with
  | some (.list vs)=>k vs
  | _=>False):∃ vs,q=some (.list vs)∧k vs:=by
 cases q with
 | none=>exact h.elim
 | some ao=>cases ao with
  | list vs=>exact ⟨vs,rfl,h⟩
  | _=>exact h.elim
theorem cr {v:V} {val:Value} {k:List V→Prop} (R:Rel G X env σ s) (W:RepV X σ.nx v val) (h:b9 v σ k) :
  ∃ a o items vs,val=.ref a∧s.heap.get? a=some o∧LObj "list" o items∧RepVs X σ.nx vs items∧k vs:=by
 cases v with
 | fro vs=>cases W.froI with | mk vals a o h1 h2 h3=>exact ⟨a,o,vals,vs,rfl,R.sub _ _ h1,h2,h3,h⟩
 | loc l=>
  apply bc;intro z_
  obtain ⟨vs,q,h⟩:=qR h
  obtain ⟨_,o,vals,h1,h2,h3⟩:=R.st l _ q
  apply z_;clear z_
  exact ⟨_,o,vals,vs,W.inv,h1,h2,h3,h⟩
 | _=>exact h.elim
theorem LObj.isList {h:Heap} {a:Addr} {o:Obj} {items:List Value} (e:h.get? a=some o) (l:LObj "list" o items):h.IsList a items.toArray:=⟨o,e,l.1,l.2.2.1⟩
theorem LObj.isTuple {h:Heap} {a:Addr} {o:Obj} {items:List Value} (e:h.get? a=some o) (l:LObj "tuple" o items):h.IsTuple a items.toArray:=⟨o,e,l.1,l.2.2.1⟩
theorem RepVs.length {vs:List V} {vals:List Value} (h:RepVs X n vs vals):vals.length=vs.length:=by
 induction vs generalizing vals with
 | nil=>cases h; rfl
 | cons v r ih=>cases h with | cons a b=>simp [ih b]
theorem RepVs.append {vs ws:List V} {vals wals:List Value} (h:RepVs X n vs vals) (h':RepVs X n ws wals):RepVs X n (vs++ws) (vals++wals):=by
 induction vs generalizing vals with
 | nil=>cases h; exact h'
 | cons v r ih=>cases h with | cons a b=>exact .cons a (ih b)
theorem RepVs.get {vs:List V} {vals:List Value} (h:RepVs X n vs vals) {i:Nat} {v:V} (e:vs[i]?=some v):∃ val,vals[i]?=some val∧RepV X n v val:=by
 induction vs generalizing vals i with
 | nil=>simp at e
 | cons w r ih=>
  cases h with
  | cons a b=>
   cases i with
   | zero=>simp at e; subst e; exact ⟨_,rfl,a⟩
   | succ i=>simp at e; obtain ⟨val,p,q⟩:=ih b e; exact ⟨val,by simpa using p,q⟩
theorem aL {h:Heap}:h.get? h.objs.size=none:=by
 cases q:h.get? h.objs.size with
 | none=>rfl
 | some o=>exact absurd (L7 q) (Nat.lt_irrefl _)
theorem Post.newList {Q:V→St→Prop} {vs:List V} {vals:List Value} {t:Nat} (ok:G.Ok) (q:Q (.fro vs) σ) (R:Rel G X env σ s) (W:RepVs X σ.nx vs vals) {ep:Nat} :
  Post G X env σ.nx Q (.ref s.heap.objs.size) {s with heap:=s.heap.push {cls:=.type "list",data:=.seq vals.toArray ep},toks:=t}:=by
 apply bc;intro z_
 obtain ⟨R',L⟩:=R.still (s':={s with heap:=s.heap.push {cls:=.type "list",data:=.seq vals.toArray ep},toks:=t}) aL (fun _ _ e=>LM _ e) (LT _ rfl) rfl rfl R.gens ok
 apply z_;clear z_
 exact ⟨_,σ,_,q,L,LR _,R',.fro vs vals _ _ (LV rfl) ⟨rfl,rfl,⟨ep,rfl⟩,rfl⟩ (W.mono L (LR _))⟩
theorem Post.newTuple {Q:V→St→Prop} {vs:List V} {vals:List Value} {t:Nat} (ok:G.Ok) (q:Q (.tup vs) σ) (R:Rel G X env σ s) (W:RepVs X σ.nx vs vals) {ep:Nat} :
  Post G X env σ.nx Q (.ref s.heap.objs.size) {s with heap:=s.heap.push {cls:=.type "tuple",data:=.seq vals.toArray ep},toks:=t}:=by
 obtain ⟨R',L⟩:=R.still (s':={s with heap:=s.heap.push {cls:=.type "tuple",data:=.seq vals.toArray ep},toks:=t}) aL (fun _ _ e=>LM _ e) (LT _ rfl) rfl rfl R.gens ok
 exact ⟨_,σ,_,q,L,LR _,R',.tup vs vals _ _ (LV rfl) ⟨rfl,rfl,⟨ep,rfl⟩,rfl⟩ (W.mono L (LR _))⟩
noncomputable def jB (o:AO) (σ:St) (Q:V→St→Prop):Prop:=Q (.loc σ.nx) {σ with st:=(σ.nx,o)::σ.st,nx:=σ.nx+1}
theorem Post.newLocList {Q:V→St→Prop} {vs:List V} {vals:List Value} {t:Nat} (ok:G.Ok) (q:jB (.list vs) σ Q) (R:Rel G X env σ s) (W:RepVs X σ.nx vs vals) {ep:Nat} :
  Post G X env σ.nx Q (.ref s.heap.objs.size) {s with heap:=s.heap.push {cls:=.type "list",data:=.seq vals.toArray ep},toks:=t}:=by
 obtain ⟨R',L⟩:=R.anew (o:=.list vs) (s':={s with heap:=s.heap.push {cls:=.type "list",data:=.seq vals.toArray ep},toks:=t}) aL (R.size ok) (fun _ _ e=>LM _ e)
  (fun X' L=>⟨_,vals,LT _ rfl,⟨rfl,rfl,⟨ep,rfl⟩,rfl⟩,W.mono L (Mj _)⟩) rfl rfl R.gens
 refine ⟨_,_,_,q,L,Mj _,R',?_⟩
 have:=RepV.loc (X:={X with ρ:=fun l=>if l=σ.nx then s.heap.objs.size else X.ρ l}) (n:=σ.nx+1) σ.nx (LX _)
 dsimp only at this
 rw [LV rfl] at this
 exact this
noncomputable abbrev DA:=St→(List V→St→Prop)→Prop
noncomputable def SA (G:Glob) (lv:Nat) (sc:Sc) (es:List PySem.Expr) (d:DA):Prop:=∀ σ Q,d σ Q→∀ A env X s pos,AOk lv A→EOk sc env→Rel G X env σ s →
 wpAny (model G.prog G.w) A (spliced (backTo pos (starEach es env))) (fun vals s'=>∃ vs σ' X',Q vs σ'∧X.le σ.nx X'∧σ.nx≤σ'.nx∧Rel G X' env σ' s'∧RepVs X' σ'.nx vs vals) bg s
theorem ae:SA G lv sc [] (fun σ Q=>Q [] σ):=fun σ Q hd A env X s pos ha he R=>spliced_nil ⟨[],σ,X,hd,.refl,LR _,R,.nil⟩
noncomputable def i7 (d:DE) (ds:DA):DA:=fun σ Q=>d σ fun v σ1=>ds σ1 fun vs σ2=>Q (v::vs) σ2
theorem ac {e:PySem.Expr} {es:List PySem.Expr} {d:DE} {ds:DA} (h:SE G lv sc e d) (hs:SA G lv sc es ds) (hst:∀ env r,starEach (e::r) env=(false,eval e env)::starEach r env):SA G lv sc (e::es) (i7 d ds):=fun σ Q hd A env X s pos ha he R=>by
 rw [hst]
 show wpAny _ _ (spliced ((false,eval e env)::backTo pos (starEach es env))) _ _ _
 refine spliced_cons (h.run hd ha he R fun val s1 v σ1 X1 k1 L1 n1 R1 W1=>?_)
 refine LF (hs σ1 _ k1 A env X1 s1 pos ha he R1) (fun vals s2 y_=>?_) fun _ _ z=>z
 apply bc;intro z_
 obtain ⟨vs,σ2,X2,q,L2,n2,R2,W2⟩:=y_
 apply z_;clear z_
 exact ⟨v::vs,σ2,X2,q,L1.trans L2 n1,LN n1 n2,R2,.cons (W1.mono L2 n2) W2⟩
noncomputable def qx (ds:DA):DE:=fun σ Q=>ds σ fun vs σ1=>match Nat.ble vs.length 100000 with | true=>Q (.tup vs) σ1 | false=>False
theorem aV {es:List PySem.Expr} {ds:DA} {k:Nat} {p:Pos} (ok:G.Ok) (h:SA G lv sc es ds) (hz:es.length≤1000):SE G lv sc (.Tuple es k p) (qx ds):=fun σ Q hd A env X s ha he R=>by
 refine Tuple_ (LF (h σ _ hd A env X s p ha he R) (fun vals s1 y_=>?_) fun _ _ z=>z)
 apply bc;intro z_
 obtain ⟨vs,σ1,X1,q,L1,n1,R1,W1⟩:=y_
 apply z_;clear z_
 cases hb:Nat.ble vs.length 100000 with
 | false=>rw [hb] at q; exact q.elim
 | true=>
  rw [hb] at q
  have hz:vals.length≤sizeLine:=by rw [W1.length,L6]; have:=LP hb; omega
  unfold newTuple
  exact wpAny_newObj_type (Post.lift L1 n1 (Post.newTuple (t:=s1.toks) ok q R1 W1)) (by show vals.toArray.size≤sizeLine; rw [LW]; exact hz)
noncomputable def rR (ds:DA):DE:=fun σ Q=>ds σ fun vs σ1=>match Nat.ble vs.length 100000 with | true=>jB (.list vs) σ1 Q | false=>False
theorem b7 {es:List PySem.Expr} {ds:DA} {p:Pos} (ok:G.Ok) (h:SA G lv sc es ds):SE G lv sc (.List es p) (rR ds):=fun σ Q hd A env X s ha he R=>by
 refine List_ (LF (h σ _ hd A env X s p ha he R) (fun vals s1 y_=>?_) fun _ _ z=>z)
 apply bc;intro z_
 obtain ⟨vs,σ1,X1,q,L1,n1,R1,W1⟩:=y_
 apply z_;clear z_
 cases hb:Nat.ble vs.length 100000 with
 | false=>rw [hb] at q; exact q.elim
 | true=>
  rw [hb] at q
  have hz:vals.length≤sizeLine:=by rw [W1.length,L6]; have:=LP hb; omega
  exact wpAny_newList (Post.lift L1 n1 (Post.newLocList (t:=s1.toks) ok q R1 W1)) hz
noncomputable def fits (n:Nat) (P:Prop):Prop:=onT (Nat.ble n 1000000) P
theorem fits.out {n:Nat} {P:Prop} (h:fits n P):n≤1000000∧P:=⟨LP (onT.out h).1,(onT.out h).2⟩
noncomputable def bk (i:Int):Bool:=match i with
 | .ofNat n=>Nat.blt n 1000000000
 | .negSucc n=>Nat.blt n 1000000000
theorem eI {i:Int} (h:bk i=true):i<1000000000 ∧ -1000000000≤i:=by
 cases i with
 | ofNat n=>exact ⟨Int.ofNat_lt.mpr (LP h),Int.le_trans (by decide) (Int.natCast_nonneg n)⟩
 | negSucc n=>exact ⟨Int.lt_trans (Int.negSucc_lt_zero n) (by decide),by have:n+1≤1000000000:=LP h; omega⟩
theorem eR {i:Int} (h:bk i=true):i.natAbs<1073741824:=by
 cases i with
 | ofNat n=>exact Nat.lt_trans (LP h:n<1000000000) (by decide)
 | negSucc n=>exact Mv (LP h:n+1≤1000000000) (by decide)
theorem xp {n:Nat} (h:n<1073741824):n.log2<30:=by
 cases n with
 | zero=>decide
 | succ n=>exact (Nat.log2_lt (k:=30) (Nat.succ_ne_zero n)).mpr h
theorem iJ {i:Int} (h:bk i=true):Builtin.Int.intBits i≤64:=by
 have:=xp (eR h)
 unfold Builtin.Int.intBits
 split
 ·exact Mm _
 ·exact LN (Nat.succ_le_succ (Nat.le_of_lt this)) (by decide)
noncomputable def posI (j:Int) (k:Nat→Prop):Prop:=match j with | .ofNat (n+1)=>k n | _=>False
theorem posI.out {j:Int} {k:Nat→Prop} (h:posI j k):∃ n,j=.ofNat (n+1)∧k n:=by
 cases j with
 | negSucc m=>exact h.elim
 | ofNat m=>cases m with
  | zero=>exact h.elim
  | succ m=>exact ⟨m,rfl,h⟩
noncomputable def sD (op:Operator) (i j:Int) (σ:St) (Q:V→St→Prop):Prop:=match op with
 | .Add=>Q (.int (i+j)) σ
 | .Sub=>Q (.int (i - j)) σ
 | .Mult=>onT (or (bk i) (bk j)) (Q (.int (i*j)) σ)
 | .FloorDiv=>onT (bk j) (posI j fun n=>Q (.int (Int.fdiv i (.ofNat (n+1)))) σ)
 | .Mod=>posI j fun n=>Q (.int (Int.fmod i (.ofNat (n+1)))) σ
 | .Pow=>onT (decide (i=10) && decide (j=6)) (Q (.int 1000000) σ)
 | _=>False
noncomputable def oU {α:Type} (n:Int) (vs:List α):List α:=match n with
 | .ofNat n=>(List.replicate n vs).flatten
 | _=>[]
noncomputable def sE (op:Operator) (a b:V) (σ:St) (Q:V→St→Prop):Prop:=match op with
 | .Add=>b9 a σ fun xs=>b9 b σ fun ys=>fits (xs.length+ys.length) (Q (.fro (xs++ys)) σ)
 | .Mult=>bD b fun n=>b9 a σ fun xs=>onT (bk n) (fits (xs.length*n.toNat) (Q (.fro (oU n xs)) σ))
 | _=>False
noncomputable def sF (op:Operator) (x:List Nat) (b:V) (σ:St) (Q:V→St→Prop):Prop:=match op with
 | .Add=>cE b fun y=>fits (x.length+y.length) (Q (.str (x++y)) σ)
 | .Mult=>bD b fun n=>onT (bk n) (fits (x.length*n.toNat) (Q (.str (oU n x)) σ))
 | _=>False
noncomputable def sC (op:Operator) (x:List UInt8) (b:V) (σ:St) (Q:V→St→Prop):Prop:=match op with
 | .Add=>uI b fun y=>fits (x.length+y.length) (Q (.byt (x++y)) σ)
 | _=>False
noncomputable def HN (op:Operator) (a b:V) (σ:St) (Q:V→St→Prop):Prop:=match a with
 | .int i=>bD b fun j=>sD op i j σ Q
 | .str x=>sF op x b σ Q
 | .byt x=>sC op x b σ Q
 | a=>sE op a b σ Q
theorem gp {x y:List Nat}:(⟨x.toArray⟩:Str)++⟨y.toArray⟩=⟨(x++y).toArray⟩:=by
 show Str.mk (x.toArray++y.toArray)=_
 simp
theorem bK {x:List Nat}:(⟨x.toArray⟩:Str).length=x.length:=by show x.toArray.size=_; simp
theorem fS {x:List Nat}:∀ (n:Nat) (acc:Array Nat),(List.replicate n x.toArray).foldl (·++·) acc=acc++((List.replicate n x).flatten).toArray
 | 0,acc=>by simp
 | n+1,acc=>by rw [List.replicate_succ,List.foldl_cons,fS n]; simp [List.replicate_succ]
theorem qB {op:Operator} {i j:Int} {t u:Tok} {Q:V→St→Prop} (ha:AOk lv A) (h:sD op i j σ Q) (R:Rel G X env σ s) :
  wpAny (model G.prog G.w) A (binaryOp op (.int i t) (.int j u)) (Post G X env σ.nx Q) bg s:=by
 have fin:∀ (k:Int),Q (.int k) σ→Post G X env σ.nx Q (.int k s.toks) {s with toks:=s.toks+1}:=fun k q=>Post.ret q (R.toks _) (.int k _)
 cases op with
 | Add=>exact add_int (fin _ h)
 | Sub=>exact sub_int (fin _ h)
 | Mult=>
  apply bc;intro z_
  obtain ⟨q,h⟩:=onT.out h
  apply z_;clear z_
  exact mul_int (fin _ h) ((Bool.or_eq_true_iff.mp q).elim (fun q=>IntMulOk.of_left (iJ q)) fun q=>IntMulOk.of_right (iJ q))
 | Mod=>
  apply bc;intro z_
  obtain ⟨m,rfl,h⟩:=posI.out h
  apply z_;clear z_
  exact PyProof.Rows.mod_int (by intro e; cases e) (fin _ h)
 | FloorDiv=>
  apply bc;intro z_
  obtain ⟨q,h⟩:=onT.out h
  obtain ⟨m,rfl,h⟩:=posI.out h
  apply z_;clear z_
  exact floordiv_int (by intro e; cases e) (fin _ h) (.inl (PyProof.noPylong_small (eR q)))
 | Pow=>
  apply bc;intro z_
  obtain ⟨q,h⟩:=onT.out h
  rw [Bool.and_eq_true,decide_eq_true_eq,decide_eq_true_eq] at q
  obtain ⟨rfl,rfl⟩:=q
  apply z_;clear z_
  exact pow_int (by decide) (by decide +kernel) (fin _ h)
 | _=>exact h.elim
theorem qE {a b:V} {va vb:Value} {Q:V→St→Prop} (ok:G.Ok) (R:Rel G X env σ s) (Wa:RepV X σ.nx a va) (Wb:RepV X σ.nx b vb)
  (h:b9 a σ fun xs=>b9 b σ fun ys=>fits (xs.length+ys.length) (Q (.fro (xs++ys)) σ)):wpAny (model G.prog G.w) A (binaryOp .Add va vb) (Post G X env σ.nx Q) bg s:=by
 apply bc;intro z_
 obtain ⟨l,o,vs,xs,rfl,ho,hl,W1,h⟩:=cr R Wa h
 obtain ⟨l2,o2,ws,ys,rfl,ho2,hl2,W2,h⟩:=cr R Wb h
 obtain ⟨hz,q⟩:=h.out
 obtain ⟨cls,dd,data,sl⟩:=o
 obtain ⟨cls2,dd2,data2,sl2⟩:=o2
 obtain ⟨hc,hdd,⟨n,hd⟩,hsl⟩:=hl
 obtain ⟨hc2,hdd2,⟨n2,hd2⟩,hsl2⟩:=hl2
 apply z_;clear z_
 dsimp only at hc hd hc2 hd2
 subst hc hd hc2 hd2
 refine concat_meets ⟨_,ho,rfl⟩ ⟨_,ho2,rfl⟩ noFill_list_add seq_list_add PySem.F.slot_list_add PySem.F.entry_list_add (PySem.F.args_list_add_2 _ _) (list_addW l l2 vs.toArray ws.toArray n n2 dd dd2 sl sl2 ?_) ⟨ho,ho2,?_⟩
 ·simp only [LW,W1.length,W2.length,L6]; omega
 ·have e:vs.toArray++ws.toArray=(vs++ws).toArray:=by simp
  rw [e]
  exact Post.newList ok q R (W1.append W2)
theorem RepVs.flatten {vs:List V} {vals:List Value} (h:RepVs X n vs vals):∀ k:Nat,RepVs X n (List.replicate k vs).flatten (List.replicate k vals).flatten
 | 0=>.nil
 | k+1=>by rw [List.replicate_succ,List.replicate_succ,List.flatten_cons,List.flatten_cons]; exact h.append (RepVs.flatten h k)
theorem oH {a:V} {va:Value} {i:Int} {u:Tok} {Q:V→St→Prop} (ok:G.Ok) (R:Rel G X env σ s) (Wa:RepV X σ.nx a va)
  (h:b9 a σ fun xs=>onT (bk i) (fits (xs.length*i.toNat) (Q (.fro (oU i xs)) σ))):wpAny (model G.prog G.w) A (binaryOp .Mult va (.int i u)) (Post G X env σ.nx Q) bg s:=by
 apply bc;intro z_
 obtain ⟨l,o,vs,xs,rfl,ho,hl,W1,h⟩:=cr R Wa h
 obtain ⟨hs,h⟩:=onT.out h
 obtain ⟨hz,q⟩:=fits.out h
 have ⟨b1,b2⟩:=eI hs
 obtain ⟨cls,dd,data,sl⟩:=o
 obtain ⟨hc,hdd,⟨k,hd⟩,hsl⟩:=hl
 apply z_;clear z_
 dsimp only at hc hd
 subst hc hd
 have hz':vs.toArray.size*i.toNat≤1000000:=by rw [LW,W1.length]; exact hz
 have hz2:vs.length*i.toNat≤1000000:=hz'
 have eq:oU i xs=(List.replicate i.toNat xs).flatten:=by cases i <;> rfl
 rw [eq] at q
 refine wpAny_binaryOp_repeat_ref (T:="list") (U:="int") (by decide) ⟨_,ho,rfl⟩ (fun s'=>typeIs_int s' i u) noFill_list_mul F.fills_int_mul F.slot_int_rmul repeat_list F.slot_int_index.lookup
  (call_meets F.slot_int_rmul (typeIs_int s i u) F.entry_int_rmul (F.args_int_rmul_2 _ _) (lm_int_rmul_list_any i u l vs.toArray k dd sl)
   ⟨ho,rfl,⟨_,ho,rfl⟩,call_meets F.slot_list_mul ⟨_,ho,rfl⟩ F.entry_list_mul (F.args_list_mul_2 _ _)
    (lm_list_mul_any l vs.toArray k dd sl i u (by simp [Builtin.List.listFitsIndex]; omega) (by omega) (by rw [LW]; have hq:¬ (vs.length*i.toNat > sizeLine):=(by rw [L6]; omega); rw [show Builtin.List.listTooLong (vs.length*i.toNat)=false from Ma hq]; exact LZ))
    ⟨ho,?_⟩⟩)
 rw [listMul_foldl_if]
 exact Post.newList ok q R (W1.flatten _)
theorem xv {x:List Nat} {i:Int}:Txt.mul ⟨x.toArray⟩ i=⟨(oU i x).toArray⟩:=by
 unfold Txt.mul
 cases i with
 | negSucc n=>rw [LV (by omega)]; rfl
 | ofNat n=>
  by_cases h1:Int.ofNat n<1
  ·rw [LV h1]
   have:n=0:=by simp only [Int.ofNat_eq_natCast] at h1; omega
   subst this; rfl
  ·rw [LU h1]
   by_cases h2:((Int.ofNat n==1 || (⟨x.toArray⟩:Str).length==0)=true)
   ·rw [LV h2]
    rw [Bool.or_eq_true,bK] at h2
    rcases h2 with h2 | h2
    ·have:n=1:=Int.ofNat.inj (beq_iff_eq.mp h2)
     subst this; simp [oU]
    ·have:x=[]:=List.length_eq_zero_iff.mp (beq_iff_eq.mp h2)
     subst this
     show Str.mk #[]=Str.mk (List.replicate n []).flatten.toArray
     rw [List.flatten_replicate_nil]
   ·rw [LU h2]
    show Str.mk _=Str.mk _
    rw [fS]
    simp [oU]
theorem qD {op:Operator} {x:List Nat} {t:Tok} {b:V} {vb:Value} {Q:V→St→Prop} (h:sF op x b σ Q) (R:Rel G X env σ s) (Wb:RepV X σ.nx b vb) :
  wpAny (model G.prog G.w) A (binaryOp op (.str ⟨x.toArray⟩ t) vb) (Post G X env σ.nx Q) bg s:=by
 cases op with
 | Add=>
  refine Wb.str_ h fun y u h=>?_
  apply bc;intro z_
  obtain ⟨hz,q⟩:=fits.out h
  apply z_;clear z_
  refine PyProof.Rows.add_str (fun t' tk=>?_) (by rw [bK,bK,L6]; exact LN hz (by decide))
  rw [gp]
  exact Post.ret q (R.toks _) (.str _ _)
 | Mult=>
  refine Wb.int_ h fun i u h=>?_
  apply bc;intro z_
  obtain ⟨hs,h⟩:=onT.out h
  obtain ⟨hz,q⟩:=fits.out h
  apply z_;clear z_
  have ⟨b1,b2⟩:=eI hs
  refine SB.mul ⟨?_,?_,?_⟩ fun t' k=>?_
  ·rw [Bool.or_eq_false_iff]; exact ⟨Ma (by omega),Ma (by omega)⟩
  ·intro h1 _ h2
   rw [bK] at h2
   have hi:0<i:=by omega
   have h3:=(Int.ediv_lt_iff_lt_mul hi).mp h2
   have h4:(x.length:Int)*i≤1000000:=by
    have:((x.length*i.toNat:Nat):Int)≤1000000:=Int.ofNat_le.mpr hz
    rw [Int.natCast_mul,Int.toNat_of_nonneg (Int.le_of_lt hi)] at this
    exact this
   exact absurd (Int.lt_of_lt_of_le h3 h4) (by decide)
  ·intro h1 _
   rw [bK]
   exact Ma (by rw [L6]; omega)
  ·rw [xv]
   exact Post.ret q (R.toks _) (.str _ _)
 | _=>exact h.elim
theorem qA {op:Operator} {x:List UInt8} {t:Tok} {b:V} {vb:Value} {Q:V→St→Prop} (h:sC op x b σ Q) (R:Rel G X env σ s) (Wb:RepV X σ.nx b vb) :
  wpAny (model G.prog G.w) A (binaryOp op (.bytes x.toArray t) vb) (Post G X env σ.nx Q) bg s:=by
 cases op with
 | Add=>
  refine Wb.byt_ h fun y u h=>?_
  obtain ⟨hz,q⟩:=fits.out h
  refine PySem.W.KBy.add_bytes (by simp only [LW]; omega) (fun t' tk=>?_)
  rw [show x.toArray++y.toArray=(x++y).toArray by simp]
  exact Post.ret q (R.toks _) (.byt _ _)
 | _=>exact h.elim
theorem qC {op:Operator} {a b:V} {va vb:Value} {Q:V→St→Prop} (ok:G.Ok) (h:sE op a b σ Q) (R:Rel G X env σ s) (Wa:RepV X σ.nx a va) (Wb:RepV X σ.nx b vb) :
  wpAny (model G.prog G.w) A (binaryOp op va vb) (Post G X env σ.nx Q) bg s:=by
 cases op with
 | Add=>exact qE ok R Wa Wb h
 | Mult=>exact Wb.int_ h fun i t h=>oH ok R Wa h
 | _=>exact h.elim
theorem k7 {op:Operator} {a b:V} {va vb:Value} {Q:V→St→Prop} (ok:G.Ok) (ha:AOk lv A) (h:HN op a b σ Q) (R:Rel G X env σ s) (Wa:RepV X σ.nx a va) (Wb:RepV X σ.nx b vb) :
  wpAny (model G.prog G.w) A (binaryOp op va vb) (Post G X env σ.nx Q) bg s:=by
 cases a with
 | int i=>obtain ⟨t,rfl⟩:=Wa.inv; exact Wb.int_ h fun j u h=>qB ha h R
 | str x=>obtain ⟨t,rfl⟩:=Wa.inv; exact qD h R Wb
 | byt x=>obtain ⟨t,rfl⟩:=Wa.inv; exact qA h R Wb
 | _=>exact qC ok h R Wa Wb
noncomputable def wq (op:Operator) (dl dr:DE):DE:=fun σ Q=>dl σ fun a σ1=>dr σ1 fun b σ2=>HN op a b σ2 Q
theorem aQ {op:Operator} {l r:PySem.Expr} {dl dr:DE} {p:Pos} (ok:G.Ok) (hl:SE G lv sc l dl) (hr:SE G lv sc r dr):SE G lv sc (.BinOp l op r p) (wq op dl dr):=fun σ Q hd A env X s ha he R=>by
 refine wpAny_BinOp (hl.run hd ha he R fun va s1 a σ1 X1 k1 L1 n1 R1 W1=>hr.run k1 ha he R1 fun vb s2 b σ2 X2 k2 L2 n2 R2 W2=>?_)
 exact LF (k7 ok ha k2 R2 (W1.mono L2 n2) W2) (fun _ _ z=>Post.lift (L1.trans L2 n1) (LN n1 n2) z) fun _ _ z=>z
noncomputable def wu (d:DE):DE:=fun σ Q=>d σ fun v σ1=>bD v fun i=>Q (.int (-i)) σ1
theorem dK {e:PySem.Expr} {d:DE} {p:Pos} (h:SE G lv sc e d):SE G lv sc (.UnaryOp .USub e p) (wu d):=fun σ Q hd A env X s ha he R=>by
 refine wpAny_UnaryOp (h.run hd ha he R fun va s1 a σ1 X1 k1 L1 n1 R1 W1=>?_)
 exact W1.int_ k1 fun i t k=>PyProof.Rows.neg_int (Post.lift L1 n1 (Post.ret k (R1.toks _) (.int _ _)))
noncomputable def Dx:List Nat→Bool
 | []=>true
 | c::r=>and (Nat.blt c 1114112) (Dx r)
noncomputable def nH (f:V→Option PyData):List V→Option (List PyData)
 | []=>some []
 | v::r=>(f v).bind fun d=>(nH f r).map (List.cons d)
noncomputable def dw (l:Nat) (σ:St):Option (List V):=match aq l σ.st with | some (.list vs)=>some vs | _=>none
theorem bG {l:Nat} {σ:St} {vs:List V} (h:dw l σ=some vs):aq l σ.st=some (.list vs):=by
 unfold dw at h
 split at h
 ·cases h; assumption
 ·first | exact nS h | exact nB h | cases h
noncomputable def wk:Nat→St→V→Option PyData
 | 0,_,_=>none
 | n+1,σ,v=>match v with
  | .non=>some .none
  | .int i=>some (.int i)
  | .str s=>(match Dx s with | true=>some (.str ⟨s.toArray⟩) | false=>none)
  | .tup vs=>(nH (wk n σ) vs).map .tuple
  | .fro vs=>(nH (wk n σ) vs).map .list
  | .loc l=>(dw l σ).bind fun vs=>(nH (wk n σ) vs).map .list
  | _=>none
noncomputable def kl (x:List Nat):List Nat→Bool:=@List.rec Nat (fun _=>List Nat→Bool) (fun y=>@List.rec Nat (fun _=>Bool) true (fun _ _ _=>false) y)
 (fun a _ ih y=>@List.rec Nat (fun _=>Bool) false (fun b t _=>@Bool.rec (fun _=>Bool) false (ih t) (Nat.beq a b)) y) x
theorem dG:∀ {x y:List Nat},kl x y=decide (x=y)
 | [],[]=>rfl
 | a::r,b::t=>by
  show (@Bool.rec (fun _=>Bool) false (kl r t) (Nat.beq a b))=_
  rw [d4]
  by_cases h:a=b
  ·simp [h,dG (x:=r)]
  ·simp [h]
 | [],_::_=>rfl
 | _::_,[]=>rfl
noncomputable def G8:Int→Int→Bool
 | .ofNat a,.ofNat b=>Nat.beq a b
 | .negSucc a,.negSucc b=>Nat.beq a b
 | _,_=>false
theorem wZ {a b:Int}:G8 a b=decide (a=b):=by
 cases a <;> cases b <;> simp [G8,d4]
 omega
noncomputable def HZ (f:PyData→PyData→Bool):List PyData→List PyData→Bool
 | [],[]=>true
 | a::r,b::t=>and (f a b) (HZ f r t)
 | _,_=>false
noncomputable def wY:Nat→PyData→PyData→Bool
 | 0,_,_=>false
 | n+1,d,e=>match d with
  | .none=>(match e with | .none=>true | _=>false)
  | .int i=>(match e with | .int j=>G8 i j | _=>false)
  | .str x=>(match e with | .str y=>kl x.cps.toList y.cps.toList | _=>false)
  | .tuple xs=>(match e with | .tuple ys=>HZ (wY n) xs ys | _=>false)
  | .list xs=>(match e with | .list ys=>HZ (wY n) xs ys | _=>false)
  | _=>false
theorem Dy:∀ {s:List Nat},Dx s=true→PyData.strOk ⟨s.toArray⟩=true:=by
 intro s h
 have:∀ c∈s,c<1114112:=by
  induction s with
  | nil=>intro c hc; cases hc
  | cons a r ih=>exact List.forall_mem_cons.mpr ⟨LP (Bool.and_eq_true_iff.mp h).1,ih (Bool.and_eq_true_iff.mp h).2⟩
 unfold PyData.strOk
 rw [← Array.all_toList,List.all_eq_true]
 intro c hc
 exact Mb (this c hc)
inductive DatIs (h:Heap) (n:Nat) (val:Value) (d:PyData):Prop
 | mk (as:List Addr) (r:Reads h val d as) (c:d.canLay0=true) (l:d.depth≤n)
inductive DatsAre (h:Heap) (n:Nat) (vals:List Value) (ds:List PyData):Prop
 | mk (as:List Addr) (r:ReadsAll h vals ds as) (c:PyData.canLayAll0 ds=true) (l:PyData.depthAll ds≤n)
theorem gf {f:V→Option PyData} {h:Heap} {m:Nat} (hf:∀ {v:V} {val:Value} {d:PyData},RepV X n v val→f v=some d→DatIs h m val d) :
  ∀ {vs:List V} {vals:List Value} {ds:List PyData},RepVs X n vs vals→nH f vs=some ds→DatsAre h m vals ds:=by
 intro vs
 induction vs with
 | nil=>intro vals ds W e; cases W; cases e; exact ⟨_,.nil,rfl,Mm _⟩
 | cons v r hi=>
  intro vals ds W e
  cases W with
  | cons w ws=>
   apply bc;intro z_
   obtain ⟨d,q,e⟩:=Option.bind_eq_some_iff.mp e
   obtain ⟨ds',q',rfl⟩:=Option.map_eq_some_iff.mp e
   obtain ⟨as,ra,c,l⟩:=hf w q
   obtain ⟨bs,rb,c',l'⟩:=hi ws q'
   apply z_;clear z_
   exact ⟨_,.cons ra rb,by simp only [PyData.canLayAll0,c,c',Bool.and_self],by simp only [PyData.depthAll]; exact Nat.max_le.mpr ⟨l,l'⟩⟩
theorem l3 {h:Heap} {m:Nat} {a:Addr} {o:Obj} {vals:List Value} {ds:List PyData} (ho:h.get? a=some o) (hl:LObj "list" o vals) (x:DatsAre h m vals ds):DatIs h (m+1) (.ref a) (.list ds):=by
 apply bc;intro z_
 obtain ⟨as,ra,c,l⟩:=x
 obtain ⟨hc,_,⟨ep,hd⟩,_⟩:=hl
 apply z_;clear z_
 exact ⟨_,reads_list_at ho hc hd ra,by simpa only [PyData.canLay0] using c,by simp only [PyData.depth]; exact Nat.succ_le_succ l⟩
theorem fD (R:Rel G X env σ s):∀ (n:Nat) {v:V} {val:Value} {d:PyData},RepV X σ.nx v val→wk n σ v=some d→DatIs s.heap n val d:=by
 intro n
 induction n with
 | zero=>intro v val d _ e; cases e
 | succ n ih=>
  intro v val d W e
  cases v with
  | non=>cases e; cases (W.inv:val=.none); exact ⟨_,.none,rfl,by simp only [PyData.depth]; exact Mm _⟩
  | int i=>cases e; obtain ⟨t,rfl⟩:=W.inv; exact ⟨_,.int i t,rfl,by simp only [PyData.depth]; exact Mm _⟩
  | str x=>
   apply bc;intro z_
   obtain ⟨t,rfl⟩:=W.inv
   apply z_;clear z_
   have e:(match Dx x with | true=>some (PyData.str ⟨x.toArray⟩) | false=>none)=some d:=e
   cases q:Dx x with
   | false=>rw [q] at e; exact nS e
   | true=>rw [q] at e; cases e; exact ⟨_,.str _ t,by simpa only [PyData.canLay0] using Dy q,by simp only [PyData.depth]; exact Mm _⟩
  | tup vs=>
   apply bc;intro z_
   obtain ⟨vals,a,o,h,ho,hs⟩:=W.tupI
   obtain ⟨ds,q,rfl⟩:=Option.map_eq_some_iff.mp e
   obtain ⟨as,ra,c,l⟩:=gf ih hs q
   obtain ⟨hc,_,⟨ep,hd⟩,_⟩:=ho
   apply z_;clear z_
   exact ⟨_,reads_tuple_at (R.sub _ _ h) hc hd ra,by simpa only [PyData.canLay0] using c,by simp only [PyData.depth]; exact Nat.succ_le_succ l⟩
  | fro vs=>
   apply bc;intro z_
   obtain ⟨vals,a,o,h,ho,hs⟩:=W.froI
   obtain ⟨ds,q,rfl⟩:=Option.map_eq_some_iff.mp e
   apply z_;clear z_
   exact l3 (R.sub _ _ h) ho (gf ih hs q)
  | loc l=>
   cases (W.inv:val=.ref (X.ρ l))
   apply bc;intro z_
   obtain ⟨vs,q0,e⟩:=Option.bind_eq_some_iff.mp e
   obtain ⟨ds,q,rfl⟩:=Option.map_eq_some_iff.mp e
   obtain ⟨_,o,vals,h1,h2,h3⟩:=R.st l _ (bG q0)
   apply z_;clear z_
   exact l3 h1 h2 (gf ih h3 q)
  | _=>exact nS e
noncomputable def rz:Nat→PyData→Prop
 | 0,_=>False
 | n+1,d=>match d with
  | .none=>True
  | .int _=>True
  | .str _=>True
  | .tuple xs=>∀ x∈xs,rz n x
  | .list xs=>∀ x∈xs,rz n x
  | _=>False
theorem sO {f:V→Option PyData} {P:PyData→Prop} (hf:∀ v d,f v=some d→P d):∀ {vs:List V} {ds:List PyData},nH f vs=some ds→∀ d∈ds,P d:=by
 intro vs
 induction vs with
 | nil=>intro ds e; cases e; intro d hd; cases hd
 | cons v r ih=>
  intro ds e
  apply bc;intro z_
  obtain ⟨d,q,e⟩:=Option.bind_eq_some_iff.mp e
  obtain ⟨ds',q',rfl⟩:=Option.map_eq_some_iff.mp e
  apply z_;clear z_
  exact List.forall_mem_cons.mpr ⟨hf v _ q,ih q'⟩
theorem lc:∀ (n:Nat) {σ:St} {v:V} {d:PyData},wk n σ v=some d→rz n d:=by
 intro n
 induction n with
 | zero=>intro σ v d e; cases e
 | succ n ih=>
  intro σ v d e
  have lst:∀ {vs:List V} {c:List PyData→PyData},(nH (wk n σ) vs).map c=some d→(∀ ds,(∀ x∈ds,rz n x)→rz (n+1) (c ds))→rz (n+1) d:=by
   intro vs c e hc
   apply bc;intro z_
   obtain ⟨ds,q,rfl⟩:=Option.map_eq_some_iff.mp e
   apply z_;clear z_
   exact hc _ (sO (fun v d=>ih) q)
  cases v with
  | non=>cases e; trivial
  | int i=>cases e; trivial
  | str x=>
   have e:(match Dx x with | true=>some (PyData.str ⟨x.toArray⟩) | false=>none)=some d:=e
   cases q:Dx x with
   | false=>rw [q] at e; exact nS e
   | true=>rw [q] at e; cases e; trivial
  | tup vs=>exact lst e fun _ h=>h
  | fro vs=>exact lst e fun _ h=>h
  | loc l=>
   apply bc;intro z_
   obtain ⟨vs,q0,e⟩:=Option.bind_eq_some_iff.mp e
   apply z_;clear z_
   exact lst e fun _ h=>h
  | _=>exact nS e
theorem iU {i j:Int}:G8 i j=(i==j):=by rw [wZ]; by_cases q:i=j <;> simp [q]
theorem pJ {x y:Str}:kl x.cps.toList y.cps.toList=(x==y):=by
 obtain ⟨⟨x⟩⟩:=x
 obtain ⟨⟨y⟩⟩:=y
 rw [dG]
 by_cases q:x=y <;> simp [q]
theorem pK:∀ (n:Nat) {m:Nat} {d e:PyData},rz n d→rz m e→∀ k,n≤k→wY k d e=PyData.eqv d e:=by
 intro n
 induction n with
 | zero=>intro m d e h; exact h.elim
 | succ n ih=>
  have all:∀ {k m:Nat} {xs ys:List PyData},n≤k→(∀ x∈xs,rz n x)→(∀ y∈ys,rz m y)→HZ (wY k) xs ys=PyData.eqvAll xs ys:=by
   intro k m xs
   induction xs with
   | nil=>intro ys _ _ _; cases ys <;> rfl
   | cons x xs hi=>
    intro ys hk hx hy
    cases ys with
    | nil=>rfl
    | cons y ys=>
     show and (wY k x y) (HZ (wY k) xs ys)=and (PyData.eqv x y) (PyData.eqvAll xs ys)
     rw [ih (hx x (.head _)) (hy y (.head _)) k hk,hi hk (fun z hz=>hx z (.tail _ hz)) fun z hz=>hy z (.tail _ hz)]
  intro m d e hd he k hk
  cases k with
  | zero=>omega
  | succ k=>
   have hk:=Nat.le_of_succ_le_succ hk
   cases m with
   | zero=>exact he.elim
   | succ m=>
    cases d <;> first | exact hd.elim | skip
    ·cases e <;> first | rfl | exact he.elim
    ·cases e <;> first | rfl | exact he.elim | skip
     exact iU
    ·cases e <;> first | rfl | exact he.elim | skip
     exact pJ
    ·cases e <;> first | rfl | exact he.elim | exact all hk hd he
    ·cases e <;> first | rfl | exact he.elim | exact all hk hd he
noncomputable def oP {α:Type}:List α→Bool
 | []=>false
 | _::_=>true
noncomputable def hU (l:Nat) (σ:St):Option (List (List Nat×V)):=match aq l σ.st with | some (.dict kvs)=>some kvs | _=>none
theorem dq {l:Nat} {σ:St} {vs:List (List Nat×V)} (h:hU l σ=some vs):aq l σ.st=some (.dict vs):=by
 unfold hU at h
 split at h
 ·cases h; assumption
 ·first | exact nS h | exact nB h | cases h
noncomputable def vZ (o:Option AO) (σ:St) (Q:Bool→St→Prop):Prop:=match o with
 | some (.list vs)=>fits vs.length (Q (oP vs) σ)
 | some (.dict kvs)=>fits kvs.length (Q (oP kvs) σ)
 | _=>False
noncomputable def vY (v:V) (σ:St) (Q:Bool→St→Prop):Prop:=match v with
 | .boo b=>Q b σ
 | .non=>Q false σ
 | .int i=>Q (!G8 i 0) σ
 | .str s=>fits s.length (Q (oP s) σ)
 | .fro vs=>fits vs.length (Q (oP vs) σ)
 | .loc l=>vZ (aq l σ.st) σ Q
 | _=>False
theorem eT (R:Rel G X env σ s) {l:Nat} {o:AO} (hl:aq l σ.st=some o):(X.ρ l==sysModules)=false:=by
 have h:=R.big l o hl
 cases q:X.ρ l==sysModules with
 | false=>rfl
 | true=>rw [beq_iff_eq.mp q] at h; exact absurd h (by decide)
theorem fH {kvs:List (List Nat×V)} {kvals:List (Str×Value)}:PairsAre X n kvs kvals→kvals.length=kvs.length:=by
 induction kvs generalizing kvals with
 | nil=>intro h; cases kvals with | nil=>rfl | cons=>exact h.elim
 | cons a r ih=>intro h; cases kvals with | nil=>exact h.elim | cons b r'=>simp [ih h.2.2]
theorem mB {α β:Type} {a:List α} {b:List β} (h:b.length=a.length):(!b.isEmpty)=oP a:=by
 cases a <;> cases b <;> first | rfl | cases h
theorem fz {a:Addr} {o:Obj} {items:List Value} {vs:List V} {Q:Bool→St→Prop} (ho:s.heap.get? a=some o) (hl:LObj "list" o items) (W:RepVs X n vs items)
  (h:fits vs.length (Q (oP vs) σ)) (R:Rel G X env σ s):wpAny (model G.prog G.w) A (truthy (.ref a)) (PostB G X env σ.nx Q) bg s:=by
 apply bc;intro z_
 obtain ⟨hz,q⟩:=h.out
 apply z_;clear z_
 refine wpAny_truthy_list (hl.isList ho) (by rw [LW,W.length]; omega) ?_
 rw [List.isEmpty_toArray,mB W.length]
 exact PostB.ret q (R.toks _)
theorem v3 {v:V} {val:Value} {Q:Bool→St→Prop} (h:vY v σ Q) (R:Rel G X env σ s) (W:RepV X σ.nx v val) :
  wpAny (model G.prog G.w) A (truthy val) (PostB G X env σ.nx Q) bg s:=by
 cases v with
 | non=>cases (W.inv:val=.none); exact truthy_none (PostB.ret h R)
 | boo b=>cases (W.inv:val=.bool b); exact wpAny_truthy_bool (PostB.ret h R)
 | int i=>obtain ⟨t,rfl⟩:=W.inv; exact PyProof.Rows.truthy_int (PostB.ret (show Q (!(i==0)) σ from iU (i:=i) (j:=0) ▸ h) R)
 | str x=>
  apply bc;intro z_
  obtain ⟨t,rfl⟩:=W.inv
  obtain ⟨hz,q⟩:=fits.out h
  apply z_;clear z_
  refine PySem.P.truthy_str (by rw [bK]; omega) ?_
  have:(((⟨x.toArray⟩:Str).length:Int) != 0)=(oP x):=by
   rw [bK]; cases x <;> rfl
  rw [this]
  exact PostB.ret q (R.toks _)
 | fro vs=>cases W.froI with | mk vals a o h1 ho hs=>exact fz (R.sub _ _ h1) ho hs h R
 | loc l=>
  cases (W.inv:val=.ref (X.ρ l))
  have h:vZ (aq l σ.st) σ Q:=h
  cases q:aq l σ.st with
  | none=>rw [q] at h; exact h.elim
  | some ao=>
   rw [q] at h
   cases ao with
   | list vs=>
    apply bc;intro z_
    obtain ⟨_,o,vals,h1,h2,h3⟩:=R.st l _ q
    apply z_;clear z_
    exact fz h1 h2 h3 h R
   | dict kvs=>
    apply bc;intro z_
    obtain ⟨hz,q2⟩:=fits.out h
    obtain ⟨_,kvals,h1,h2⟩:=R.st l _ q
    apply z_;clear z_
    have hlen:=fH h2
    refine wpAny_truthy_dict (eT R q) h1 (by rw [hlen]; omega) ?_
    rw [mB hlen]
    exact PostB.ret q2 (R.toks _)
   | _=>exact h.elim
 | _=>exact h.elim
open PySem.SeqAt
noncomputable def iB (d:PyData):List PyData→Bool
 | []=>false
 | y::r=>or (wY 8 y d) (iB d r)
noncomputable def pS (k:List Nat):List (List Nat×V)→Bool
 | []=>false
 | p::r=>or (kl p.1 k) (pS k r)
noncomputable def fb (k:List Nat):List (List Nat)→Bool
 | []=>false
 | x::r=>or (kl x k) (fb k r)
noncomputable def H0:Bool→CmpOp
 | true=>.NotEq
 | false=>.Eq
noncomputable def Ip:Bool→CmpOp
 | true=>.IsNot
 | false=>.Is
noncomputable def CM:Bool→CmpOp
 | true=>.NotIn
 | false=>.In
noncomputable def ml:V→Bool
 | .non=>true
 | _=>false
noncomputable def ie (b:Bool) (σ:St) (Q:Bool→St→Prop):Bool→Prop:=fun r=>match b with | true=>Q (match r with | true=>false | false=>true) σ | false=>Q r σ
noncomputable def Ak (neg:Bool) (a b:V) (σ:St) (Q:Bool→St→Prop):Prop:=onS (wk 8 σ a) fun d=>onS (wk 8 σ b) fun e=>ie neg σ Q (wY 8 d e)
noncomputable def Kb (neg:Bool) (a b:V) (σ:St) (Q:Bool→St→Prop):Prop:=match a with
 | .int i=>bD b fun j=>ie neg σ Q (G8 i j)
 | .str x=>cE b fun y=>ie neg σ Q (kl x y)
 | a=>Ak neg a b σ Q
noncomputable def Kw (op:CmpOp) (i j:Int) (σ:St) (Q:Bool→St→Prop):Prop:=match op with
 | .Lt=>Q (decide (i<j)) σ
 | .LtE=>Q (decide (i≤j)) σ
 | .Gt=>Q (decide (j<i)) σ
 | .GtE=>Q (decide (j≤i)) σ
 | _=>False
noncomputable def II (op:CmpOp) (a b:V) (σ:St) (Q:Bool→St→Prop):Prop:=bD a fun i=>bD b fun j=>Kw op i j σ Q
noncomputable def Kk (neg:Bool) (a b:V) (σ:St) (Q:Bool→St→Prop):Prop:=match b with
 | .non=>ie neg σ Q (ml a)
 | .ty T=>(match a with
  | .ty U=>ie neg σ Q (decide (U=T))
  | _=>False)
 | _=>False
noncomputable def Jh (d:PyData) (k:List PyData→Prop):Prop:=match d with
 | .list ys=>k ys
 | .tuple ys=>k ys
 | _=>False
noncomputable def As (neg:Bool) (a b:V) (σ:St) (Q:Bool→St→Prop):Prop:=onS (wk 8 σ a) fun d=>onS (wk 8 σ b) fun e=>Jh e fun ys=>ie neg σ Q (iB d ys)
noncomputable def Lj (neg:Bool) (a:V) (o:Option AO) (σ:St) (Q:Bool→St→Prop):Prop:=match o with
 | some (.set ks)=>cE a fun x=>ie neg σ Q (fb x ks)
 | some (.dict kvs)=>cE a fun x=>ie neg σ Q (pS x kvs)
 | _=>False
noncomputable def Ki (neg:Bool) (a b:V) (σ:St) (Q:Bool→St→Prop):Prop:=match b with
 | .loc l=>Lj neg a (aq l σ.st) σ Q
 | _=>As neg a b σ Q
noncomputable def Bn (op:CmpOp) (a b:V) (σ:St) (Q:Bool→St→Prop):Prop:=match op with
 | .Eq=>Kb false a b σ Q
 | .NotEq=>Kb true a b σ Q
 | .Is=>Kk false a b σ Q
 | .IsNot=>Kk true a b σ Q
 | .In=>Ki false a b σ Q
 | .NotIn=>Ki true a b σ Q
 | op=>II op a b σ Q
theorem kj {n:Nat} {d:PyData} (hd:rz n d):∀ {ys:List PyData},(∀ y∈ys,rz 7 y)→iB d ys=ys.any (fun y=>PyData.eqv y d):=by
 intro ys
 induction ys with
 | nil=>intro _; rfl
 | cons y r ih=>
  intro h
  show or (wY 8 y d) (iB d r)=or (PyData.eqv y d) (r.any fun y=>PyData.eqv y d)
  rw [pK 7 (h y (.head _)) hd 8 (by decide),ih fun z hz=>h z (.tail _ hz)]
theorem b8 {k:List Nat} {ks:List (List Nat)}:fb k ks=ks.contains k:=by
 induction ks with
 | nil=>rfl
 | cons x r ih=>
  show or (kl x k) (fb k r)=_
  rw [ih,dG,List.contains_cons]
  by_cases h:x=k
  ·rw [h,beq_self_eq_true,Mb rfl]
  ·rw [Ma h,beq_eq_false_iff_ne.mpr fun e=>h e.symm]
theorem qP {k:List Nat} {kvs:List (List Nat×V)}:∀ {kvals:List (Str×Value)},PairsAre X n kvs kvals→pS k kvs=(valueAt kvals ⟨k.toArray⟩).isSome:=by
 induction kvs with
 | nil=>intro kvals h; cases kvals with | nil=>rfl | cons=>exact h.elim
 | cons p r ih=>
  intro kvals h
  cases kvals with
  | nil=>exact h.elim
  | cons q r'=>
   apply bc;intro z_
   obtain ⟨y,val⟩:=q
   obtain ⟨rfl,_,hr⟩:=h
   apply z_;clear z_
   show or (kl p.1 k) (pS k r)=_
   rw [ih hr,dG]
   simp only [valueAt,List.find?_cons]
   by_cases q:p.1=k
   ·simp [q]
   ·have:¬ ((⟨p.1.toArray⟩:Str)=⟨k.toArray⟩):=by intro e; injection e with e; injection e with e; exact q e
    simp [q,this]
noncomputable def pst (G:Glob) (X:Wd) (env:Env) (n:Nat) (Q:Bool→St→Prop):Value→Shared→Prop:=fun v s'=>∃ b,v=.bool b∧PostB G X env n Q b s'
theorem xy {neg r:Bool} {Q:Bool→St→Prop} (h:ie neg σ Q r):Q (neg ^^ r) σ:=by cases neg <;> cases r <;> exact h
theorem pst.ret {Q:Bool→St→Prop} {neg r b:Bool} (h:ie neg σ Q r) (e:b=(neg ^^ r)) (R:Rel G X env σ s):pst G X env σ.nx Q (.bool b) s:=
 ⟨b,rfl,PostB.ret (e ▸ xy h) R⟩
theorem sY {neg:Bool} {a b:V} {va vb:Value} {Q:Bool→St→Prop} (ha:AOk lv A) (R:Rel G X env σ s) (Wa:RepV X σ.nx a va) (Wb:RepV X σ.nx b vb)
  (h:Ak neg a b σ Q) :
  wpAny (model G.prog G.w) A (compareOp (H0 neg) va vb) (pst G X env σ.nx Q) bg s:=by
 obtain ⟨d,q,h⟩:=onS.out h
 obtain ⟨e,q',h⟩:=onS.out h
 obtain ⟨as,ra,c,l⟩:=fD R 8 Wa q
 obtain ⟨bs,rb,c',l'⟩:=fD R 8 Wb q'
 have hu:A.units+64<cLine:=Mv (Nat.add_le_add_right (Nat.le_add_right ..) _) ha.units
 have e1:=pK 8 (lc 8 q) (lc 8 q') 8 (LR _)
 have sh:∀ {d:PyData},d.canLay0=true→d.depth≤8→SeqAt.shaped d=true:=fun c l=>by
  unfold SeqAt.shaped; rw [c,Bool.true_and]; exact Mb (by omega)
 cases neg with
 | false=>exact eq_dataH ra rb (sh c l) (sh c' l') hu (pst.ret h (by rw [e1,Bool.false_xor]) R)
 | true=>exact ne_dataH ra rb (sh c l) (sh c' l') hu (pst.ret h (by rw [e1,Bool.true_xor]) R)
theorem sX {neg:Bool} {a b:V} {va vb:Value} {Q:Bool→St→Prop} (ha:AOk lv A) (R:Rel G X env σ s) (Wa:RepV X σ.nx a va) (Wb:RepV X σ.nx b vb) (h:Kb neg a b σ Q) :
  wpAny (model G.prog G.w) A (compareOp (H0 neg) va vb) (pst G X env σ.nx Q) bg s:=by
 cases a with
 | int i=>
  obtain ⟨t,rfl⟩:=Wa.inv
  refine Wb.int_ h fun j u h=>?_
  cases neg with
  | false=>exact PyProof.Rows.eq_int (pst.ret h (by rw [iU,Bool.false_xor]) R)
  | true=>exact PyProof.Rows.ne_int (pst.ret h (by rw [iU,Bool.true_xor]; rfl) R)
 | str x=>
  obtain ⟨t,rfl⟩:=Wa.inv
  refine Wb.str_ h fun y u h=>?_
  have e:((⟨x.toArray⟩:Str)==⟨y.toArray⟩)=kl x y:=pJ.symm
  cases neg with
  | false=>exact PyProof.Rows.eq_str (pst.ret h (by rw [e,Bool.false_xor]) R)
  | true=>exact PyProof.Rows.ne_str (pst.ret h (by rw [bne,e,Bool.true_xor]) R)
 | _=>exact sY ha R Wa Wb h
theorem RepV.nonIs {a:V} {va:Value} (W:RepV X n a va):PySem.plainIs va .none=true∧(va==Value.none)=ml a:=
 @RepV.casesOn X n (fun a va _=>PySem.plainIs va .none=true∧(va==Value.none)=ml a) a va W ⟨rfl,rfl⟩ (fun _=>⟨rfl,rfl⟩) (fun _ _=>⟨rfl,rfl⟩) (fun _ _=>⟨rfl,rfl⟩) (fun _ _=>⟨rfl,rfl⟩) (fun _=>⟨rfl,rfl⟩) (fun _=>⟨rfl,rfl⟩) (fun _ _=>⟨rfl,rfl⟩)
  (fun _ _ _ _ _=>⟨rfl,rfl⟩) (fun _ _ _ _ _ _ _=>⟨rfl,rfl⟩) (fun _ _ _ _ _ _ _=>⟨rfl,rfl⟩) (fun _ _ _ _=>⟨rfl,rfl⟩) (fun _ _ _ _ _ _ _ _=>⟨rfl,rfl⟩) (fun _=>⟨rfl,rfl⟩) (fun _ _ _ _ _ _ _ _ _ _ _=>⟨rfl,rfl⟩)
theorem tR {neg:Bool} {a b:V} {va vb:Value} {Q:Bool→St→Prop} (R:Rel G X env σ s) (Wa:RepV X σ.nx a va) (Wb:RepV X σ.nx b vb) (h:Kk neg a b σ Q) :
  wpAny (model G.prog G.w) A (compareOp (Ip neg) va vb) (pst G X env σ.nx Q) bg s:=by
 have fin:∀ {vb:Value} {r:Bool},PySem.plainIs va vb=true→(va==vb)=r→ie neg σ Q r→wpAny (model G.prog G.w) A (compareOp (Ip neg) va vb) (pst G X env σ.nx Q) bg s:=fun {vb r} hp e h=>by
  cases neg with
  | false=>exact wpAny_is_plain hp (pst.ret h (by rw [e,Bool.false_xor]) R)
  | true=>exact wpAny_isNot_plain hp (pst.ret h (by rw [e,Bool.true_xor]) R)
 cases b with
 | non=>
  cases (Wb.inv:vb=.none)
  exact fin Wa.nonIs.1 Wa.nonIs.2 h
 | ty T=>
  cases (Wb.inv:vb=.type T)
  cases a with
  | ty U=>
   cases (Wa.inv:va=.type U)
   exact fin rfl (by by_cases q:U=T <;> simp [q]) h
  | _=>exact h.elim
 | _=>exact h.elim
theorem xD {op:CmpOp} {a b:V} {va vb:Value} {Q:Bool→St→Prop} (R:Rel G X env σ s) (Wa:RepV X σ.nx a va) (Wb:RepV X σ.nx b vb) (h:II op a b σ Q) :
  wpAny (model G.prog G.w) A (compareOp op va vb) (pst G X env σ.nx Q) bg s:=by
 refine Wa.int_ h fun i t h=>?_
 refine Wb.int_ h fun j u h=>?_
 cases op with
 | Lt=>exact PyProof.Rows.lt_int ⟨_,rfl,PostB.ret h R⟩
 | LtE=>exact PyProof.Rows.le_int ⟨_,rfl,PostB.ret h R⟩
 | Gt=>exact PyProof.Rows.gt_int ⟨_,rfl,PostB.ret h R⟩
 | GtE=>exact PyProof.Rows.ge_int ⟨_,rfl,PostB.ret h R⟩
 | _=>exact h.elim
theorem tN {neg:Bool} {a b:V} {va vb:Value} {Q:Bool→St→Prop} (ha:AOk lv A) (R:Rel G X env σ s) (Wa:RepV X σ.nx a va) (Wb:RepV X σ.nx b vb) (h:As neg a b σ Q) :
  wpAny (model G.prog G.w) A (compareOp (CM neg) va vb) (pst G X env σ.nx Q) bg s:=by
 obtain ⟨d,q,h⟩:=onS.out h
 obtain ⟨e,q',h⟩:=onS.out h
 obtain ⟨as,ra,c,l⟩:=fD R 8 Wa q
 obtain ⟨bs,rb,c',l'⟩:=fD R 8 Wb q'
 have hroom:∀ ys,A.units+1+min (PyData.depthAll ys) d.depth<cLine:=fun ys=>Mv (LN (Nat.add_le_add_left (LN (Nat.min_le_right ..) l) _) (by omega)) ha.units
 have o1:=lc 8 q
 have o2:=lc 8 q'
 cases e with
 | list ys=>
  have e1:iB d ys=_:=kj o1 o2
  have h:ie neg σ Q (iB d ys):=h
  cases neg with
  | false=>exact in_list_reads rb ra c' c (hroom _) (pst.ret h (by rw [e1,Bool.false_xor]) R)
  | true=>exact notIn_list_reads rb ra c' c (hroom _) (pst.ret h (by rw [e1,Bool.true_xor]) R)
 | tuple ys=>
  have e1:iB d ys=_:=kj o1 o2
  have h:ie neg σ Q (iB d ys):=h
  cases neg with
  | false=>exact in_tuple_reads rb ra c' c (hroom _) (pst.ret h (by rw [e1,Bool.false_xor]) R)
  | true=>exact notIn_tuple_reads rb ra c' c (hroom _) (pst.ret h (by rw [e1,Bool.true_xor]) R)
 | _=>exact h.elim
theorem CL {neg:Bool} {a:V} {l:Nat} {va:Value} {Q:Bool→St→Prop} (R:Rel G X env σ s) (Wa:RepV X σ.nx a va) (h:Lj neg a (aq l σ.st) σ Q) :
  wpAny (model G.prog G.w) A (compareOp (CM neg) va (.ref (X.ρ l))) (pst G X env σ.nx Q) bg s:=by
 cases q:aq l σ.st with
 | none=>rw [q] at h; exact h.elim
 | some ao=>
  rw [q] at h
  cases ao with
  | set ks=>
   refine Wa.str_ h fun x t h=>?_
   apply bc;intro z_
   obtain ⟨_,S,h1,h2⟩:=R.st l _ q
   apply z_;clear z_
   have e:S ⟨x.toArray⟩=fb x ks:=by rw [h2,b8]
   have hk:(PySem.strKind G.prog G.w).is ⟨x.toArray⟩ (.str ⟨x.toArray⟩ t)=true:=strKind_is _ _ _ _
   cases neg with
   | false=>exact wpAny_inSet_of hk rfl h1 (pst.ret h (by rw [e,Bool.false_xor]) (R.toks _))
   | true=>exact wpAny_notInSet_of hk rfl h1 (pst.ret h (by rw [e,Bool.true_xor]) (R.toks _))
  | dict kvs=>
   refine Wa.str_ h fun x t h=>?_
   apply bc;intro z_
   obtain ⟨_,kvals,h1,h2⟩:=R.st l _ q
   apply z_;clear z_
   have e:=qP (k:=x) h2
   have hk:(PySem.strKind G.prog G.w).is ⟨x.toArray⟩ (.str ⟨x.toArray⟩ t)=true:=strKind_is _ _ _ _
   cases neg with
   | false=>exact wpAny_in_of hk (eT R q) h1.mapOf (pst.ret h (by rw [e,Bool.false_xor]) (R.toks _))
   | true=>exact wpAny_notIn_of hk (eT R q) h1.mapOf (pst.ret h (by rw [e,Bool.true_xor]) (R.toks _))
  | _=>exact h.elim
theorem tM {neg:Bool} {a b:V} {va vb:Value} {Q:Bool→St→Prop} (ha:AOk lv A) (R:Rel G X env σ s) (Wa:RepV X σ.nx a va) (Wb:RepV X σ.nx b vb) (h:Ki neg a b σ Q) :
  wpAny (model G.prog G.w) A (compareOp (CM neg) va vb) (pst G X env σ.nx Q) bg s:=by
 cases b with
 | loc l=>cases (Wb.inv:vb=.ref (X.ρ l)); exact CL R Wa h
 | _=>exact tN ha R Wa Wb h
theorem pC {op:CmpOp} {a b:V} {va vb:Value} {Q:Bool→St→Prop} (ha:AOk lv A) (R:Rel G X env σ s) (Wa:RepV X σ.nx a va) (Wb:RepV X σ.nx b vb) (h:Bn op a b σ Q) :
  wpAny (model G.prog G.w) A (compareOp op va vb) (pst G X env σ.nx Q) bg s:=by
 cases op with
 | Eq=>exact sX (neg:=false) ha R Wa Wb h
 | NotEq=>exact sX (neg:=true) ha R Wa Wb h
 | Is=>exact tR (neg:=false) R Wa Wb h
 | IsNot=>exact tR (neg:=true) R Wa Wb h
 | In=>exact tM (neg:=false) ha R Wa Wb h
 | NotIn=>exact tM (neg:=true) ha R Wa Wb h
 | _=>exact xD R Wa Wb h
theorem pg {op:CmpOp} {l r:PySem.Expr} {dl dr:DE} {p:Pos} (hl:SE G lv sc l dl) (hr:SE G lv sc r dr) (hm:behindInMarks op r=false) :
  SE G lv sc (.Compare l [op] [r] p) (fun σ Q=>dl σ fun a σ1=>dr σ1 fun b σ2=>Bn op a b σ2 fun z σ3=>Q (.boo z) σ3):=fun σ Q hd A env X s ha he R=>by
 refine wpAny_Compare1 (hl.run hd ha he R fun va s1 a σ1 X1 k1 L1 n1 R1 W1=>hr.run k1 ha he R1 fun vb s2 b σ2 X2 k2 L2 n2 R2 W2=>?_) hm
 refine LF (pC ha R2 (W1.mono L2 n2) W2 k2) (fun v s3 z=>?_) fun _ _ z=>z
 obtain ⟨b,rfl,σ3,X3,q,L3,n3,R3⟩:=z
 exact ⟨_,σ3,X3,q,(L1.trans L2 n1).trans L3 (LN n1 n2),LN (LN n1 n2) n3,R3,.boo b⟩
noncomputable def wK (op:CmpOp) (dl dr:DE):DB:=fun σ Q=>dl σ fun a σ1=>dr σ1 fun b σ2=>Bn op a b σ2 Q
theorem a9 {op:CmpOp} {l r:PySem.Expr} {dl dr:DE} {p:Pos} (hl:SE G lv sc l dl) (hr:SE G lv sc r dr) (hm:behindInMarks op r=false):SB G lv sc (.Compare l [op] [r] p) (wK op dl dr):=fun σ Q hd A env X s ha he R=>by
 refine wpAny_isTrue_Compare1 (hl.run hd ha he R fun va s1 a σ1 X1 k1 L1 n1 R1 W1=>hr.run k1 ha he R1 fun vb s2 b σ2 X2 k2 L2 n2 R2 W2=>?_) hm
 refine LF (pC ha R2 (W1.mono L2 n2) W2 k2) (fun v s3 z=>?_) fun _ _ z=>z
 apply bc;intro z_
 obtain ⟨b,rfl,z⟩:=z
 apply z_;clear z_
 exact wpAny_truthy_bool (PostB.lift (L1.trans L2 n1) (LN n1 n2) z)
noncomputable def wM (d:DE):DB:=fun σ Q=>d σ fun v σ1=>vY v σ1 Q
theorem bo {e:PySem.Expr} {d:DE} (h:SE G lv sc e d) (hv:∀ env w,isTrue e env w=(do let v ← w; standAt e.pos; holding [v] (truthy v))):SB G lv sc e (wM d):=fun σ Q hd A env X s ha he R=>by
 rw [hv]
 refine LD (h.run hd ha he R fun va s1 a σ1 X1 k1 L1 n1 R1 W1=>LD (LH (LG ?_)))
 exact LF (v3 k1 R1 W1) (fun _ _ z=>PostB.lift L1 n1 z) fun _ _ z=>z
noncomputable def nb:Bool→Bool
 | true=>false
 | false=>true
noncomputable def wL (d:DB):DB:=fun σ Q=>d σ fun b σ1=>Q (nb b) σ1
theorem pq {e:PySem.Expr} {d:DB} {p:Pos} (h:SB G lv sc e d):SB G lv sc (.UnaryOp .Not e p) (wL d):=fun σ Q hd A env X s ha he R=>by
 refine wpAny_isTrue_Not (h.run hd ha he R fun b s1 σ1 X1 k1 L1 n1 R1=>?_)
 have:(!b)=nb b:=by cases b <;> rfl
 rw [this]
 exact ⟨σ1,X1,k1,L1,n1,R1⟩
noncomputable def Ba (G:Glob) (lv:Nat) (sc:Sc) (op:BoolOp) (es:List PySem.Expr) (d:DB):Prop:=∀ σ Q,d σ Q→∀ A env X s,AOk lv A→EOk sc env→Rel G X env σ s →
 wpAny (model G.prog G.w) A (allTrue op es env) (PostB G X env σ.nx Q) bg s
theorem cU:Ba G lv sc .And [] (fun σ Q=>Q true σ):=fun σ Q hd A env X s ha he R=>wpAny_allTrue_And_nil (PostB.ret hd R)
theorem wo:Ba G lv sc .Or [] (fun σ Q=>Q false σ):=fun σ Q hd A env X s ha he R=>wpAny_allTrue_Or_nil (PostB.ret hd R)
noncomputable def rI (d ds:DB):DB:=fun σ Q=>d σ fun b σ1=>match b with | true=>ds σ1 Q | false=>Q false σ1
theorem bH {e:PySem.Expr} {es:List PySem.Expr} {d ds:DB} (h:SB G lv sc e d) (hs:Ba G lv sc .And es ds):Ba G lv sc .And (e::es) (rI d ds):=fun σ Q hd A env X s ha he R=>by
 refine wpAny_allTrue_And_cons (h.run hd ha he R fun b s1 σ1 X1 k1 L1 n1 R1=>?_)
 cases b with
 | true=>exact LF (hs σ1 Q k1 A env X1 s1 ha he R1) (fun _ _ z=>PostB.lift L1 n1 z) fun _ _ z=>z
 | false=>exact PostB.lift L1 n1 (PostB.ret k1 R1)
noncomputable def wp (d ds:DB):DB:=fun σ Q=>d σ fun b σ1=>match b with | true=>Q true σ1 | false=>ds σ1 Q
theorem zT {e:PySem.Expr} {es:List PySem.Expr} {d ds:DB} (h:SB G lv sc e d) (hs:Ba G lv sc .Or es ds):Ba G lv sc .Or (e::es) (wp d ds):=fun σ Q hd A env X s ha he R=>by
 refine wpAny_allTrue_Or_cons (h.run hd ha he R fun b s1 σ1 X1 k1 L1 n1 R1=>?_)
 cases b with
 | false=>exact LF (hs σ1 Q k1 A env X1 s1 ha he R1) (fun _ _ z=>PostB.lift L1 n1 z) fun _ _ z=>z
 | true=>exact PostB.lift L1 n1 (PostB.ret k1 R1)
theorem du {op:BoolOp} {es:List PySem.Expr} {d:DB} {p:Pos} (h:Ba G lv sc op es d):SB G lv sc (.BoolOp op es p) d:=fun σ Q hd A env X s ha he R=>
 wpAny_isTrue_BoolOp (h σ Q hd A env X s ha he R)
noncomputable def wt (dt:DB) (db do_:DE):DE:=fun σ Q=>dt σ fun z σ1=>match z with | true=>db σ1 Q | false=>do_ σ1 Q
theorem eV {t b o:PySem.Expr} {dt:DB} {db do_:DE} {p:Pos} (ht:SB G lv sc t dt) (hb:SE G lv sc b db) (ho:SE G lv sc o do_):SE G lv sc (.IfExp t b o p) (wt dt db do_):=fun σ Q hd A env X s ha he R=>by
 refine wpAny_IfExp (ht.run hd ha he R fun b s1 σ1 X1 k1 L1 n1 R1=>?_)
 cases b with
 | true=>exact LF (hb σ1 Q k1 A env X1 s1 ha he R1) (fun _ _ z=>Post.lift L1 n1 z) fun _ _ z=>z
 | false=>exact LF (ho σ1 Q k1 A env X1 s1 ha he R1) (fun _ _ z=>Post.lift L1 n1 z) fun _ _ z=>z
theorem al:iQ G lv sc [] (fun σ Q=>Q .next σ):=fun σ Q hd A env X s ha he R=>wpAny_execs_nil ⟨.next,σ,X,hd,.refl,LR _,R,.next⟩
noncomputable def r6 (d ds:DS):DS:=fun σ Q=>d σ fun fl σ1=>match fl with | .next=>ds σ1 Q | fl=>Q fl σ1
theorem ab {b:PySem.Stmt} {r:List PySem.Stmt} {d ds:DS} (h:SS G lv sc b d) (hs:iQ G lv sc r ds):iQ G lv sc (b::r) (r6 d ds):=fun σ Q hd A env X s ha he R=>by
 refine wpAny_execs_cons (h.run hd ha he R fun f s1 fl σ1 X1 k1 L1 n1 R1 W1=>?_)
 cases W1 with
 | next=>exact LF (hs σ1 Q k1 A env X1 s1 ha he R1) (fun _ _ z=>PostS.lift L1 n1 z) fun _ _ z=>z
 | brk=>exact ⟨_,σ1,X1,k1,L1,n1,R1,.brk⟩
 | cont=>exact ⟨_,σ1,X1,k1,L1,n1,R1,.cont⟩
 | ret v val W=>exact ⟨_,σ1,X1,k1,L1,n1,R1,.ret v val W⟩
theorem wH {p:Pos}:SS G lv sc (.Break p) (fun σ Q=>Q .brk σ):=fun σ Q hd A env X s ha he R=>wpAny_Break ⟨.brk,σ,X,hd,.refl,LR _,R,.brk⟩
noncomputable def nv (d:DE):DS:=fun σ Q=>d σ fun v σ1=>Q (.ret v) σ1
theorem aK {e:PySem.Expr} {d:DE} {p:Pos} (h:SE G lv sc e d):SS G lv sc (.Return (some e) p) (nv d):=fun σ Q hd A env X s ha he R=>
 wpAny_Return_some (h.run hd ha he R fun va s1 a σ1 X1 k1 L1 n1 R1 W1=>⟨_,σ1,X1,k1,L1,n1,R1,.ret a va W1⟩)
theorem qy {p:Pos}:SS G lv sc (.Return none p) (fun σ Q=>Q (.ret .non) σ):=fun σ Q hd A env X s ha he R=>wpAny_Return_none ⟨_,σ,X,hd,.refl,LR _,R,.ret _ _ .non⟩
noncomputable def Bb (dt:DB) (db do_:DS):DS:=fun σ Q=>dt σ fun z σ1=>match z with | true=>db σ1 Q | false=>do_ σ1 Q
theorem bL {t:PySem.Expr} {b o:List PySem.Stmt} {dt:DB} {db do_:DS} {p:Pos} (ht:SB G lv sc t dt) (hb:iQ G lv sc b db) (ho:iQ G lv sc o do_):SS G lv sc (.If t b o p) (Bb dt db do_):=fun σ Q hd A env X s ha he R=>by
 refine wpAny_If (ht.run hd ha he R fun b s1 σ1 X1 k1 L1 n1 R1=>?_)
 cases b with
 | true=>exact LF (hb σ1 Q k1 A env X1 s1 ha he R1) (fun _ _ z=>PostS.lift L1 n1 z) fun _ _ z=>z
 | false=>exact LF (ho σ1 Q k1 A env X1 s1 ha he R1) (fun _ _ z=>PostS.lift L1 n1 z) fun _ _ z=>z
theorem jo (he:EOk sc env):interactive env=false:=by
 unfold interactive
 rw [he.kind]; rfl
noncomputable def r7 (d:DE):DS:=fun σ Q=>d σ fun v σ1=>Q .next σ1
theorem aS {e:PySem.Expr} {d:DE} {p:Pos} (h:SE G lv sc e d) (hs:∀ env,swapsWith e none p.line env=pure false):SS G lv sc (.Expr e p) (r7 d):=fun σ Q hd A env X s ha he R=>
 wpAny_Expr_any (h.run hd ha he R fun va s1 a σ1 X1 k1 L1 n1 R1 W1=>⟨_,σ1,X1,k1,L1,n1,R1,.next⟩) (jo he) (hs env)
theorem kD {l:List (Str×NameKind)} (nd:(l.map (·.1)).Nodup) {i j:Nat} {x:Str} {k k':NameKind} (hi:l[i]?=some (x,k)) (hj:l[j]?=some (x,k')):i=j:=by
 induction l generalizing i j with
 | nil=>simp at hi
 | cons y r ih=>
  simp only [List.map_cons,List.nodup_cons] at nd
  cases i with
  | zero=>
   cases j with
   | zero=>rfl
   | succ j=>
    simp at hi hj
    subst hi
    exact absurd (List.mem_map.mpr ⟨_,Mh hj,rfl⟩) nd.1
  | succ i=>
   cases j with
   | zero=>
    simp at hi hj
    subst hj
    exact absurd (List.mem_map.mpr ⟨_,Mh hi,rfl⟩) nd.1
   | succ j=>simp at hi hj; rw [ih nd.2 hi hj]
noncomputable def c9 (i:Nat) (v:V) (σ:St):St:={σ with lo:=fq i v σ.lo}
theorem fT {α:Type} {P:Nat→α→Prop} {i:Nat} {v:α} {lo:List (Nat×α)} (hi:P i v) (h:∀ j w,j≠i→aq j lo=some w→P j w):∀ j w,aq j (fq i v lo)=some w→P j w:=fun j w e=>by
 rw [dN] at e
 by_cases hj:j=i
 ·rw [LV hj] at e; cases e; exact hj ▸ hi
 ·rw [LU hj] at e; exact h j w hj e
theorem Rel.reloc {lo:List (Nat×V)} {h':Heap} {a:Addr} {t:Nat} (R:Rel G X env σ s) (hF:X.F a=none) (hρ:∀ l o,aq l σ.st=some o→X.ρ l≠a) (hT:a≠G.T) (hp:∀ b o,G.Hp b=some o→b≠a)
  (hs:∀ b,b≠a→h'.get? b=s.heap.get? b) (loc:LocOk G X σ.nx σ.st env lo h'):Rel G X env {σ with lo:=lo} {s with heap:=h',toks:=t}:=
 ⟨fun b o e=>(hs b fun w=>by rw [w,hF] at e; cases e).trans (R.sub b o e),R.base,R.own,R.inj,R.big,fun l o e=>⟨(R.st l o e).1,(R.st l o e).2.go .refl (LR _) (hs _ (hρ l o e))⟩,
  ⟨(hs _ hT.symm).trans R.tab.1,R.tab.2⟩,loc,R.os,R.drawn,R.gens,fun b o e=>⟨(hs b (hp b o e)).trans (R.hp b o e).1,(R.hp b o e).2⟩⟩
theorem gm {i:Nat} {x:Str} {k:NameKind} {v:V} {val:Value} {Q:Unit→Shared→Prop} (hx:sc.names[i]?=some (x,k)) (hk:k=.local∨(k=.cell∧sc.fn=true)) (he:EOk sc env) (R:Rel G X env σ s) (W:RepV X σ.nx v val)
  (q:∀ s',Rel G X env (c9 i v σ) s'→Q () s'):wpAny (model G.prog G.w) A (storeName env x val) Q bg s:=by
 have hkf:=he.kind
 have hkind:=iW he hx
 have f1:=R.loc.freeL
 have f2:=R.loc.freeC
 have ne:∀ {j:Nat} {y:Str} {k':NameKind},j≠i→env.scope.names[j]?=some (y,k')→¬ y=x:=fun {j y k'} hj e1 w=>hj (kD he.nd (by rw [← he.names]; exact w ▸ e1) hx)
 apply bc;intro z_
 obtain ⟨m,cm,n1,n2,n3⟩:=R.loc.ns
 apply z_;clear z_
 rcases hk with rfl | ⟨rfl,hfn⟩
 ·refine wpAny_storeName_local hkind n1 (fun h' hn hs=>q _ ?_) (by rw [hkf]; rfl)
  have ncl:∀ x c,env.cells.lookup x=some c→c≠env.locals:=fun x c e=>by
   by_cases w:env.frame=some env.locals
   ·exact (f2 w x c e).2.2.1
   ·apply bc;intro z_
    obtain ⟨o,z⟩:=R.loc.frzC w x c e
    apply z_;clear z_
    intro w'; rw [w',f1.1] at z; cases z
  refine R.reloc (lo:=fq i v σ.lo) f1.1 f1.2.1 f1.2.2 (fun b o e=>(R.hp b o e).2.2.2.1) hs.2 ⟨⟨_,cm,hn,fun x c e=>let ⟨o,ho,hd⟩:=n2 x c e; ⟨o,(hs.2 _ (ncl x c e)).trans ho,hd⟩,?_⟩,f1,f2,R.loc.frzC,R.loc.apart⟩
  refine fT ⟨x,.local,val,by rw [he.names]; exact hx,W,.inl ⟨rfl,LV rfl⟩⟩ fun j w hj e=>?_
  apply bc;intro z_
  obtain ⟨y,k',val',e1,W',e2⟩:=n3 j w e
  apply z_;clear z_
  exact ⟨y,k',val',e1,W',e2.imp_left fun e3=>⟨e3.1,(LU (ne hj e1)).trans e3.2⟩⟩
 ·obtain ⟨c,hc⟩:=Option.isSome_iff_exists.mp (he.hasC x (by have:=hkind; unfold Env.kindOf at this; rw [he.names] at this; exact this))
  apply bc;intro z_
  obtain ⟨g1,g2,g3,g4⟩:=f2 (he.fn hfn) x c hc
  apply z_;clear z_
  refine wpAny_storeName_cell hkf hkind hc (n2 x c hc) fun h' hn hs=>q _ ?_
  refine R.reloc (lo:=fq i v σ.lo) g1 g2 g4 (fun b o e=>((R.hp b o e).2.2.2.2.1 x c hc).symm) hs.2 ⟨⟨m,fun y=>if y=x then some val else cm y,ij n1 (hs.2 _ g3.symm),fun y c' e=>?_,?_⟩,f1,f2,R.loc.frzC,R.loc.apart⟩
  ·by_cases hy:y=x
   ·subst hy; rw [hc] at e; cases e; dsimp only; rw [LV rfl]; exact hn
   ·dsimp only; rw [LU hy]
    have:c'≠c:=fun w=>hy (name_of_addr R.loc.apart (mem_of_lookup (w ▸ e)) (mem_of_lookup hc))
    obtain ⟨o,ho,hd⟩:=n2 y c' e; exact ⟨o,(hs.2 _ this).trans ho,hd⟩
  ·refine fT ⟨x,.cell,val,by rw [he.names]; exact hx,W,.inr ⟨.inl rfl,by rw [hc]; rfl,LV rfl⟩⟩ fun j w hj e=>?_
   apply bc;intro z_
   obtain ⟨y,k',val',e1,W',e2⟩:=n3 j w e
   apply z_;clear z_
   exact ⟨y,k',val',e1,W',e2.imp_right fun e3=>⟨e3.1,e3.2.1,(LU (ne hj e1)).trans e3.2.2⟩⟩
noncomputable abbrev DT:=V→St→(St→Prop)→Prop
noncomputable def ST (G:Glob) (lv:Nat) (sc:Sc) (t:PySem.Expr) (d:DT):Prop:=∀ v σ Q,d v σ Q→∀ A env X s val,AOk lv A→EOk sc env→Rel G X env σ s→RepV X σ.nx v val →
 wpAny (model G.prog G.w) A (assign t env val) (PostT G X env σ.nx Q) bg s
theorem aj {i:Nat} {x:Str} {k:NameKind} {p:Pos} (hx:sc.names[i]?=some (x,k)) (hk:k=.local∨(k=.cell∧sc.fn=true)):ST G lv sc (.Name x p) (fun v σ Q=>Q (c9 i v σ)):=
 fun v σ Q hd A env X s val ha he R W=>wpAny_assign_Name (gm hx hk he R W fun s' R'=>⟨_,X,hd,.refl,LR _,R'⟩)
noncomputable def JP (G:Glob) (lv:Nat) (sc:Sc) (ts:List PySem.Expr) (d:List V→St→(St→Prop)→Prop):Prop:=∀ vs σ Q,d vs σ Q→∀ A env X s vals,AOk lv A→EOk sc env→Rel G X env σ s→RepVs X σ.nx vs vals →
 wpAny (model G.prog G.w) A (assignInOrder ((assignEach ts env).map (·.2)) vals) (PostT G X env σ.nx Q) bg s
theorem cG:JP G lv sc [] (fun vs σ Q=>match vs with | []=>Q σ | _::_=>False):=fun vs σ Q hd A env X s vals ha he R W=>by
 cases W with
 | nil=>exact LE ⟨σ,X,hd,.refl,LR _,R⟩
 | cons=>exact hd.elim
theorem aO {t:PySem.Expr} {ts:List PySem.Expr} {d:DT} {ds:List V→St→(St→Prop)→Prop} (h:ST G lv sc t d) (hs:JP G lv sc ts ds) (hst:∀ env,assignEach (t::ts) env=(false,assign t env)::assignEach ts env) :
  JP G lv sc (t::ts) (fun vs σ Q=>match vs with | v::r=>d v σ fun σ1=>ds r σ1 Q | []=>False):=fun vs σ Q hd A env X s vals ha he R W=>by
 cases W with
 | nil=>exact hd.elim
 | cons w ws=>
  rw [hst,List.map_cons]
  show wpAny _ _ (do holding _ (assign t env _); assignInOrder _ _) _ _ _
  refine LD (LG (LF (h _ σ _ hd A env X s _ ha he R w) (fun _ s1 y_=>?_) fun _ _ z=>z))
  apply bc;intro z_
  obtain ⟨σ1,X1,q,L1,n1,R1⟩:=y_
  apply z_;clear z_
  refine LF (hs _ σ1 Q q A env X1 s1 _ ha he R1 (ws.mono L1 n1)) (fun _ s2 y_=>?_) fun _ _ z=>z
  apply bc;intro z_
  obtain ⟨σ2,X2,q,L2,n2,R2⟩:=y_
  apply z_;clear z_
  exact ⟨σ2,X2,q,L1.trans L2 n1,LN n1 n2,R2⟩
noncomputable def pX {α β:Type}:List α→List β→Bool
 | [],[]=>true
 | _::r,_::t=>pX r t
 | _,_=>false
theorem ju {α β:Type}:∀ {xs:List α} {ys:List β},pX xs ys=true→xs.length=ys.length
 | [],[],_=>rfl
 | _::r,_::t,h=>by simp [ju (xs:=r) (ys:=t) h]
 | [],_::_,h=>by cases h
 | _::_,[],h=>by cases h
theorem km {h h':Heap} (e:Heap.ExtBut h.objs.size h h'):∀ b o,h.get? b=some o→h'.get? b=some o:=fun b o q=>e b o (Ms (L7 q)) q
theorem bX {ts:List PySem.Expr} {ds:List V→St→(St→Prop)→Prop} {k:Nat} {p:Pos} (hs:JP G lv sc ts ds) (hst:∀ env,(assignEach ts env).findIdx? (·.1)=none) (hlen:∀ env,(assignEach ts env).length=ts.length) :
  ST G lv sc (.Tuple ts k p) (fun v σ Q=>v4 v fun vs=>onT (pX ts vs) (ds vs σ Q)):=fun v σ Q hd A env X s val ha he R W=>by
 refine W.tup_ hd fun vs vals a o h ho hsv hd=>?_
 obtain ⟨hl,hd⟩:=onT.out hd
 refine wpAny_assign_Tuple ha.handled (ho.isTuple (R.sub _ _ h)) (by rw [hlen,LW,hsv.length]; exact ju hl) (hst env) fun h' e=>?_
 exact hs vs σ Q hd A env X _ _ ha he (R.heap (t:=s.toks) (km e)) hsv
noncomputable def JO (G:Glob) (lv:Nat) (sc:Sc) (ts:List PySem.Expr) (d:DT):Prop:=∀ v σ Q,d v σ Q→∀ A env X s val,AOk lv A→EOk sc env→Rel G X env σ s→RepV X σ.nx v val →
 wpAny (model G.prog G.w) A (assignAll val ((assignEach ts env).map (·.2))) (PostT G X env σ.nx Q) bg s
theorem am {t:PySem.Expr} {d:DT} (h:ST G lv sc t d) (hst:∀ env,assignEach [t] env=[(false,assign t env)]):JO G lv sc [t] d:=fun v σ Q hd A env X s val ha he R W=>by
 rw [hst]; exact h v σ Q hd A env X s val ha he R W
theorem gt {t t':PySem.Expr} {ts:List PySem.Expr} {d ds:DT} (h:ST G lv sc t d) (hs:JO G lv sc (t'::ts) ds) (hst:∀ env,assignEach (t::t'::ts) env=(false,assign t env)::assignEach (t'::ts) env)
  (hne:∀ env,∃ a b,assignEach (t'::ts) env=a::b) :
  JO G lv sc (t::t'::ts) (fun v σ Q=>d v σ fun σ1=>ds v σ1 Q):=fun v σ Q hd A env X s val ha he R W=>by
 rw [hst,List.map_cons]
 have hs':=hs
 apply bc;intro z_
 obtain ⟨a,b,e⟩:=hne env
 apply z_;clear z_
 have key:assignAll val (assign t env::(assignEach (t'::ts) env).map (·.2))=(do holding [val] (assign t env val); assignAll val ((assignEach (t'::ts) env).map (·.2))):=by rw [e]; rfl
 rw [key]
 refine LD (LG (LF (h _ σ _ hd A env X s _ ha he R W) (fun _ s1 y_=>?_) fun _ _ z=>z))
 apply bc;intro z_
 obtain ⟨σ1,X1,q,L1,n1,R1⟩:=y_
 apply z_;clear z_
 refine LF (hs v σ1 Q q A env X1 s1 _ ha he R1 (W.mono L1 n1)) (fun _ s2 y_=>?_) fun _ _ z=>z
 apply bc;intro z_
 obtain ⟨σ2,X2,q,L2,n2,R2⟩:=y_
 apply z_;clear z_
 exact ⟨σ2,X2,q,L1.trans L2 n1,LN n1 n2,R2⟩
noncomputable def f6 (d:DE) (dt:DT):DS:=fun σ Q=>d σ fun v σ1=>dt v σ1 fun σ2=>Q .next σ2
theorem ad {ts:List PySem.Expr} {e:PySem.Expr} {d:DE} {dt:DT} {p:Pos} (h:SE G lv sc e d) (ht:JO G lv sc ts dt) (h1:∀ env,swapsWithSole ts e p.line env=pure false) (h2:∀ env,EOk sc env→swappedStores ts e env=pure none):SS G lv sc (.Assign ts e p) (f6 d dt):=fun σ Q hd A env X s ha he R=>by
 refine wpAny_Assign_stores (h.run hd ha he R fun va s1 a σ1 X1 k1 L1 n1 R1 W1=>?_) (h1 env) (h2 env he)
 refine LF (ht a σ1 _ k1 A env X1 s1 va ha he R1 W1) (fun _ s2 y_=>?_) fun _ _ z=>z
 apply bc;intro z_
 obtain ⟨σ2,X2,q,L2,n2,R2⟩:=y_
 apply z_;clear z_
 exact ⟨.next,σ2,X2,q,L1.trans L2 n1,LN n1 n2,R2,.next⟩
noncomputable def qf:List Nat→List V→St→St
 | i::r,v::t,σ=>qf r t (c9 i v σ)
 | _,_,σ=>σ
theorem m7 {is:List Nat}:∀ {xs:List Str} {vs:List V} {vals:List Value} {σ:St} {s:Shared} {Q:Unit→Shared→Prop},is.length=xs.length→(∀ (j i:Nat) (x:Str),is[j]?=some i→xs[j]?=some x→sc.names[i]?=some (x,NameKind.local))→vs.length=xs.length →
  EOk sc env→Rel G X env σ s→RepVs X σ.nx vs vals→(∀ s',Rel G X env (qf is vs σ) s'→Q () s')→wpAny (model G.prog G.w) A (assignInOrder (xs.map fun n=>bindName env n) vals) Q bg s:=by
 induction is with
 | nil=>
  intro xs vs vals σ s Q h1 h2 h3 he R W q
  cases xs with
  | cons=>cases h1
  | nil=>cases vs with
   | cons=>cases h3
   | nil=>cases W; exact LE (q s R)
 | cons i is ih=>
  intro xs vs vals σ s Q h1 h2 h3 he R W q
  cases xs with
  | nil=>cases h1
  | cons x xs=>
   cases vs with
   | nil=>cases h3
   | cons v vs=>
    cases W with
    | cons w ws=>
     show wpAny _ _ (do holding _ (bindName env x _); assignInOrder _ _) _ _ _
     refine LD (LG (wpAny_bindName (gm (h2 0 i x rfl rfl) (.inl rfl) he R w fun s' R'=>?_)))
     exact ih (by simpa using h1) (fun j i' x' a b=>h2 (j+1) i' x' (by simpa using a) (by simpa using b)) (by simpa using h3) he R' ws q
theorem RepVs.rev {vs:List V} {vals:List Value} (h:RepVs X n vs vals):RepVs X n vs.reverse vals.reverse:=by
 induction vs generalizing vals with
 | nil=>cases h; exact .nil
 | cons v r ih=>cases h with | cons a b=>rw [List.reverse_cons,List.reverse_cons]; exact (ih b).append (.cons a .nil)
theorem vD:∀ {is:List Nat} {vs:List V} {σ:St},(qf is vs σ).nx=σ.nx:=by
 intro is
 induction is with
 | nil=>intro vs σ; rfl
 | cons i is ih=>intro vs σ; cases vs with | nil=>rfl | cons v vs=>exact ih
theorem d7 {ts:List PySem.Expr} {e:PySem.Expr} {d:DE} {p:Pos} {is:List Nat} {xs:List Str} {k:Nat} {q:Pos} (h:SE G lv sc e d) (h1:∀ env,swapsWithSole [.Tuple ts k q] e p.line env=pure false)
  (h2:∀ env,EOk sc env→swappedStores [.Tuple ts k q] e env=pure (some xs.reverse)) (h3:is.length=xs.length) (h4:∀ (j i:Nat) (x:Str),is[j]?=some i→xs[j]?=some x→sc.names[i]?=some (x,NameKind.local)) :
  SS G lv sc (.Assign [.Tuple ts k q] e p) (fun σ Q=>d σ fun v σ1=>v4 v fun vs=>onT (pX is vs) (Q .next (qf is vs.reverse σ1))):=fun σ Q hd A env X s ha he R=>by
 refine PyProof.Rows.Assign_Tuple_swapped (names:=xs.reverse) (h.run hd ha he R fun va s1 a σ1 X1 k1 L1 n1 R1 W1=>?_) (h1 env) (h2 env he)
 refine W1.tup_ k1 fun vs vals t o ht ho hsv k1=>?_
 apply bc;intro z_
 obtain ⟨hl,k1⟩:=onT.out k1
 apply z_;clear z_
 have hl:=ju hl
 have el:xs.reverse.length=vals.toArray.size:=by rw [List.length_reverse,← h3,LW,hsv.length]; exact hl
 rw [el,List.reverse_reverse]
 refine wpAny_unpackItems_tuple ha.handled (ho.isTuple (R1.sub _ _ ht)) fun h' e'=>?_
 exact m7 (vs:=vs.reverse) h3 h4 (by rw [List.length_reverse,← h3]; exact hl.symm) he (R1.heap (t:=s1.toks) (km e')) hsv.rev fun s2 R2=>⟨.next,_,X1,k1,L1,(vD.symm ▸ n1),R2,.next⟩
noncomputable def Bj (old v:V) (σ:St) (Q:V→St→Prop):Prop:=match old with
 | .int i=>bD v fun j=>Q (.int (i+j)) σ
 | .loc l=>onS (dw l σ) fun xs=>Ay v fun ys=>fits (xs.length+ys.length) (Q (.loc l) {σ with st:=fq l (.list (xs++ys)) σ.st})
 | _=>False
theorem sz {l b:Addr} {o o2:Obj} {xs ys:List Value} {Q:Value→Shared→Prop} (ho:s.heap.get? l=some o) (hl:LObj "list" o xs) (ho2:s.heap.get? b=some o2) (hl2:LObj "list" o2 ys) (hz:xs.length+ys.length≤1000000)
  (q:Q (.ref l) {s with heap:=s.heap.update l (Obj.mapSeq fun x=>x++ys.toArray)}):wpAny (model G.prog G.w) A (inplaceOp .Add (.ref l) (.ref b)) Q bg s:=by
 apply bc;intro z_
 obtain ⟨cls,dd,data,sl⟩:=o
 obtain ⟨cls2,dd2,data2,sl2⟩:=o2
 obtain ⟨hc,hdd,⟨n,hd⟩,hsl⟩:=hl
 obtain ⟨hc2,hdd2,⟨n2,hd2⟩,hsl2⟩:=hl2
 apply z_;clear z_
 dsimp only at hc hd hdd hsl hc2 hd2 hdd2 hsl2
 subst hc hd hdd hsl hc2 hd2 hdd2 hsl2
 have ta:s.TypeIs (.ref l) "list":=⟨_,ho,rfl⟩
 have tb:s.TypeIs (.ref b) "list":=⟨_,ho2,rfl⟩
 have hi:typeLookup (.type "list") (dunderI "add")=pure (some (.builtin "list.__iadd__")):=PySem.F.slot_list_iadd.lookup
 unfold inplaceOp
 refine LG ?_
 have hfi:fillsInplaceSlot (.type "list") "add" (Operator.Add==.Add)=pure false:=by
  unfold fillsInplaceSlot
  show (typeLookup (.type "list") (dunderI "add") >>= fun fi=>pure (fi.isSome && !isSeqSlot fi))=pure false
  rw [hi]; rfl
 have hsi:seqSlot? (.type "list") (dunderI "add")=pure (some (.builtin "list.__iadd__")):=PySem.seqSlot_of hi (by rfl)
 refine LD (wpAny_typeOf ta (LD (LI hfi ?_)))
 show wpAny _ A (if false=true then _ else _) Q bg s
 rw [LU LZ]
 refine LD (wpAny_binaryOp1_none (nm:="add") ta tb noFill_list_add ?_)
 refine LD (LI hsi ?_)
 refine LD (Mu ?_)
 refine call_meets PySem.F.slot_list_iadd ta PySem.F.entry_list_iadd (PySem.F.args_list_iadd_2 _ _) (AutoSeq1.list___iadd___list_list_0 l xs.toArray n b ys.toArray n2 ?_ ?_ ?_) ⟨ho,ho2,q⟩
 ·rw [Bool.and_eq_true,not_and]; intro _
  have hq:¬ (xs.toArray.size+ys.toArray.size > sizeLine):=by rw [LW,LW,L6]; omega
  rw [show Builtin.List.listTooLong (xs.toArray.size+ys.toArray.size)=false from Ma hq]; exact LZ
 ·rw [LW,L6]; omega
 ·rw [LW,LW,L6]; omega
theorem Rel.setList {l:Nat} {xs ys:List V} {o:Obj} {items vals:List Value} {f:Array Value→Array Value} {t:Nat} (R:Rel G X env σ s) (q:aq l σ.st=some (.list xs)) (h1:s.heap.get? (X.ρ l)=some o) (h2:LObj "list" o items) (ef:f items.toArray=vals.toArray)
  (W:RepVs X σ.nx ys vals):Rel G X env {σ with st:=fq l (.list ys) σ.st} {s with heap:=s.heap.update (X.ρ l) (Obj.mapSeq f),toks:=t}:=by
 apply bc;intro z_
 obtain ⟨hc,hdd,⟨ep,hd⟩,hsl⟩:=h2
 obtain ⟨c,d,dt,sl⟩:=o
 apply z_;clear z_
 dsimp only at hc hd hdd hsl
 subst hc hd hdd hsl
 exact R.upd (s':={s with heap:=s.heap.update (X.ρ l) (Obj.mapSeq f),toks:=t}) (o:=.list ys) q (fun b' hb' o' e=>by rw [Mg _ _ (Ne.symm hb')]; exact e)
  ⟨_,vals,Heap.get?_update_self (Obj.mapSeq f) h1 rfl,⟨rfl,rfl,⟨_,by show Data.seq (f items.toArray) _=_; rw [ef]⟩,rfl⟩,W⟩ rfl rfl R.gens
theorem wP {a b:V} {va vb:Value} {Q:V→St→Prop} (ok:G.Ok) (R:Rel G X env σ s) (Wa:RepV X σ.nx a va) (Wb:RepV X σ.nx b vb) (h:Bj a b σ Q) :
  wpAny (model G.prog G.w) A (inplaceOp .Add va vb) (Post G X env σ.nx Q) bg s:=by
 cases a with
 | int i=>
  apply bc;intro z_
  obtain ⟨t,rfl⟩:=Wa.inv
  apply z_;clear z_
  exact Wb.int_ h fun j u h=>PyProof.Rows.iadd_int (Post.ret h (R.toks _) (.int _ _))
 | loc l=>
  cases (Wa.inv:va=.ref (X.ρ l))
  apply bc;intro z_
  obtain ⟨xs,q,h⟩:=onS.out h
  apply z_;clear z_
  have q:=bG q
  refine Wb.fro_ h fun ys vals b o2 hb2 hl2 hs2 h=>?_
  apply bc;intro z_
  obtain ⟨hz,qq⟩:=fits.out h
  obtain ⟨hlt,o,xvals,h1,h2,h3⟩:=R.st l _ q
  apply z_;clear z_
  refine sz h1 h2 (R.sub _ _ hb2) hl2 (by rw [h3.length,hs2.length]; exact hz) ?_
  exact ⟨_,_,X,qq,.refl,LR _,R.setList (t:=s.toks) q h1 h2 (by simp) (h3.append hs2),.loc l hlt⟩
 | _=>exact h.elim
noncomputable def wG (i:Nat) (d:DE):DS:=fun σ Q=>gi i σ fun old σ0=>d σ0 fun v σ1=>Bj old v σ1 fun r σ2=>Q .next (c9 i r σ2)
theorem Hw {i:Nat} {x:Str} {k:NameKind} {e:PySem.Expr} {d:DE} {p q:Pos} (ok:G.Ok) (hx:sc.names[i]?=some (x,k)) (hk:k=.local∨(k=.cell∧sc.fn=true)) (hcd:(x==("__classdict__":Str))=false) (h:SE G lv sc e d):SS G lv sc (.AugAssign (.Name x p) .Add e q) (wG i d):=fun σ Q hd A env X s ha he R=>by
 refine wpAny_AugAssign_Name (LF (jx hx hd he R hcd) (fun vo s0 y_=>?_) fun _ _ z=>z)
 apply bc;intro z_
 obtain ⟨old,σ0,X0,q0,L0,n0,R0,W0⟩:=y_
 apply z_;clear z_
 refine h.run q0 ha he R0 fun va s1 a σ1 X1 k1 L1 n1 R1 W1=>?_
 refine LF (wP ok R1 (W0.mono L1 n1) W1 k1) (fun vr s2 y_=>?_) fun _ _ z=>z
 apply bc;intro z_
 obtain ⟨r,σ2,X2,q2,L2,n2,R2,W2⟩:=y_
 apply z_;clear z_
 exact gm hx hk he R2 W2 fun s3 R3=>⟨.next,_,X2,q2,(L0.trans L1 n0).trans L2 (LN n0 n1),LN (LN n0 n1) n2,R3,.next⟩
noncomputable def jq (o:Obj):Prop:=Obj.loose o=true∧∃ vs,o.data=.fields vs
noncomputable def Frz (X:Wd) (S:List Addr):Prop:=∀ b∈S,∃ o,X.F b=some o∧jq o
structure Sw (S:List Addr) (n:Nat) (X X':Wd):Prop where
 ρ:∀ l,l<n→X'.ρ l=X.ρ l
 F:∀ a o,a ∉ S→X.F a=some o→X'.F a=some o
 P:∀ a o,a ∉ S→X.F a=some o→X'.P a=X.P a
theorem Frz.loose (hf:Frz X S):∀ b∈S,∀ o,X.F b=some o→eK X b o:=fun b hb o e=>by
 obtain ⟨o',e',h⟩:=hf b hb
 rw [e] at e'; cases e'; exact ⟨h.1,.inr h.2⟩
theorem RepV.sw (hf:Frz X S) (w:Sw S n X X') {v:V} {val:Value} (W:RepV X n v val):RepV X' n v val:=
 (W.drop hf.loose).mono (X:=X.drop S) ⟨w.ρ,fun a o e=>by
  have e:(if a∈S then none else X.F a)=some o:=e
  by_cases q:a∈S
  ·rw [LV q] at e; cases e
  ·rw [LU q] at e; exact w.F a o q e,fun a o e=>by
  have e:(if a∈S then none else X.F a)=some o:=e
  by_cases q:a∈S
  ·rw [LV q] at e; cases e
  ·rw [LU q] at e; exact w.P a o q e⟩ (LR _)
theorem pW (L:X0.le n0 X) (hn:n0≤n) (w:Sw S n X X') (fr:∀ b∈S,X0.F b=none):X0.le n0 X':=
 ⟨fun l hl=>(w.ρ l (Mi hl hn)).trans (L.ρ l hl),fun a o e=>w.F a o (fun q=>by rw [fr a q] at e; cases e) (L.F a o e),fun a o e=>(w.P a o (fun q=>by rw [fr a q] at e; cases e) (L.F a o e)).trans (L.P a o e)⟩
theorem RepO.sw {h h':Heap} {a:Addr} {o:AO} (hf:Frz X S) (w:Sw S n X X') (r:RepO G X n h a o) (e:h'.get? a=h.get? a):RepO G X' n h' a o:=r.imp (fun z=>z.sw hf w) e
theorem Rel.sws (ok:G.Ok) (R:Rel G X env σ s) (hf:Frz X S) (hbS:∀ b∈S,G.hb.get? b=none) (k:∀ b,b ∉ S→∀ o,s.heap.get? b=some o→s'.heap.get? b=some o) (φ:Addr→Option Obj) (hn:∀ b∈S,∀ o,φ b=some o→s'.heap.get? b=some o)
  (hos:s'.os=s.os) (hd:s'.drawn=s.drawn) (hg:G.Gn s'.gens):∃ X',Rel G X' env σ s'∧Sw S σ.nx X X'∧(∀ b∈S,X'.F b=φ b)∧(∀ a,a ∉ S→X'.F a=X.F a):=by
 have w:Sw S σ.nx X {X with F:=fun a=>if a∈S then φ a else X.F a}:=⟨fun _ _=>rfl,fun a o q e=>by
  show (if a∈S then φ a else X.F a)=_
  rw [LU q]; exact e,fun _ _ _ _=>rfl⟩
 have out:∀ {a:Addr},X.F a=none→a ∉ S:=fun e q=>by obtain ⟨o,e',_⟩:=hf _ q; rw [e] at e'; cases e'
 apply bc;intro z_
 obtain ⟨h1,h2,h3,h4,hb,h5,h6,h7,h8,h9,h10,h11⟩:=R
 have nL:env.locals ∉ S:=out h7.freeL.1
 obtain ⟨⟨m,cm,n1,n2,n3⟩,f1,f2,f3,f4⟩:=h7
 apply z_;clear z_
 have nC:∀ x c,env.cells.lookup x=some c→c ∉ S:=fun x c e q=>by
  apply bc;intro z_
  obtain ⟨o,ho,hd⟩:=n2 x c e
  obtain ⟨o',e',_,vs,hv⟩:=hf c q
  apply z_;clear z_
  have:=h1 _ _ e'
  rw [ho] at this; cases this
  rw [hd] at hv; cases hv
 have same:∀ {b:Addr} {o:Obj},b ∉ S→s.heap.get? b=some o→s'.heap.get? b=s.heap.get? b:=fun q e=>(k _ q _ e).trans e.symm
 refine ⟨_,⟨fun a o e=>?_,fun a o e q=>w.F a o (fun z=>by rw [hbS a z] at e; cases e) (h2 a o e q),fun l o e=>⟨?_,(h3 l o e).2⟩,h4,hb,fun l o e=>⟨(h5 l o e).1,?_⟩,⟨k _ (out h6.2.1) _ h6.1,?_,ok.tbmono _ _ _ (fun a o e hl=>w.F a o (fun q=>by rw [(hf.loose a q o e).1] at hl; cases hl) e) h6.2.2⟩,⟨⟨m,cm,?_,fun x c e=>?_,fun i v e=>?_⟩,⟨?_,f1.2⟩,fun z x c e=>⟨?_,(f2 z x c e).2⟩,fun z x c e=>?_,f4⟩,hos.trans h8,hd.trans h9,hg,fun a o e=>let ⟨z1,z2,r⟩:=h11 a o e; ⟨k a (out z2) _ z1,(LU (out z2)).trans z2,r⟩⟩,w,fun b hb=>LV hb,fun a q=>LU q⟩
 ·have e:(if a∈S then φ a else X.F a)=some o:=e
  by_cases q:a∈S
  ·rw [LV q] at e; exact hn a q o e
  ·rw [LU q] at e; exact k a q o (h1 a o e)
 ·show (if X.ρ l∈S then φ (X.ρ l) else X.F (X.ρ l))=none
  rw [LU (out (h3 l o e).1)]; exact (h3 l o e).1
 ·apply bc;intro z_
  obtain ⟨ob,z⟩:=(h5 l o e).2.there
  apply z_;clear z_
  exact (h5 l o e).2.sw hf w (same (out (h3 l o e).1) z)
 ·show (if G.T∈S then φ G.T else X.F G.T)=none
  rw [LU (out h6.2.1)]; exact h6.2.1
 ·apply bc;intro z_
  obtain ⟨o,es,ep,ho,r⟩:=id n1
  apply z_;clear z_
  exact ij n1 (same nL ho)
 ·obtain ⟨o,ho,hd⟩:=n2 x c e; exact ⟨o,k _ (nC x c e) _ ho,hd⟩
 ·obtain ⟨x,k,val,a,b,c⟩:=n3 i v e; exact ⟨x,k,val,a,b.sw hf w,c⟩
 ·show (if env.locals∈S then φ env.locals else X.F env.locals)=none
  rw [LU nL]; exact f1.1
 ·show (if c∈S then φ c else X.F c)=none
  rw [LU (nC x c e)]; exact (f2 z x c e).1
 ·apply bc;intro z_
  obtain ⟨o,q⟩:=f3 z x c e
  apply z_;clear z_
  exact ⟨o,w.F c o (nC x c e) q⟩
theorem Rel.sw (ok:G.Ok) (R:Rel G X env σ s) (hf:Frz X S) (hbS:∀ b∈S,G.hb.get? b=none) (k:∀ b,b ∉ S→∀ o,s.heap.get? b=some o→s'.heap.get? b=some o) (hn:∀ b∈S,∃ o,s'.heap.get? b=some o∧jq o)
  (hos:s'.os=s.os) (hd:s'.drawn=s.drawn) (hg:G.Gn s'.gens):∃ X',Rel G X' env σ s'∧Sw S σ.nx X X'∧Frz X' S∧(∀ a,a ∉ S→X'.F a=X.F a):=by
 apply bc;intro z_
 obtain ⟨X',R',w,e1,e2⟩:=R.sws ok hf hbS k (fun b=>s'.heap.get? b) (fun _ _ _ e=>e) hos hd hg
 apply z_;clear z_
 exact ⟨X',R',w,fun b hb=>let ⟨o,e,q⟩:=hn b hb; ⟨o,(e1 b hb).trans e,q⟩,e2⟩
theorem Rel.letgo (ok:G.Ok) (R:Rel G X env σ s) (hf:Frz X S) (hbS:∀ b∈S,G.hb.get? b=none) (k:∀ b,b ∉ S→∀ o,s.heap.get? b=some o→s'.heap.get? b=some o)
  (hos:s'.os=s.os) (hd:s'.drawn=s.drawn) (hg:G.Gn s'.gens):∃ X',Rel G X' env σ s'∧Sw S σ.nx X X':=by
 apply bc;intro z_
 obtain ⟨X',R',w,_⟩:=R.sws ok hf hbS k (fun b=>none) (fun _ _ _ e=>by cases e) hos hd hg
 apply z_;clear z_
 exact ⟨X',R',w⟩
noncomputable def ez:PySem.Expr→Bool
 | .Tuple ..=>true
 | _=>false
structure Itr (G:Glob) (lv:Nat) (tg:Bool) (it:Value) (S:List Addr) (X0:Wd) (n0:Nat) (cur:Nat→St→Option (Option V)) (I:Nat→Heap→Prop):Prop where
 fresh:∀ b∈S,X0.F b=none
 hbS:∀ b∈S,G.hb.get? b=none
 step:∀ (A:Around) (env:Env) (i:Nat) (X:Wd) (σ:St) (s:Shared) (r:Option V),AOk lv A→X0.le n0 X→n0≤σ.nx→Rel G X env σ s→Frz X S→I i s.heap→cur i σ=some r →
  wpAny (model G.prog G.w) A (pyNext it) (fun o s'=>match r with
   | none=>o=none∧∃ X',Rel G X' env σ s'∧Sw S σ.nx X X'
   | some v=>∃ val,o=some val∧∀ (target:PySem.Expr) (Q:Unit→Shared→Prop),(tg=true→ez target=true)→(∀ s'' X',Rel G X' env σ s''→Sw S σ.nx X X'→Frz X' S→RepV X' σ.nx v val→I (i+1) s''.heap→Q () s'') →
     wpAny (model G.prog G.w) A (letOwnedTupleGo target it val) Q bg s') bg s
 stable:∀ (i:Nat) (X:Wd) (h h':Heap),X0.le n0 X→(∀ a o,X.F a=some o→h.get? a=some o)→Frz X S→I i h→(∀ a o,X.F a=some o→h'.get? a=some o)→I i h'
 self:∀ (A:Around) (i:Nat) (s:Shared) (Q:Value→Shared→Prop),A.handled=none→I i s.heap→Q it s→wpAny (model G.prog G.w) A (pyIter it) Q bg s
noncomputable def Kc (fl:Fl) (P:Prop) (σ:St) (Q:Fl→St→Prop):Prop:=match fl with
 | .next=>P
 | .cont=>P
 | .brk=>Q .next σ
 | .ret v=>Q (.ret v) σ
noncomputable def iE (aft:St→(St→Prop)→Prop) (cur:Nat→St→Option (Option V)) (dt:DT) (db:DS):Nat→Nat→DS
 | 0,_=>fun _ _=>False
 | n+1,i=>fun σ Q=>match cur i σ with
  | some (some v)=>dt v σ fun σ1=>db σ1 fun fl σ2=>Kc fl (aft σ2 fun σ3=>iE aft cur dt db n (i+1) σ3 Q) σ2 Q
  | some none=>Q .next σ
  | none=>False
noncomputable def d5 (cur:Nat→St→Option (Option V)) (dt:DT) (db:DS):Nat→Nat→DS:=iE (fun σ K=>K σ) cur dt db
inductive AftAt (G:Glob) (X:Wd) (env:Env) (n0:Nat) (K:St→Prop) (s:Shared):Prop
 | mk (σ':St) (X':Wd) (k:K σ') (L:X.le n0 X') (e:X'.F=X.F) (hn:n0≤σ'.nx) (R:Rel G X' env σ' s)
inductive LoopAt (G:Glob) (X0:Wd) (env:Env) (n0:Nat) (S:List Addr) (I:Nat→Heap→Prop) (P:Nat→St→Prop) (s:Shared):Prop
 | mk (i:Nat) (σ:St) (X:Wd) (hl:P i σ) (L:X0.le n0 X) (hn:n0≤σ.nx) (R:Rel G X env σ s) (hf:Frz X S) (hi:I i s.heap)
inductive ItdAt (G:Glob) (lv:Nat) (tg:Bool) (env:Env) (X:Wd) (n:Nat) (K:(Nat→St→Option (Option V))→St→Prop) (it:Value) (s:Shared):Prop
 | mk (cur:Nat→St→Option (Option V)) (σ1:St) (X0 X1:Wd) (S:List Addr) (I:Nat→Heap→Prop) (k:K cur σ1) (L:X.le n X0) (L1:X0.le σ1.nx X1) (hn:n≤σ1.nx) (R:Rel G X1 env σ1 s) (f:Frz X1 S) (i:I 0 s.heap) (T:Itr G lv tg it S X0 σ1.nx cur I)
noncomputable abbrev DI:=St→((Nat→St→Option (Option V))→St→Prop)→Prop
noncomputable def Itd (G:Glob) (lv:Nat) (tg:Bool) (A:Around) (env:Env) (X:Wd) (n:Nat) (K:(Nat→St→Option (Option V))→St→Prop) (x:Value) (s1:Shared):Prop:=
 wpAny (model G.prog G.w) A (pyIter x) (ItdAt G lv tg env X n K) bg s1
noncomputable def SI (G:Glob) (lv:Nat) (sc:Sc) (tg:Bool) (e:PySem.Expr) (d:DI):Prop:=∀ σ K,d σ K→∀ A env X s,AOk lv A→EOk sc env→Rel G X env σ s →
 wpAny (model G.prog G.w) A (eval e env) (Itd G lv tg A env X σ.nx K) bg s
theorem Frz.up {X':Wd} (hf:Frz X S) (L:X.le n X'):Frz X' S:=fun b hb=>let ⟨o,e,z⟩:=hf b hb; ⟨o,L.F _ _ e,z⟩
theorem Frz.same (hf:Frz X S) (e:X'.F=X.F):Frz X' S:=fun b hb=>by rw [e]; exact hf b hb
theorem lw {tg:Bool} {it:Value} {X0:Wd} {n0:Nat} {cur:Nat→St→Option (Option V)} {I:Nat→Heap→Prop} {target:PySem.Expr} {body:List PySem.Stmt} {dt:DT} {db:DS} {R':Result→Shared→Prop} {Q:Fl→St→Prop} {aft:St→(St→Prop)→Prop}
  (haft:∀ {K:St→Prop} {σ:St} {X:Wd} {s:Shared},aft σ K→n0≤σ.nx→Rel G X env σ s→AftAt G X env n0 K s)
  (ha:AOk lv A) (he:EOk sc env) (T:Itr G lv tg it S X0 n0 cur I) (htg:tg=true→ez target=true) (ht:ST G lv sc target dt) (hb:iQ G lv sc body db)
  (hQ:∀ f s',PostS G X0 env n0 Q f s'→R' (.ok f) s') (k i:Nat) (σ:St) (X:Wd) (s:Shared) (hl:iE aft cur dt db k i σ Q) (L:X0.le n0 X) (hn:n0≤σ.nx) (R:Rel G X env σ s) (hf:Frz X S) (hi:I i s.heap) :
  codeAny (model G.prog G.w) A (.forLoop target it body [] env) R' s:=by
 refine codeAny_forLoop_any (fun k s=>LoopAt G X0 env n0 S I (fun i σ=>iE aft cur dt db k i σ Q) s) ?_ k ⟨i,σ,X,hl,L,hn,R,hf,hi⟩
 clear hl L hn R hf hi
 rintro k s ⟨i,σ,X,hl,L,hn,R,hf,hi⟩
 cases k with
 | zero=>exact hl.elim
 | succ k=>
  have hl:(match cur i σ with
   | some (some v)=>dt v σ fun σ1=>db σ1 fun fl σ2=>Kc fl (aft σ2 fun σ3=>iE aft cur dt db k (i+1) σ3 Q) σ2 Q
   | some none=>Q .next σ
   | none=>False):=hl
  cases hc:cur i σ with
  | none=>rw [hc] at hl; exact hl.elim
  | some r=>
   rw [hc] at hl
   refine LF (T.step A env i X σ s r ha L hn R hf hi hc) (fun o s1 h1=>?_) fun _ _ z=>z.elim
   cases r with
   | none=>
    apply bc;intro z_
    obtain ⟨rfl,X1,R1,w1⟩:=h1
    apply z_;clear z_
    exact wpAny_execs_nil (hQ _ _ ⟨.next,σ,X1,hl,pW L hn w1 T.fresh,hn,R1,.next⟩)
   | some v=>
    apply bc;intro z_
    obtain ⟨val,rfl,h1⟩:=h1
    apply z_;clear z_
    refine LF (h1 target _ htg fun s1 X1 R1 w1 f1 W hi1=>?_) (fun _ _ z=>z) fun _ _ z=>z.elim
    have L1:=pW L hn w1 T.fresh
    refine LF (ht v σ _ hl A env X1 s1 val ha he R1 W) (fun _ s2 y_=>?_) fun _ _ z=>z.elim
    apply bc;intro z_
    obtain ⟨σ2,X2,q2,L2,n2,R2⟩:=y_
    apply z_;clear z_
    have n12:=LN hn n2
    refine LF (hb σ2 _ q2 A env X2 s2 ha he R2) (fun f s3 y_=>?_) fun _ _ z=>z.elim
    apply bc;intro z_
    obtain ⟨fl,σ3,X3,q3,L3,n3,R3,W3⟩:=y_
    apply z_;clear z_
    have L23:=L2.trans L3 n2
    have f3:Frz X3 S:=f1.up L23
    have hi3:=T.stable (i+1) X1 s1.heap s3.heap L1 R1.sub f1 hi1 (fun a o e=>R3.sub _ _ (L23.F _ _ e))
    have L13:=L1.trans L23 hn
    have n13:=LN n12 n3
    have go:(aft σ3 fun σ3=>iE aft cur dt db k (i+1) σ3 Q)→∃ m,m<k+1∧LoopAt G X0 env n0 S I (fun i σ=>iE aft cur dt db m i σ Q) s3:=fun q=>by
     apply bc;intro z_
     obtain ⟨σ4,X4,k4,L4,e4,n4,R4⟩:=haft q n13 R3
     apply z_;clear z_
     exact ⟨k,LX k,i+1,σ4,X4,k4,L13.trans L4 (LR _),n4,R4,f3.same e4,hi3⟩
    cases W3 with
    | next=>exact go q3
    | cont=>exact go q3
    | brk=>exact hQ _ _ ⟨.next,σ3,X3,q3,L13,n13,R3,.next⟩
    | ret v val W=>exact hQ _ _ ⟨.ret v,σ3,X3,q3,L13,n13,R3,.ret v val W⟩
noncomputable def wJ (di:DI) (dt:DT) (db:DS) (N:Nat):DS:=fun σ Q=>di σ fun cur σ1=>d5 cur dt db N 0 σ1 Q
theorem eo {tg:Bool} {target iter:PySem.Expr} {body:List PySem.Stmt} {di:DI} {dt:DT} {db:DS} {p:Pos} (N:Nat) (hi:SI G lv sc tg iter di) (htg:tg=true→ez target=true) (ht:ST G lv sc target dt) (hb:iQ G lv sc body db)
  (hs:∀ env x,foldedSetIterable iter env x=pure x):SS G lv sc (.For target iter body [] p) (wJ di dt db N):=fun σ Q hd A env X s ha he R=>by
 refine wpAny_For (LF (hi σ _ hd A env X s ha he R) (fun x s1 h1=>LF h1 (fun it s2 h2=>?_) fun _ _ z=>z) fun _ _ z=>z) (hs env)
 obtain ⟨cur,σ1,X0,X1,S,I,k1,L0,L1,n1,R1,f1,i1,T⟩:=h2
 refine lw (aft:=fun σ K=>K σ) (fun k n R=>⟨_,_,k,.refl,rfl,n,R⟩) ha he T htg ht hb (fun f s' h=>?_) N 0 σ1 X1 s2 k1 L1 (LR _) R1 f1 i1
 exact PostS.lift L0 n1 h
noncomputable def K4 (dt:DB) (db:DS):Nat→DS
 | 0=>fun _ _=>False
 | n+1=>fun σ Q=>dt σ fun z σ1=>match z with
  | false=>Q .next σ1
  | true=>db σ1 fun fl σ2=>Kc fl (K4 dt db n σ2 Q) σ2 Q
theorem kU {t:PySem.Expr} {body:List PySem.Stmt} {dt:DB} {db:DS} {p:Pos} (N:Nat) (ht:SB G lv sc t dt) (hb:iQ G lv sc body db) :
  SS G lv sc (.While t body [] p) (K4 dt db N):=fun σ Q hd A env X s ha he R=>by
 refine wpAny_While (codeAny_whileLoop (fun k s'=>PostT G X env σ.nx (fun σ'=>K4 dt db k σ' Q) () s') ?_ N ⟨σ,X,hd,.refl,LR _,R⟩)
 rintro k s ⟨σ',X',hl,L,hn,R⟩
 cases k with
 | zero=>exact hl.elim
 | succ k=>
  refine LF (ht σ' _ hl A env X' s ha he R) (fun b s1 y_=>?_) fun _ _ z=>z.elim
  apply bc;intro z_
  obtain ⟨σ1,X1,q1,L1,n1,R1⟩:=y_
  apply z_;clear z_
  have L01:=L.trans L1 hn
  have n01:=LN hn n1
  cases b with
  | false=>exact wpAny_execs_nil ⟨.next,σ1,X1,q1,L01,n01,R1,.next⟩
  | true=>
   refine LF (hb σ1 _ q1 A env X1 s1 ha he R1) (fun f s2 y_=>?_) fun _ _ z=>z.elim
   apply bc;intro z_
   obtain ⟨fl,σ2,X2,q2,L2,n2,R2,W2⟩:=y_
   apply z_;clear z_
   have L02:=L01.trans L2 n01
   have n02:=LN n01 n2
   cases W2 with
   | next=>exact ⟨k,LX k,σ2,X2,q2,L02,n02,R2⟩
   | cont=>exact ⟨k,LX k,σ2,X2,q2,L02,n02,R2⟩
   | brk=>exact ⟨.next,σ2,X2,q2,L02,n02,R2,.next⟩
   | ret v val W=>exact ⟨.ret v,σ2,X2,q2,L02,n02,R2,.ret v val W⟩
noncomputable def fV {α:Type} (l:List α):Nat→Option α:=@List.rec α (fun _=>Nat→Option α) (fun _=>none) (fun a _ ih i=>@Nat.rec (fun _=>Option α) (some a) (fun k _=>ih k) i) l
theorem xB {α:Type} {i:Nat}:fV ([]:List α) i=none:=rfl
theorem dR {α:Type}:∀ {l:List α} {i:Nat},fV l i=l[i]?
 | [],i=>by rw [xB]; simp
 | a::r,0=>by simp; rfl
 | a::r,n+1=>by show fV r n=_; simp [dR]
noncomputable def Kv:Option Nat→Option V
 | some c=>some (.str [c])
 | none=>none
noncomputable def cY (v:V) (i:Nat) (σ:St):Option (Option V):=match v with
 | .fro vs=>some (fV vs i)
 | .loc l=>(dw l σ).map fun vs=>fV vs i
 | .tup vs=>some (fV vs i)
 | .str s=>some (Kv (fV s i))
 | _=>none
noncomputable def JR:List Nat→Bool
 | []=>true
 | c::r=>and (Nat.ble c 127) (JR r)
noncomputable def Lk (v:V) (σ:St) (K:(Nat→St→Option (Option V))→St→Prop):Prop:=match v with
 | .fro vs=>K (cY (.fro vs)) σ
 | .loc l=>onS (dw l σ) fun _=>K (cY (.loc l)) σ
 | .tup vs=>K (cY (.tup vs)) σ
 | .str s=>onT (JR s) (K (cY (.str s)) σ)
 | _=>False
noncomputable def mj (v:V):Bool:=match v with | .fro _=>true | .loc _=>true | _=>false
noncomputable def oQ:List String:=["enumerate","zip","dict_itemiterator","dict_reverseitemiterator","odict_iterator","itertools.zip_longest","itertools.pairwise"]
theorem mh {target:PySem.Expr} {a:Addr} {o:Obj} {T:String} {v:Value} {Q:Unit→Shared→Prop} (ho:s.heap.get? a=some o) (hc:o.cls=.type T) (hT:oQ.contains T=false) (q:Q () s) :
  wpAny (model G.prog G.w) A (letOwnedTupleGo target (.ref a) v) Q bg s:=by
 have key:∀ (v:Value),wpAny (model G.prog G.w) A (do
   let (.ref r,.ref a):=((Value.ref a),v) | return
   let o ← load r
   match o.cls,o.data with
   | .type n,.fields vs=>
    if oQ.contains n && vs[0]?==some (rawInt a) then
     rule "for.unpacks-the-owned-tuple"
     updateField r 0 .none
   | _,_=>pure ():Sem Unit) Q bg s:=by
  intro v
  cases v <;> first | exact LE q | skip
  refine LD (LK ho ?_)
  obtain ⟨c,d,dt,sl⟩:=o
  dsimp only at hc
  subst hc
  cases dt <;> first | exact LE q | skip
  dsimp only
  rw [hT,Bool.false_and,LU LZ]
  exact LE q
 cases target <;> first | exact LE q | exact key v
theorem jw {v:V} {i:Nat} {r:Option V} (hv:mj v=true) (h:cY v i σ=some r):b9 v σ fun vs=>r=vs[i]?:=by
 cases v with
 | fro vs=>exact (Option.some.inj h).symm.trans dR
 | loc l=>
  obtain ⟨vs,q,e⟩:=Option.map_eq_some_iff.mp h
  unfold b9
  dsimp only
  rw [bG q]
  exact e.symm.trans dR
 | _=>first | exact nS hv | exact nB hv | cases hv
theorem d8 {h:Heap} {it a:Addr} {i:Nat} (x:h.IsListIter it a i):∃ o,h.get? it=some o∧jq o∧o.cls=.type "list_iterator":=by
 apply bc;intro z_
 obtain ⟨o,ho,hc,hd⟩:=x
 apply z_;clear z_
 refine ⟨o,ho,⟨?_,_,hd⟩,hc⟩
 unfold Obj.loose; rw [hd,hc]; rfl
theorem lq {h:Heap} {it a:Addr} {i:Nat} (x:h.IsTupleIter it a i):∃ o,h.get? it=some o∧jq o∧o.cls=.type "tuple_iterator":=by
 obtain ⟨o,ho,hc,hd⟩:=x
 refine ⟨o,ho,⟨?_,_,hd⟩,hc⟩
 unfold Obj.loose; rw [hd,hc]; rfl
theorem lp {h:Heap} {it:Addr} {x:Str} {t:Tok} {i:Nat} (y:h.IsStrIter it "str_ascii_iterator" x t i):∃ o,h.get? it=some o∧jq o∧o.cls=.type "str_ascii_iterator":=by
 apply bc;intro z_
 obtain ⟨o,ho,hc,hd⟩:=y
 apply z_;clear z_
 refine ⟨o,ho,⟨?_,_,hd⟩,hc⟩
 unfold Obj.loose; rw [hd,hc]; rfl
theorem fM {it:Addr} {T:String} {I:Nat→Heap→Prop} {i:Nat} {h':Heap} {tk:Nat} {v:V} {val:Value} (ok:G.Ok) (R:Rel G X env σ s) (hf:Frz X [it]) (hb:G.hb.get? it=none)
  (hk:∀ b,b≠it→∀ o,s.heap.get? b=some o→h'.get? b=some o) (ho:∃ o,h'.get? it=some o∧jq o∧o.cls=.type T) (hT:oQ.contains T=false) (W:RepV X σ.nx v val) (hi:I (i+1) h') :
  ∃ val',some val=some val'∧∀ (target:PySem.Expr) (Q:Unit→Shared→Prop),(tg=true→ez target=true)→(∀ s'' X',Rel G X' env σ s''→Sw [it] σ.nx X X'→Frz X' [it]→RepV X' σ.nx v val'→I (i+1) s''.heap→Q () s'') →
     wpAny (model G.prog G.w) A (letOwnedTupleGo target (.ref it) val') Q bg {s with heap:=h',toks:=tk}:=by
 refine ⟨val,rfl,fun target Q _ k=>?_⟩
 apply bc;intro z_
 obtain ⟨o,h1,h2,h3⟩:=ho
 apply z_;clear z_
 obtain ⟨X',R',w,f',_⟩:=R.sw (s':={s with heap:=h',toks:=tk}) ok hf (by simp [hb]) (fun b q o e=>hk b (by simpa using q) o e) (by simp; exact ⟨o,h1,h2⟩) rfl rfl R.gens
 exact mh h1 h3 hT (k _ X' R' w f' (W.sw hf w) hi)
theorem gX {it:Addr} {h':Heap} {tk:Nat} (ok:G.Ok) (R:Rel G X env σ s) (hf:Frz X [it]) (hb:G.hb.get? it=none) (hk:∀ b,b≠it→∀ o,s.heap.get? b=some o→h'.get? b=some o) :
  (none:Option Value)=none∧∃ X',Rel G X' env σ {s with heap:=h',toks:=tk}∧Sw [it] σ.nx X X':=by
 apply bc;intro z_
 obtain ⟨X',R',w⟩:=R.letgo (s':={s with heap:=h',toks:=tk}) ok hf (by simp [hb]) (fun b q o e=>hk b (by simpa using q) o e) rfl rfl R.gens
 apply z_;clear z_
 exact ⟨rfl,X',R',w⟩
theorem lB {P:Addr→Prop} {it:Addr} (h:P it):∀ b∈[it],P b:=List.forall_mem_singleton.mpr h
theorem hZ {it:Addr} {P:Obj→Prop} {h h':Heap} (hX:∀ a o,X.F a=some o→h.get? a=some o) (hf:Frz X [it]) (hi:∃ o,h.get? it=some o∧P o) (hk:∀ a o,X.F a=some o→h'.get? a=some o):∃ o,h'.get? it=some o∧P o:=by
 apply bc;intro z_
 obtain ⟨o,ho,r⟩:=hi
 obtain ⟨o',e',_⟩:=hf it (List.mem_singleton_self _)
 apply z_;clear z_
 have:=hX _ _ e'
 rw [ho] at this; cases this
 exact ⟨o,hk _ _ e',r⟩
theorem jv {vs:List V} {items:List Value} {i:Nat} (hs:RepVs X n vs items) (q:vs[i]?=none):items.toArray[i]?=none:=by
 rw [List.getElem?_eq_none_iff] at q; rw [My,List.getElem?_eq_none_iff,hs.length]; exact q
theorem Itr.list {v:V} {it a:Addr} (ok:G.Ok) (hv:mj v=true) (W:RepV X0 n0 v (.ref a)) (hit:X0.F it=none) (hb:G.hb.get? it=none) :
  Itr G lv tg (.ref it) [it] X0 n0 (cY v) (fun i h=>h.IsListIter it a i) where
 fresh:=lB hit
 hbS:=lB hb
 step:=fun A env i X σ s r ha L hn R hf hi hc=>by
  apply bc;intro z_
  obtain ⟨a',o,items,vs,e,ho,hl,hs,rfl⟩:=cr R (W.mono L hn) (jw hv hc)
  apply z_;clear z_
  cases e
  cases q:vs[i]? with
  | none=>exact wpAny_pyNext_list_end ha.handled hi (hl.isList ho) (jv hs q) fun h' he=>gX (tk:=s.toks) ok R hf hb fun b q o e=>he b o q e
  | some v=>
   apply bc;intro z_
   obtain ⟨val,hx,Wv⟩:=hs.get q
   apply z_;clear z_
   refine wpAny_pyNext_list_item hi (hl.isList ho) (x:=val) (by rw [My]; exact hx) fun h' hi' hs'=>?_
   exact fM (I:=fun i h=>h.IsListIter it a i) (tk:=s.toks) ok R hf hb (fun b q o e=>(hs'.2 b q).trans e) (d8 hi') rfl Wv hi'
 stable:=fun i X h h' L hX hf hi hk=>hZ hX hf hi hk
 self:=fun A i s Q ha hi q=>wpAny_pyIter_listiter hi q
theorem Itr.tuple {vs:List V} {items:List Value} {o:Obj} {it a:Addr} (ok:G.Ok) (ho:X0.F a=some o) (hl:LObj "tuple" o items) (hs:RepVs X0 n0 vs items) (hit:X0.F it=none) (hb:G.hb.get? it=none) :
  Itr G lv tg (.ref it) [it] X0 n0 (cY (.tup vs)) (fun i h=>h.IsTupleIter it a i) where
 fresh:=lB hit
 hbS:=lB hb
 step:=fun A env i X σ s r ha L hn R hf hi hc=>by
  cases hc
  have ho:=R.sub _ _ (L.F _ _ ho)
  have hs:=hs.mono L hn
  rw [dR]
  cases q:vs[i]? with
  | none=>
   exact wpAny_pyNext_tuple_end ha.handled hi (hl.isTuple ho) (jv hs q) fun h' he=>gX (tk:=s.toks) ok R hf hb fun b q o e=>he b o q e
  | some v=>
   apply bc;intro z_
   obtain ⟨val,hx,Wv⟩:=hs.get q
   apply z_;clear z_
   refine wpAny_pyNext_tuple_item hi (hl.isTuple ho) (x:=val) (by rw [My]; exact hx) fun h' hi' hs'=>?_
   exact fM (I:=fun i h=>h.IsTupleIter it a i) (tk:=s.toks) ok R hf hb (fun b q o e=>(hs'.2 b q).trans e) (lq hi') rfl Wv hi'
 stable:=fun i X h h' L hX hf hi hk=>hZ hX hf hi hk
 self:=fun A i s Q ha hi q=>wpAny_pyIter_tupleiter hi q
theorem Itr.str {x:List Nat} {t:Tok} {it:Addr} (ok:G.Ok) (hit:X0.F it=none) (hb:G.hb.get? it=none) :
  Itr G lv tg (.ref it) [it] X0 n0 (cY (.str x)) (fun i h=>h.IsStrIter it "str_ascii_iterator" ⟨x.toArray⟩ t i) where
 fresh:=lB hit
 hbS:=lB hb
 step:=fun A env i X σ s r ha L hn R hf hi hc=>by
  cases hc
  rw [dR]
  cases q:x[i]? with
  | none=>
   exact wpAny_pyNext_ascii_end ha.handled hi (by simpa using q) fun h' he=>gX (tk:=s.toks) ok R hf hb fun b q o e=>he b o q e
  | some c=>
   refine wpAny_pyNext_ascii_item hi (c:=c) (by simpa using q) fun h' hi' hs'=>?_
   exact fM (I:=fun i h=>h.IsStrIter it "str_ascii_iterator" ⟨x.toArray⟩ t i) (tk:=s.toks+1) ok R hf hb (fun b q o e=>(hs'.2 b q).trans e) (lp hi') rfl (.str [c] _) hi'
 stable:=fun i X h h' L hX hf hi hk=>hZ hX hf hi hk
 self:=fun A i s Q ha hi q=>wpAny_pyIter_striter_ascii hi q
theorem px {s:List Nat} (h:JR s=true):(⟨s.toArray⟩:Str).cps.all (·<128)=true:=by
 have:∀ c∈s,c<128:=by
  induction s with
  | nil=>intro c hc; cases hc
  | cons a r ih=>exact List.forall_mem_cons.mpr ⟨Nat.lt_succ_of_le (LP (Bool.and_eq_true_iff.mp h).1),ih (Bool.and_eq_true_iff.mp h).2⟩
 rw [← Array.all_toList,List.all_eq_true]
 exact fun c hc=>Mb (this c hc)
theorem Rel.newAt (R:Rel G X env σ s) {b:Addr} (z:s.heap.get? b=none):X.F b=none∧G.hb.get? b=none:=by
 have h1:X.F b=none:=by
  cases q:X.F b with
  | none=>rfl
  | some o=>have:=R.sub _ _ q; rw [z] at this; cases this
 refine ⟨h1,?_⟩
 cases q:G.hb.get? b with
 | none=>rfl
 | some o=>
  by_cases hT:b=G.T
  ·have:=R.tab.1; rw [← hT,z] at this; cases this
  ·rw [R.base _ _ q hT] at h1; cases h1
theorem Rel.newIt (ok:G.Ok) (R:Rel G X env σ s) {o:Obj} (ho:jq o) {t:Nat} (hfd:o.isFreed=false) :
  ∃ X',Rel G X' env σ {s with heap:=s.heap.push o,toks:=t}∧X.le σ.nx X'∧X'.F s.heap.objs.size=some o∧X.F s.heap.objs.size=none∧G.hb.get? s.heap.objs.size=none:=by
 apply bc;intro z_
 obtain ⟨R',L⟩:=R.still (s':={s with heap:=s.heap.push o,toks:=t}) aL (fun _ _ e=>LM _ e) (LT _ hfd) rfl rfl R.gens ok
 apply z_;clear z_
 exact ⟨_,R',L,LV rfl,R.newAt aL⟩
theorem Itd.new {K:(Nat→St→Option (Option V))→St→Prop} {cur:Nat→St→Option (Option V)} {o:Obj} {I:Addr→Nat→Heap→Prop} {t:Nat} (ok:G.Ok) (R:Rel G X env σ s) (ho:jq o) (hfd:o.isFreed=false) (k:K cur σ)
  (hI:(s.heap.push o).get? s.heap.objs.size=some o→I s.heap.objs.size 0 (s.heap.push o)) (T:∀ it,X.F it=none→G.hb.get? it=none→Itr G lv tg (.ref it) [it] X σ.nx cur (I it)) :
  ItdAt G lv tg env X σ.nx K (.ref s.heap.objs.size) {s with heap:=s.heap.push o,toks:=t}:=by
 apply bc;intro z_
 obtain ⟨X',R',L,h1,h2,h3⟩:=R.newIt (t:=t) ok ho hfd
 apply z_;clear z_
 exact ⟨_,σ,X,X',_,_,k,.refl,L,LR _,R',lB ⟨_,h1,ho⟩,hI (LT _ hfd),T _ h2 h3⟩
theorem CP {v:V} {val:Value} {K:(Nat→St→Option (Option V))→St→Prop} (ok:G.Ok) (ha:AOk lv A) (h:Lk v σ K) (R:Rel G X env σ s) (W:RepV X σ.nx v val):Itd G lv tg A env X σ.nx K val s:=by
 have lst:∀ {v:V} {val:Value},mj v=true→RepV X σ.nx v val→b9 v σ (fun _=>True)→K (cY v) σ→Itd G lv tg A env X σ.nx K val s:=by
  intro v val hv W hl k
  apply bc;intro z_
  obtain ⟨a,o,items,ws,rfl,ho,hlo,hs,e⟩:=cr R W hl
  apply z_;clear z_
  exact wpAny_pyIter_list (hlo.isList ho) (Itd.new (t:=s.toks) (I:=fun it i h=>h.IsListIter it a i) ok R ⟨rfl,_,rfl⟩ rfl k (fun e=>⟨_,e,rfl,rfl⟩) fun it h2 h3=>Itr.list ok hv W h2 h3)
 cases v with
 | str x=>
  apply bc;intro z_
  obtain ⟨t,rfl⟩:=W.inv
  obtain ⟨q,h⟩:=onT.out h
  apply z_;clear z_
  exact wpAny_pyIter_ascii (px q) (Itd.new (t:=s.toks) (I:=fun it i h=>h.IsStrIter it "str_ascii_iterator" ⟨x.toArray⟩ t i) ok R ⟨rfl,_,rfl⟩ rfl h (fun e=>⟨_,e,rfl,rfl⟩) fun it h2 h3=>Itr.str ok h2 h3)
 | loc l=>
  apply bc;intro z_
  obtain ⟨vs,q,h⟩:=onS.out h
  apply z_;clear z_
  exact lst rfl W (by unfold b9; dsimp only; rw [bG q]; trivial) h
 | tup vs=>
  cases W.tupI with
  | mk vals a o ho hl hs=>
  exact wpAny_pyIter_tuple (hl.isTuple (R.sub _ _ ho)) (Itd.new (t:=s.toks) (I:=fun it i h=>h.IsTupleIter it a i) ok R ⟨rfl,_,rfl⟩ rfl h (fun e=>⟨_,e,rfl,rfl⟩) fun it h2 h3=>Itr.tuple ok ho hl hs h2 h3)
 | fro vs=>exact lst rfl W trivial h
 | _=>exact h.elim
theorem Itd.lift {K:(Nat→St→Option (Option V))→St→Prop} {val:Value} (L:X.le n X') (hn:n≤n') (h:Itd G lv tg A env X' n' K val s):Itd G lv tg A env X n K val s:=
 LF h (fun _ _ ⟨cur,σ1,X0,X1,S,I,k,L0,L1,n1,r,f,i,T⟩=>⟨cur,σ1,X0,X1,S,I,k,L.trans L0 hn,L1,LN hn n1,r,f,i,T⟩) fun _ _ z=>z
noncomputable def r5 (d:DE):DI:=fun σ K=>d σ fun v σ1=>Lk v σ1 K
theorem cO {e:PySem.Expr} {d:DE} (ok:G.Ok) (h:SE G lv sc e d):SI G lv sc tg e (r5 d):=fun σ K hd A env X s ha he R=>
 h.run hd ha he R fun val s1 v σ1 X1 k1 L1 n1 R1 W1=>Itd.lift L1 n1 (CP ok ha k1 R1 W1)
noncomputable def SK (G:Glob) (lv:Nat) (sc:Sc) (ks:List Keyword) (d:DA):Prop:=∀ σ Q,d σ Q→∀ A env X s pos,AOk lv A→EOk sc env→Rel G X env σ s →
 wpAny (model G.prog G.w) A (evalAll ((backToKw pos (keywordEach ks env)).map (·.2))) (fun vals s'=>∃ vs σ' X',Q vs σ'∧X.le σ.nx X'∧σ.nx≤σ'.nx∧Rel G X' env σ' s'∧RepVs X' σ'.nx vs vals) bg s
theorem aw:SK G lv sc [] (fun σ Q=>Q [] σ):=fun σ Q hd A env X s pos ha he R=>LE ⟨[],σ,X,hd,.refl,LR _,R,.nil⟩
noncomputable def rV (d:DE) (ds:DA):DA:=fun σ Q=>d σ fun v σ1=>ds σ1 fun vs σ2=>Q (v::vs) σ2
theorem jb {x:Str} {e:PySem.Expr} {p:Pos} {ks:List Keyword} {d:DE} {ds:DA} (h:SE G lv sc e d) (hs:SK G lv sc ks ds):SK G lv sc (⟨some x,e,p⟩::ks) (rV d ds):=fun σ Q hd A env X s pos ha he R=>by
 refine kws_cons (h.run hd ha he R fun val s1 v σ1 X1 k1 L1 n1 R1 W1=>?_)
 refine LF (hs σ1 _ k1 A env X1 s1 pos ha he R1) (fun vals s2 y_=>?_) fun _ _ z=>z
 apply bc;intro z_
 obtain ⟨vs,σ2,X2,q,L2,n2,R2,W2⟩:=y_
 apply z_;clear z_
 exact ⟨v::vs,σ2,X2,q,L1.trans L2 n1,LN n1 n2,R2,.cons (W1.mono L2 n2) W2⟩
noncomputable def CB (G:Glob) (lv:Nat) (f:Value) (ks:List Str) (D:List V→List V→DE):Prop:=∀ vs kvs σ Q,D vs kvs σ Q→∀ A env X s vals kvals,AOk lv A→Rel G X env σ s→RepVs X σ.nx vs vals→RepVs X σ.nx kvs kvals →
 (∀ Q':Keeper→Shared→Prop,(∀ k,k≠Keeper.caller→Q' k s)→wpAny (model G.prog G.w) A (keeperOf f) Q' bg s)∧wpAny (model G.prog G.w) A (call f vals (ks.zip kvals)) (Post G X env σ.nx Q) bg s
theorem CB.of {f:Value} {D:List V→DE} (hf:∀ a,f≠.ref a) (h:∀ vs σ Q,D vs σ Q→∀ A env X s vals,AOk lv A→Rel G X env σ s→RepVs X σ.nx vs vals→wpAny (model G.prog G.w) A (call f vals) (Post G X env σ.nx Q) bg s) :
  CB G lv f [] (fun vs _=>D vs):=fun vs kvs σ Q hd A env X s vals kvals ha R W _=>⟨fun Q' k=>by
   cases f <;> first | exact absurd rfl (hf _) | exact LE (k _ (by decide)),h vs σ Q hd A env X s vals ha R W⟩
theorem lh {M:Model} {E:Value→Shared→Prop} {f:Value} {args:List (Bool×Sem Value)} {keywords:List (Option Str×Sem Value)} {Q:Args→Shared→Prop} (hplain:args.any (·.1)=false)
  (hall:keywords.all (·.1.isSome)=true)
  (h:wpAny M A (spliced args) (fun vs s₁=>wpAny M A (evalAll (keywords.map (·.2))) (fun kvs s₂=>Q ⟨vs,(keywords.filterMap (·.1)).zip kvs⟩ s₂) E s₁) E s) :
  wpAny M A (evalArgs f true args keywords) Q E s:=by
 have key:evalArgs f true args keywords=(do
   let pos ← spliced args
   holding pos do
    let kw:=(keywords.filterMap (·.1)).zip (← evalAll (keywords.map (·.2)))
    return ⟨pos,kw⟩):=by
  unfold evalArgs
  have:∀ (x:Sem Value),args≠[(true,x)]:=fun x w=>by rw [w] at hplain; cases hplain
  cases args with
  | nil=>simp [hall]
  | cons a r=>
   obtain ⟨b,x⟩:=a
   cases b with
   | false=>simp [hall]
   | true=>simp at hplain
 rw [key]
 refine LD (LF h (fun vs s' h'=>?_) fun _ _ x=>x)
 exact LG (LD (LF h' (fun kvs s₂ h₂=>LE h₂) fun _ _ x=>x))
theorem bT {M:Model} {E:Value→Shared→Prop} {f:Value} {first:List Value} {args:List (Bool×Sem Value)} {keywords:List (Option Str×Sem Value)} {Q:Value→Shared→Prop} {pos:Pos} (hplain:args.any (·.1)=false)
  (hall:keywords.all (·.1.isSome)=true)
  (h:wpAny M A (spliced args) (fun vs s₁=>wpAny M A (evalAll (keywords.map (·.2))) (fun kvs s₂=>
   (∀ Q':Keeper→Shared→Prop,(∀ k,k≠Keeper.caller→Q' k s₂)→wpAny M A (keeperOf f) Q' E s₂)∧wpAny M A (call f (first++vs) ((keywords.filterMap (·.1)).zip kvs)) Q E s₂) E s₁) E s) :
  wpAny M A (callWith pos f first args keywords) Q E s:=by
 have hkw:keywords.any (·.1.isNone)=false:=by
  rw [List.any_eq_false]; intro x hx
  have:=List.all_eq_true.mp hall x hx
  cases q:x.1 <;> simp [q] at this ⊢
 unfold callWith
 refine LD (LG (lh hplain hall (LF h (fun vs s₁ h₁=>LF h₁ (fun kvs s₂ h₂=>LD (LH ?_)) fun _ _ z=>z) fun _ _ z=>z)))
 have tail:∀ {t:Sem Value},wpAny M A t Q E s₂→wpAny M A (t >>= fun r=>holding [r] point >>= fun _=>pure r) Q E s₂:=
  fun ht=>LD (LF ht (fun r s₂ hr=>LD (LG (wpAny_point (LE hr)))) fun _ _ x=>x)
 apply bc;intro z_
 obtain ⟨hk,hc⟩:=h₂
 apply z_;clear z_
 simp only [hplain,hkw,Bool.or_false]
 refine LD (hk _ fun k nk=>?_)
 cases k with
 | caller=>exact absurd rfl nk
 | machine=>exact tail hc
 | frame=>
  dsimp only
  refine wpAny_ite ?_
  split
  ·exact tail hc
  ·exact tail (by unfold callMarked; exact wpAny_keep hc)
 | boundFrame=>
  dsimp only
  refine wpAny_ite ?_
  split
  ·exact tail hc
  ·exact tail (by unfold callMarked; exact wpAny_keep hc)
noncomputable def SC (G:Glob) (lv:Nat) (sc:Sc) (e:PySem.Expr) (ks:List Str) (D:List V→List V→DE):Prop:=∀ A env X σ s,AOk lv A→EOk sc env→Rel G X env σ s →
 ∀ Q,(∀ f,CB G lv f ks D→Q f s)→wpAny (model G.prog G.w) A (eval e env) Q bg s
noncomputable def ja (D:List V→List V→DE) (da dk:DA):DE:=fun σ Q=>da σ fun vs σ1=>dk σ1 fun kvs σ2=>D vs kvs σ2 Q
theorem aM {x:Str} {np p:Pos} {args:List PySem.Expr} {ks:List Keyword} {names:List Str} {D:List V→List V→DE} {da dk:DA} (hf:SC G lv sc (.Name x np) names D) (ha:SA G lv sc args da) (hk:SK G lv sc ks dk)
  (h1:∀ env pos,(backTo pos (starEach args env)).any (·.1)=false) (h2:∀ env pos,(backToKw pos (keywordEach ks env)).all (·.1.isSome)=true) (h3:∀ env pos,(backToKw pos (keywordEach ks env)).filterMap (·.1)=names):SE G lv sc (.Call (.Name x np) args ks p) (ja D da dk):=fun σ Q hd A env X s hA he R=>by
 refine wpAny_Call_ofName (hf A env X σ s hA he R _ fun f hc=>?_)
 refine bT (h1 env _) (h2 env _) ?_
 refine LF (ha σ _ hd A env X s p hA he R) (fun vals s1 y_=>?_) fun _ _ z=>z
 apply bc;intro z_
 obtain ⟨vs,σ1,X1,q1,L1,n1,R1,W1⟩:=y_
 apply z_;clear z_
 refine LF (hk σ1 _ q1 A env X1 s1 p hA he R1) (fun kvals s2 y_=>?_) fun _ _ z=>z
 apply bc;intro z_
 obtain ⟨kvs,σ2,X2,q2,L2,n2,R2,W2⟩:=y_
 apply z_;clear z_
 rw [h3,List.nil_append]
 apply bc;intro z_
 obtain ⟨a,b⟩:=hc vs kvs σ2 Q q2 A env X2 s2 vals kvals hA R2 (W1.mono L2 n2) W2
 apply z_;clear z_
 exact ⟨a,LF b (fun _ _ z=>Post.lift (L1.trans L2 n1) (LN n1 n2) z) fun _ _ z=>z⟩
theorem qr {x:Str} {i:Nat} {np:Pos} {f:Value} {ks:List Str} {D:List V→List V→DE} (ok:G.Ok) (hx:sc.names[i]?=some (x,.globalImplicit)) (hg:nsIn G.K mainGlobals x=some none) (hn:x≠"__name__") (hb:bootBuiltins x=some f)
  (hdb:(x==("__debug__":Str))=false) (hc:CB G lv f ks D):SC G lv sc (.Name x np) ks D:=fun A env X σ s ha he R Q q=>
 wpAny_Name (cZ ok he R hx hg hn hb (q f hc)) hdb
theorem rL {x:Str} {i:Nat} {np:Pos} {a:Addr} {ks:List Str} {D:List V→List V→DE} (ok:G.Ok) (hx:sc.names[i]?=some (x,.globalImplicit)) (hg:nsIn G.K mainGlobals x=some (some (.ref a)))
  (hdb:(x==("__debug__":Str))=false) (hc:CB G lv (.ref a) ks D):SC G lv sc (.Name x np) ks D:=fun A env X σ s ha he R Q q=>by
 refine wpAny_Name (fh he hx ?_) hdb
 unfold loadGlobal
 rw [he.globals]
 exact LD ((looks_nsIn (R.K ok) hg).here (LE (q _ hc)))
noncomputable def Kn (v:V) (σ:St):Option Nat:=match v with
 | .tup xs=>some xs.length
 | .loc l=>(dw l σ).map List.length
 | .fro xs=>some xs.length
 | _=>none
noncomputable def Km (vs:List V) (σ:St) (Q:V→St→Prop):Prop:=mE vs fun v=>onS (Kn v σ) fun n=>fits n (Q (.int n) σ)
noncomputable def Kj (vs:List V) (σ:St) (Q:V→St→Prop):Prop:=mE vs fun v=>bD v fun i=>Q (.int i) σ
noncomputable def HB:Int→Int
 | .ofNat n=>.ofNat n
 | .negSucc n=>.ofNat (n+1)
noncomputable def J4 (vs:List V) (σ:St) (Q:V→St→Prop):Prop:=mE vs fun v=>bD v fun i=>Q (.int (HB i)) σ
noncomputable def wU (vs:List V) (σ:St) (Q:V→St→Prop):Prop:=D6 vs fun v w=>bD v fun i=>bD w fun j=>onT (bk j) (posI j fun n=>Q (.tup [.int (Int.fdiv i (.ofNat (n+1))),.int (Int.fmod i (.ofNat (n+1)))]) σ)
noncomputable def we (v:V) (σ:St):Option String:=match v with
 | .str _=>some "str"
 | .fro _=>some "list"
 | .loc l=>(dw l σ).map fun _=>"list"
 | _=>none
noncomputable def JL (vs:List V) (σ:St) (Q:V→St→Prop):Prop:=mE vs fun v=>onS (we v σ) fun T=>Q (.ty T) σ
noncomputable def GQ (vs:List V) (σ:St) (Q:V→St→Prop):Prop:=mE vs fun v=>b9 v σ fun xs=>fits xs.length (Q (.tup xs) σ)
noncomputable def j3:Int→List Int→Int
 | m,[]=>m
 | m,a::r=>j3 (match decide (m<a) with | true=>a | false=>m) r
noncomputable def Im (v:V):Option Int:=match v with | .int i=>some i | _=>none
noncomputable def jp:List V→Option (List Int)
 | []=>some []
 | v::r=>(Im v).bind fun i=>(jp r).map (List.cons i)
noncomputable def Iv (v:V) (σ:St) (Q:V→St→Prop):Prop:=b9 v σ fun xs=>match jp xs with
 | some (n::ns)=>Q (.int (j3 n ns)) σ
 | _=>False
noncomputable def Ko (v w:V) (σ:St) (Q:V→St→Prop):Prop:=bD v fun i=>bD w fun j=>match decide (i<j) with
 | true=>Q (.int j) σ
 | false=>Q (.int i) σ
noncomputable def Kp (vs:List V) (σ:St) (Q:V→St→Prop):Prop:=match vs with
 | [v,w]=>Ko v w σ Q
 | vs=>mE vs fun v=>Iv v σ Q
noncomputable def KN (vs:List V) (σ:St) (Q:V→St→Prop):Prop:=mE vs fun v=>b9 v σ fun xs=>onS (jp xs) fun ns=>Q (.int ns.sum) σ
theorem ue {ns:List Int}:∀ {m:Int},j3 m ns∈m::ns∧∀ a∈m::ns,a≤j3 m ns:=by
 induction ns with
 | nil=>intro m; exact ⟨LY ..,fun a h=>Int.le_of_eq (List.mem_singleton.mp h)⟩
 | cons a r ih=>
  intro m
  show j3 (match decide (m<a) with | true=>a | false=>m) r∈_∧∀ b∈_,b≤j3 (match decide (m<a) with | true=>a | false=>m) r
  have key:∀ {k:Int},(k=a∧m≤k)∨(k=m∧a≤k)→j3 k r∈m::a::r∧∀ b∈m::a::r,b≤j3 k r:=fun {k} hk=>by
   apply bc;intro z_
   obtain ⟨h1,h2⟩:=ih (m:=k)
   apply z_;clear z_
   have h3:=h2 k (LY ..)
   have hr:∀ b∈r,b≤j3 k r:=fun b hb=>h2 b (LQ _ hb)
   rcases hk with ⟨rfl,hk⟩ | ⟨rfl,hk⟩
   ·exact ⟨LQ _ h1,List.forall_mem_cons.mpr ⟨Int.le_trans hk h3,h2⟩⟩
   ·exact ⟨(List.mem_cons.mp h1).elim (fun e=>by rw [e]; exact LY ..) fun e=>LQ _ (LQ _ e),List.forall_mem_cons.mpr ⟨h3,List.forall_mem_cons.mpr ⟨Int.le_trans hk h3,hr⟩⟩⟩
  by_cases h:m<a
  ·rw [Mb h]; exact key (.inl ⟨rfl,Int.le_of_lt h⟩)
  ·rw [Ma h]; exact key (.inr ⟨rfl,Int.not_lt.mp h⟩)
theorem RepVs.one {v:V} {vals:List Value} (W:RepVs X n [v] vals):∃ val,vals=[val]∧RepV X n v val:=by
 cases W with | cons a b=>cases b; exact ⟨_,rfl,a⟩
theorem RepVs.two {v w:V} {vals:List Value} (W:RepVs X n [v,w] vals):∃ val val',vals=[val,val']∧RepV X n v val∧RepV X n w val':=by
 cases W with | cons a b=>cases b with | cons c d=>cases d; exact ⟨_,_,rfl,a,c⟩
theorem fP:CB G lv (.builtin "len") [] (fun vs _=>Km vs):=CB.of (fun a w=>by cases w) fun vs σ Q hd A env X s vals ha R W=>by
 refine W.on1_ hd fun v val Wv hd=>?_
 apply bc;intro z_
 obtain ⟨m,e,hd⟩:=onS.out hd
 obtain ⟨hz,q⟩:=fits.out hd
 apply z_;clear z_
 have big:(m:Int)<2 ^ 63:=by omega
 have lst:∀ {a:Addr} {o:Obj} {xs:List V} {items:List Value},s.heap.get? a=some o→LObj "list" o items→RepVs X σ.nx xs items→xs.length=m →
   wpAny (model G.prog G.w) A (call (.builtin "len") [.ref a]) (Post G X env σ.nx Q) bg s:=fun {a o xs items} ho hl hs e=>by
  have e:items.toArray.size=m:=by rw [LW,hs.length,e]
  exact Calls.call_len_list (hl.isList ho) (by rw [e]; exact big) (e.symm ▸ Post.ret q ((R.toks _)) (.int _ _))
 cases v with
 | loc l=>
  apply bc;intro z_
  obtain ⟨xs,q,e⟩:=Option.map_eq_some_iff.mp e
  cases (Wv.inv:val=.ref (X.ρ l))
  obtain ⟨_,o,vals,h1,h2,h3⟩:=R.st l _ (bG q)
  apply z_;clear z_
  exact lst h1 h2 h3 e
 | tup xs=>
  cases Wv.tupI with
  | mk items a o ho hl hs=>
  have e:items.toArray.size=m:=by rw [LW,hs.length]; exact Option.some.inj e
  apply bc;intro z_
  obtain ⟨c,d,dt,sl⟩:=o
  obtain ⟨h1,h2,⟨ep,h3⟩,h4⟩:=hl
  apply z_;clear z_
  dsimp only at h1 h2 h3 h4
  subst h1 h2 h3 h4
  exact PySem.P.len_tuple (R.sub _ _ ho) (by rw [e]; exact Int.not_le.mpr big) (e.symm ▸ Post.ret q (R.toks _) (.int _ _))
 | fro xs=>
  cases Wv.froI with
  | mk items a o ho hl hs=>exact lst (R.sub _ _ ho) hl hs (Option.some.inj e)
 | _=>first | exact nS e | exact nB e | cases e
theorem zS:CB G lv (.type "int") [] (fun vs _=>Kj vs):=CB.of (fun a w=>by cases w) fun vs σ Q hd A env X s vals ha R W=>
 W.on1_ hd fun v val Wv hd=>Wv.int_ hd fun i t hd=>call_int_int (Post.ret hd R (.int _ _))
theorem He:CB G lv (.builtin "abs") [] (fun vs _=>J4 vs):=CB.of (fun a w=>by cases w) fun vs σ Q hd A env X s vals ha R W=>by
 refine W.on1_ hd fun v val Wv hd=>Wv.int_ hd fun i t hd=>?_
 refine PyProof.Rows.call_abs_int fun u tk=>?_
 have:(if i<0 then -i else i)=HB i:=by
  cases i with
  | ofNat n=>exact LU (Int.not_lt.mpr (Int.natCast_nonneg n))
  | negSucc n=>rw [LV (Int.negSucc_lt_zero n)]; rfl
 rw [this]
 exact Post.ret hd (R.toks _) (.int _ _)
theorem rD (ok:G.Ok):CB G lv (.builtin "divmod") [] (fun vs _=>wU vs):=CB.of (fun a w=>by cases w) fun vs σ Q hd A env X s vals ha R W=>by
 refine W.on2_ hd fun v w val val' Wv Ww hd=>Wv.int_ hd fun i t hd=>Ww.int_ hd fun j u hd=>?_
 apply bc;intro z_
 obtain ⟨q,hd⟩:=onT.out hd
 obtain ⟨m,rfl,hd⟩:=posI.out hd
 apply z_;clear z_
 exact PyProof.Rows.divmod_int (by intro e; cases e) (Post.newTuple ok hd (R.toks (s.toks+1+1)) (vals:=[.int _ _,.int _ _]) (.cons (.int _ _) (.cons (.int _ _) .nil))) (.inl (PyProof.noPylong_small (eR q)))
theorem rH:CB G lv (.type "type") [] (fun vs _=>JL vs):=CB.of (fun a w=>by cases w) fun vs σ Q hd A env X s vals ha R W=>by
 refine W.on1_ hd fun v val Wv hd=>?_
 apply bc;intro z_
 obtain ⟨T,e,hd⟩:=onS.out hd
 apply z_;clear z_
 cases v with
 | str x=>
  apply bc;intro z_
  obtain ⟨t,rfl⟩:=Wv.inv
  apply z_;clear z_
  cases e
  exact call_type_of (Tx:="str") (typeIs_str _ _ _) rfl (Post.ret hd R (.ty _))
 | loc l=>
  apply bc;intro z_
  obtain ⟨xs,q,rfl⟩:=Option.map_eq_some_iff.mp e
  cases (Wv.inv:val=.ref (X.ρ l))
  obtain ⟨_,o,vals,h1,h2,h3⟩:=R.st l _ (bG q)
  apply z_;clear z_
  exact call_type_of (Tx:="list") ⟨o,h1,h2.1⟩ rfl (Post.ret hd R (.ty _))
 | fro xs=>
  cases e
  cases Wv.froI with
  | mk items a o ho hl hs=>exact call_type_of (Tx:="list") ⟨_,R.sub _ _ ho,hl.1⟩ rfl (Post.ret hd R (.ty _))
 | _=>first | exact nS e | exact nB e | cases e
theorem pd (ok:G.Ok):CB G lv (.type "tuple") [] (fun vs _=>GQ vs):=CB.of (fun a w=>by cases w) fun vs σ Q hd A env X s vals ha R W=>by
 refine W.on1_ hd fun v val Wv hd=>?_
 apply bc;intro z_
 obtain ⟨a,o,items,xs,rfl,ho,hl,hs,q⟩:=cr R Wv hd
 obtain ⟨hz,q⟩:=fits.out q
 apply z_;clear z_
 exact call_tuple_list (hl.isList ho) (fun h' hk=>Post.newTuple ok q (R.keeps (s':={s with heap:=h'}) hk rfl rfl R.gens) hs) (by rw [LW,hs.length,L6]; omega)
theorem kt {vs:List V}:∀ {vals:List Value} {ns:List Int},jp vs=some ns→RepVs X n vs vals→∃ xs:List (Int×Tok),vals=xs.map (fun p=>Value.int p.1 p.2)∧xs.map (·.1)=ns:=by
 induction vs with
 | nil=>intro vals ns h W; cases W; cases h; exact ⟨[],rfl,rfl⟩
 | cons v r ih=>
  intro vals ns h W
  cases W with
  | cons a b=>
   apply bc;intro z_
   obtain ⟨i,h1,h⟩:=Option.bind_eq_some_iff.mp h
   obtain ⟨ms,h2,rfl⟩:=Option.map_eq_some_iff.mp h
   obtain ⟨xs,rfl,rfl⟩:=ih h2 b
   apply z_;clear z_
   cases v with
   | int j=>
    apply bc;intro z_
    obtain ⟨t,rfl⟩:=a.inv
    apply z_;clear z_
    cases h1
    exact ⟨(i,t)::xs,rfl,rfl⟩
   | _=>first | exact nS h1 | exact nB h1 | cases h1
theorem LObj.ints {a:Addr} {o:Obj} {xs:List (Int×Tok)} (hl:LObj "list" o (xs.map fun p=>Value.int p.1 p.2)) (ho:s.heap.get? a=some o):s.heap.IsList a (intItems xs.toArray):=by
 apply bc;intro z_
 obtain ⟨o,h1,h2,ep,h3⟩:=hl.isList ho
 apply z_;clear z_
 exact ⟨o,h1,h2,ep,by rw [h3]; simp [intItems]⟩
theorem Bi {xs:List (Int×Tok)} {m:Int} {ns:List Int} (e2:xs.map (·.1)=m::ns):numAt xs.toArray (argBest (fun i j=>decide (numAt xs.toArray i > numAt xs.toArray j)) (xs.toArray.size - 1))=j3 m ns:=by
 have hx:xs.length=ns.length+1:=by rw [← List.length_map (f:=(·.1)),e2]; rfl
 apply bc;intro z_
 obtain ⟨h1,h2⟩:=argBest_gt (numAt xs.toArray) (xs.toArray.size - 1)
 apply z_;clear z_
 have h3:xs.toArray.size - 1=ns.length:=by rw [LW,hx]; rfl
 rw [h3] at h1 h2 ⊢
 have at_:∀ j,j≤ns.length→(m::ns)[j]?=some (numAt xs.toArray j):=fun j hj=>by
  rw [← e2,List.getElem?_map]
  unfold numAt
  have:j<xs.length:=hx ▸ Nat.lt_succ_of_le hj
  simp [List.getElem?_eq_getElem this]
 apply bc;intro z_
 obtain ⟨g1,g2⟩:=ue (ns:=ns) (m:=m)
 apply z_;clear z_
 refine Int.le_antisymm (g2 _ (Mh (at_ _ h1))) ?_
 apply bc;intro z_
 obtain ⟨j,hj,e⟩:=List.mem_iff_getElem.mp g1
 apply z_;clear z_
 have hj':j≤ns.length:=Nat.le_of_lt_succ hj
 have:=at_ j hj'
 rw [List.getElem?_eq_getElem hj,Option.some.injEq] at this
 rw [← e,this]
 exact h2 j hj'
theorem rE:CB G lv (.builtin "max") [] (fun vs _=>Kp vs):=CB.of (fun a w=>by cases w) fun vs σ Q hd A env X s vals ha R W=>by
 have one:mE vs (fun v=>Iv v σ Q)→wpAny (model G.prog G.w) A (call (.builtin "max") vals) (Post G X env σ.nx Q) bg s:=fun hd=>by
  refine W.on1_ hd fun v val Wv hd=>?_
  apply bc;intro z_
  obtain ⟨a,o,items,vs,rfl,ho,hl,hs,q⟩:=cr R Wv hd
  apply z_;clear z_
  cases e:jp vs with
  | none=>rw [e] at q; exact q.elim
  | some l=>
   rw [e] at q
   cases l with
   | nil=>exact q.elim
   | cons m ns=>
    apply bc;intro z_
    obtain ⟨xs,rfl,e2⟩:=kt e hs
    apply z_;clear z_
    refine max_intList ha.handled (hl.ints ho) (by cases xs with | nil=>cases e2 | cons=>exact Nat.succ_pos _) fun v h' tk hv hk=>?_
    apply bc;intro z_
    obtain ⟨t,rfl⟩:=intItems_at hv
    apply z_;clear z_
    rw [Bi e2]
    exact Post.ret q (R.keeps (s':={s with heap:=h',toks:=tk}) hk rfl rfl R.gens) (.int _ _)
 cases vs with
 | nil=>exact hd.elim
 | cons v r=>cases r with
  | nil=>exact one hd
  | cons w r=>cases r with
   | cons=>exact hd.elim
   | nil=>
    apply bc;intro z_
    obtain ⟨val,val',rfl,Wv,Ww⟩:=W.two
    apply z_;clear z_
    refine Wv.int_ hd fun i t hd=>Ww.int_ hd fun j u hd=>?_
    refine max_two_ints ha.handled fun h' tk hk=>?_
    have R':=R.keeps (s':={s with heap:=h',toks:=tk}) hk rfl rfl R.gens
    by_cases q:i<j
    ·rw [LV q]; rw [Mb q] at hd; exact Post.ret hd R' (.int _ _)
    ·rw [LU q]; rw [Ma q] at hd; exact Post.ret hd R' (.int _ _)
theorem rG:CB G lv (.builtin "sum") [] (fun vs _=>KN vs):=CB.of (fun a w=>by cases w) fun vs σ Q hd A env X s vals ha R W=>by
 refine W.on1_ hd fun v val Wv hd=>?_
 apply bc;intro z_
 obtain ⟨a,o,items,vs,rfl,ho,hl,hs,q⟩:=cr R Wv hd
 obtain ⟨ns,e,q⟩:=onS.out q
 obtain ⟨xs,rfl,e2⟩:=kt e hs
 apply z_;clear z_
 refine sum_intListG ha.handled (hl.ints ho) fun h' tk t' hk=>?_
 have:preSum (numAt xs.toArray) xs.toArray.size=ns.sum:=by
  rw [preSum_eq,List.take_of_length_le (by simp)]; simp [e2]
 rw [this]
 exact Post.ret q (R.keeps (s':={s with heap:=h',toks:=tk}) hk rfl rfl R.gens) (.int _ _)
theorem AZ (ok:G.Ok):CB G lv (.type "set") [] (fun vs _ σ Q=>match vs with | []=>jB (.set []) σ Q | _::_=>False):=CB.of (fun a w=>by cases w) fun vs σ Q hd A env X s vals ha R W=>by
 cases vs with
 | cons=>exact hd.elim
 | nil=>
  cases W
  refine call_set_0 fun led=>?_
  apply bc;intro z_
  obtain ⟨R',L⟩:=R.anew (o:=.set []) (s':={s with heap:=s.heap.push {cls:=.type "set",dict:=none,data:=.set #[] 0 (.fresh 0 0 led)}}) aL (R.size ok) (fun _ _ e=>LM _ e)
   (fun X' L=>⟨fun _=>false,(setObjOf_fresh led).setOf (LT _ rfl) (by decide),fun x=>by simp⟩) rfl rfl R.gens
  apply z_;clear z_
  refine ⟨_,_,_,hd,L,Mj _,R',?_⟩
  have:=RepV.loc (X:={X with ρ:=fun l=>if l=σ.nx then s.heap.objs.size else X.ρ l}) (n:=σ.nx+1) σ.nx (LX _)
  dsimp only at this
  rw [LV rfl] at this
  exact this
noncomputable def Bo (a c:Int) (n:Nat) (i:Nat) (σ:St):Option (Option V):=match Nat.ble n i with
 | true=>some none
 | false=>some (some (.int (a+i*c)))
noncomputable def vz (a b c:Int) (σ:St) (K:(Nat→St→Option (Option V))→St→Prop):Prop:=onT (Builtin.Range.small a b c) (K (Bo a c (Builtin.Range.rangeSize a b c).toNat) σ)
noncomputable def GE (vs:List V) (σ:St) (K:(Nat→St→Option (Option V))→St→Prop):Prop:=match vs with
 | [b]=>bD b fun b=>vz 0 b 1 σ K
 | [a,b]=>bD a fun a=>bD b fun b=>vz a b 1 σ K
 | vs=>IH vs fun a b c=>bD a fun a=>bD b fun b=>bD c fun c=>onT (bk c) (posI c fun m=>vz a b (.ofNat (m+1)) σ K)
noncomputable def wS (v:V) (i:Nat) (σ:St):Option (Option V):=(cY v i σ).map (Option.map fun x=>.tup [.int i,x])
noncomputable def HW (vs:List V) (σ:St) (K:(Nat→St→Option (Option V))→St→Prop):Prop:=mE vs fun v=>b9 v σ fun _=>K (wS v) σ
noncomputable def CI (G:Glob) (lv:Nat) (tg:Bool) (f:Value) (D:List V→DI):Prop:=∀ vs σ K,D vs σ K→∀ A env X s vals,AOk lv A→Rel G X env σ s→RepVs X σ.nx vs vals →
 wpAny (model G.prog G.w) A (call f vals) (Itd G lv tg A env X σ.nx K) bg s
theorem wF {x:Str} {i:Nat} {np p:Pos} {args:List PySem.Expr} {f:Value} {D:List V→DI} {da:DA} (ok:G.Ok) (hx:sc.names[i]?=some (x,.globalImplicit)) (hg:nsIn G.K mainGlobals x=some none) (hn:x≠"__name__") (hb:bootBuiltins x=some f)
  (hdb:(x==("__debug__":Str))=false) (hf:∀ a,f≠.ref a) (hc:CI G lv tg f D) (ha:SA G lv sc args da)
  (h1:∀ env pos,(backTo pos (starEach args env)).any (·.1)=false) :
  SI G lv sc tg (.Call (.Name x np) args [] p) (fun σ K=>da σ fun vs σ1=>D vs σ1 K):=fun σ K hd A env X s hA he R=>by
 refine wpAny_Call_ofName (wpAny_Name (cZ ok he R hx hg hn hb ?_) hdb)
 refine bT (h1 env _) (by rfl) ?_
 refine LF (ha σ _ hd A env X s p hA he R) (fun vals s1 ⟨vs,σ1,X1,q1,L1,n1,R1,W1⟩=>LE ⟨fun Q' k=>?_,?_⟩) fun _ _ z=>z
 ·cases f <;> first | exact absurd rfl (hf _) | exact LE (k _ (by decide))
 ·rw [List.nil_append]
  exact LF (hc vs σ1 K q1 A env X1 s1 vals hA R1 W1) (fun _ _ z=>Itd.lift L1 n1 z) fun _ _ z=>z
theorem tU {h:Heap} {it:Addr} {x l c:Int} (y:IsRangeIter h it x l c):∃ o,h.get? it=some o∧jq o∧o.cls=.type "range_iterator":=⟨_,y,⟨rfl,_,rfl⟩,rfl⟩
theorem Itr.range {a c:Int} {k:Nat} {it:Addr} (ok:G.Ok) (hit:X0.F it=none) (hb:G.hb.get? it=none) :
  Itr G lv tg (.ref it) [it] X0 n0 (Bo a c k) (fun i h=>IsRangeIter h it (a+(i:Nat)*c) ((k:Int) - (i:Nat)) c) where
 fresh:=lB hit
 hbS:=lB hb
 step:=fun A env i X σ s r ha L hn R hf hi hc=>by
  unfold Bo at hc
  cases q:Nat.ble k i with
  | true=>
   rw [q] at hc
   cases hc
   have:=LP q
   exact wpAny_pyNext_range_end ha.handled hi (by omega) fun h' he=>gX (tk:=s.toks) ok R hf hb fun b q o e=>he b o q e
  | false=>
   rw [q] at hc
   cases hc
   have:¬ k≤i:=fun h=>by rw [L9 h] at q; cases q
   refine wpAny_pyNext_range_item hi (by omega) fun h' hi' hs'=>?_
   have e1:a+((i+1:Nat):Int)*c=a+(i:Int)*c+c:=by rw [Int.natCast_succ,Int.add_mul,Int.one_mul,Int.add_assoc]
   have e2:(k:Int) - ((i+1:Nat):Int)=(k:Int) - (i:Int) - 1:=by rw [Int.natCast_succ,Int.sub_sub]
   exact fM (I:=fun i h=>IsRangeIter h it (a+(i:Nat)*c) ((k:Int) - (i:Nat)) c) (tk:=s.toks+1) ok R hf hb (fun b q o e=>(hs'.2 b q).trans e) (tU hi') rfl (.int _ _) (by
    show IsRangeIter h' it (a+((i+1:Nat):Int)*c) ((k:Int) - ((i+1:Nat):Int)) c
    rw [e1,e2]; exact hi')
 stable:=fun i X h h' L hX hf hi hk=>by
  apply bc;intro z_
  obtain ⟨o',e',_⟩:=hf it (List.mem_singleton_self _)
  apply z_;clear z_
  have:=hX _ _ e'
  rw [hi] at this; cases this
  exact hk _ _ e'
 self:=fun A i s Q ha hi q=>wpAny_pyIter_rangeiter hi q
theorem yO {a b:Int} {m:Nat}:((Builtin.Range.rangeSize a b (.ofNat (m+1))).toNat:Int)=Builtin.Range.rangeSize a b (.ofNat (m+1)):=by
 refine Int.toNat_of_nonneg ?_
 unfold Builtin.Range.rangeSize
 rw [LV (by exact Int.ofNat_lt.mpr (Nat.succ_pos m))]
 split
 ·exact Int.add_nonneg (Int.ediv_nonneg (by omega) (Int.natCast_nonneg _)) (by decide)
 ·exact Int.le_refl _
theorem oV {a b:Int} {m:Nat} {t u v:Tok} {r:Addr} {K:(Nat→St→Option (Option V))→St→Prop} (ok:G.Ok) (h:vz a b (.ofNat (m+1)) σ K) (R:Rel G X env σ s) (hr:IsRange s.heap r a b (.ofNat (m+1)) t u v) (ha:AOk lv A):Itd G lv tg A env X σ.nx K (.ref r) s:=by
 obtain ⟨q,h⟩:=onT.out h
 refine wpAny_pyIter_range hr q (Itd.new (t:=s.toks) (I:=fun it i h=>IsRangeIter h it (a+(i:Nat)*.ofNat (m+1)) (((Builtin.Range.rangeSize a b (.ofNat (m+1))).toNat:Int) - (i:Nat)) (.ofNat (m+1)))
  (o:={cls:=.type "range_iterator",data:=.fields #[rawInt a,rawInt (Builtin.Range.rangeSize a b (.ofNat (m+1))),rawInt (.ofNat (m+1))]}) ok R ⟨rfl,_,rfl⟩ rfl h (fun e=>?_) fun it h2 h3=>Itr.range ok h2 h3)
 show IsRangeIter _ _ (a+((0:Nat):Int)*.ofNat (m+1)) (((Builtin.Range.rangeSize a b (.ofNat (m+1))).toNat:Int) - ((0:Nat):Int)) _
 rw [Int.natCast_zero,Int.zero_mul,Int.add_zero,Int.sub_zero,yO]
 exact e
theorem eJ (ok:G.Ok):CI G lv tg (.type "range") GE:=fun vs σ K hd A env X s vals ha R W=>by
 have three:IH vs (fun a b c=>bD a fun a=>bD b fun b=>bD c fun c=>onT (bk c) (posI c fun m=>vz a b (.ofNat (m+1)) σ K))→wpAny (model G.prog G.w) A (call (.type "range") vals) (Itd G lv tg A env X σ.nx K) bg s:=fun hd=>by
  refine W.on3_ hd fun u v w _ _ _ Wa Wb Wc hd=>Wa.int_ hd fun a t hd=>Wb.int_ hd fun b t hd=>Wc.int_ hd fun c t hd=>?_
  apply bc;intro z_
  obtain ⟨q,hd⟩:=onT.out hd
  obtain ⟨m,rfl,hd⟩:=posI.out hd
  apply z_;clear z_
  exact call_range_3 (by intro e; cases e) (oV ok hd (R.push _ _) (IsRange.new ..) ha) (.inl (PyProof.noPylong_small (eR q)))
 cases vs with
 | nil=>exact hd.elim
 | cons v r=>cases r with
  | nil=>
   apply bc;intro z_
   obtain ⟨val,rfl,Wv⟩:=W.one
   apply z_;clear z_
   exact Wv.int_ hd fun b t hd=>call_range_1 (oV (m:=0) ok hd (R.push _ _) (IsRange.new ..) ha)
  | cons w r=>cases r with
   | nil=>
    apply bc;intro z_
    obtain ⟨val,val',rfl,Wv,Ww⟩:=W.two
    apply z_;clear z_
    exact Wv.int_ hd fun a t hd=>Ww.int_ hd fun b u hd=>call_range_2 (oV (m:=0) ok hd (R.push _ _) (IsRange.new ..) ha)
   | cons=>exact three hd
theorem sN {v:V} {i:Nat} {r:Option V} (h:wS v i σ=some r):∃ r',cY v i σ=some r'∧r'.map (fun x=>V.tup [.int i,x])=r:=Option.map_eq_some_iff.mp h
theorem rr {e it:Addr} {P:Addr→Prop} (h1:P e) (h2:P it):∀ b∈[e,it],P b:=List.forall_mem_cons.mpr ⟨h1,List.forall_mem_singleton.mpr h2⟩
theorem o8 {b e it:Addr} (q:b ∉ [e,it]):b≠e∧b≠it:=⟨fun w=>q (w ▸ LY ..),fun w=>q (w ▸ LQ _ (List.mem_singleton_self _))⟩
theorem qQ {t:PySem.Expr} (h:ez t=true):∃ a b c,t=.Tuple a b c:=by cases t <;> first | exact nB h | exact ⟨_,_,_,rfl⟩
theorem Itr.enum {v:V} {e it a:Addr} (ok:G.Ok) (hv:mj v=true) (W:RepV X0 n0 v (.ref a)) (hei:e≠it) (h1:X0.F e=none) (h2:X0.F it=none) (h3:G.hb.get? e=none) (h4:G.hb.get? it=none) :
  Itr G lv true (.ref e) [e,it] X0 n0 (wS v) (fun i h=>(∃ old,IsEnum h e it i old)∧h.IsListIter it a i) where
 fresh:=rr h1 h2
 hbS:=rr h3 h4
 step:=fun A env i X σ s r ha L hn R hf hi hc=>by
  apply bc;intro z_
  obtain ⟨r',hc',hr⟩:=sN hc
  obtain ⟨⟨old,he⟩,hi⟩:=hi
  obtain ⟨a',o,items,vs,e',ho,hl,hs,rfl⟩:=cr R (W.mono L hn) (jw hv hc')
  apply z_;clear z_
  cases e'
  cases q:vs[i]? with
  | none=>
   rw [q] at hr
   subst hr
   refine wpAny_pyNext_enum_end ha.handled he hi (hl.isList ho) (jv hs q) fun h' hk=>?_
   apply bc;intro z_
   obtain ⟨X',R',w⟩:=R.letgo (s':={s with heap:=h'}) ok hf (rr h3 h4) (fun b q o e=>hk b o (o8 q).2 e) rfl rfl R.gens
   apply z_;clear z_
   exact ⟨rfl,X',R',w⟩
  | some x=>
   rw [q] at hr
   subst hr
   apply bc;intro z_
   obtain ⟨val,hx,Wv⟩:=hs.get q
   apply z_;clear z_
   refine wpAny_pyNext_enum_item he hi (hl.isList ho) (x:=val) (by rw [My]; exact hx) hei fun h' hE hi' hT hsz hk=>?_
   refine ⟨_,rfl,fun target Q htg k=>?_⟩
   have htg:=htg rfl
   apply bc;intro z_
   obtain ⟨elts,c,pos,rfl⟩:=qQ htg
   apply z_;clear z_
   refine wpAny_letOwnedTupleGo_enum hE fun h2 g1 hs2=>?_
   have g2:h2.IsListIter it a (i+1):=by obtain ⟨o,x,y⟩:=hi'; exact ⟨o,(hs2.2 _ (Ne.symm hei)).trans x,y⟩
   have hel:e<s.heap.objs.size:=L7 he
   have g4:h2.get? s.heap.objs.size=some {cls:=.type "tuple",data:=.seq #[.int i s.toks,val]}:=(hs2.2 _ (Mr hel)).trans hT
   have g3:∀ b,b≠e→b≠it→∀ o,s.heap.get? b=some o→h2.get? b=some o:=fun b q1 q2 o e=>(hs2.2 b q1).trans (hk b o q1 q2 e)
   apply bc;intro z_
   obtain ⟨ot,i1,i2,i3⟩:=d8 g2
   have hex:jq (⟨.type "enumerate",none,.fields #[.none,.bool false,.ref it,rawInt ((i:Int)+1),.none,val],#[]⟩:Obj):=⟨rfl,_,rfl⟩
   obtain ⟨R0,L0⟩:=R.still (s':={s with heap:=s.heap.push {cls:=.type "tuple",data:=.seq #[.int i s.toks,val]},toks:=s.toks+1}) aL (fun _ _ e=>LM _ e) (LT _ rfl) rfl rfl R.gens ok
   obtain ⟨X1,R1,w1,f1,eq1⟩:=R0.sw (s':={s with heap:=h2,toks:=s.toks+1}) ok (hf.up L0) (rr h3 h4)
    (fun b q o e=>by
     by_cases z:b=s.heap.objs.size
     ·subst z
      rw [LT _ rfl] at e
      cases e; exact g4
     ·have e':s.heap.get? b=some o:=by rwa [Heap.get?_push_ne _ _ _ z] at e
      exact g3 b (o8 q).1 (o8 q).2 o e') (rr ⟨_,g1,hex⟩ ⟨ot,i1,i2⟩) rfl rfl R0.gens
   apply z_;clear z_
   refine k _ X1 R1 ⟨fun l hl=>(w1.ρ l hl).trans (L0.ρ l hl),fun b o q e=>w1.F b o q (L0.F _ _ e),fun b o q e=>(w1.P b o q (L0.F _ _ e)).trans (L0.P _ _ e)⟩ f1 ?_ ⟨⟨_,g1⟩,g2⟩
   refine RepV.sw (hf.up L0) w1 ?_
   exact .tup [.int i,x] [.int i s.toks,val] s.heap.objs.size _ (LV rfl) ⟨rfl,rfl,⟨0,rfl⟩,rfl⟩ (.cons (.int _ _) (.cons (Wv.mono L0 (LR _)) .nil))
 stable:=fun i X h h' L hX hf hi hk=>by
  apply bc;intro z_
  obtain ⟨⟨old,he⟩,o,ho,r⟩:=hi
  obtain ⟨o',e',_⟩:=hf it (LQ _ (List.mem_singleton_self _))
  obtain ⟨o2,e2,_⟩:=hf e (LY ..)
  apply z_;clear z_
  have:=hX _ _ e'
  rw [ho] at this; cases this
  have:=hX _ _ e2
  rw [he] at this; cases this
  exact ⟨⟨old,hk _ _ e2⟩,o,hk _ _ e',r⟩
 self:=fun A i s Q ha hi q=>by obtain ⟨⟨old,he⟩,_⟩:=hi; exact wpAny_pyIter_enum he q
theorem kP (ok:G.Ok):CI G lv true (.type "enumerate") HW:=fun vs σ K hd A env X s vals ha R W=>by
 refine W.on1_ hd fun v val Wv hd=>?_
 apply bc;intro z_
 obtain ⟨a,o,items,ws,rfl,ho,hl,hs,q⟩:=cr R Wv hd
 apply z_;clear z_
 have hv:mj v=true:=by cases v <;> first | exact hd.elim | rfl
 refine call_enumerate_list (hl.isList ho) fun h' hE hI hsz hk=>?_
 refine wpAny_pyIter_enum hE ?_
 apply bc;intro z_
 obtain ⟨ot,i1,i2,i3⟩:=d8 hI
 have hex:jq (⟨.type "enumerate",none,.fields #[.none,.bool false,.ref s.heap.objs.size,rawInt 0,.none,.none],#[]⟩:Obj):=⟨rfl,_,rfl⟩
 have n0:s.heap.get? (s.heap.objs.size+1)=none:=by
  cases z:s.heap.get? (s.heap.objs.size+1) with
  | none=>rfl
  | some o=>exact absurd (L7 z) (Mc (Mj _))
 have hfo:ot.isFreed=false:=(Heap.get?_some_iff.mp i1).2
 obtain ⟨R1,L1⟩:=R.still (s':={s with heap:=s.heap.push ot}) aL (fun _ _ e=>LM _ e) (LT _ hfo) rfl rfl R.gens ok
 have hz1:(s.heap.push ot).objs.size=s.heap.objs.size+1:=Heap.size_push ..
 have g1:(s.heap.push ot).get? (s.heap.objs.size+1)=none:=by rw [← hz1]; exact aL
 obtain ⟨R2,L2⟩:=R1.still (s':={s with heap:=h'}) (a:=s.heap.objs.size+1) g1 (fun b o e=>by
  by_cases z:b=s.heap.objs.size
  ·subst z
   rw [LT _ hfo] at e; cases e; exact i1
  ·rw [Heap.get?_push_ne _ _ _ z] at e; exact hk _ _ e) hE rfl rfl R1.gens ok
 apply z_;clear z_
 refine ⟨wS v,σ,X,_,[s.heap.objs.size+1,s.heap.objs.size],fun i h=>(∃ old,IsEnum h (s.heap.objs.size+1) s.heap.objs.size i old)∧h.IsListIter s.heap.objs.size a i,q,.refl,L1.trans L2 (LR _),LR _,R2,?_,⟨⟨_,hE⟩,hI⟩,?_⟩
 ·refine rr ⟨_,LV rfl,hex⟩ ⟨ot,?_,i2⟩
  show (if s.heap.objs.size=s.heap.objs.size+1 then _ else (if s.heap.objs.size=s.heap.objs.size then some ot else _))=some ot
  rw [LU (Ms (LX _)),LV rfl]
 ·exact Itr.enum ok hv Wv (Mr (LX _)) (R.newAt n0).1 (R.newAt aL).1 (R.newAt n0).2 (R.newAt aL).2
noncomputable def J7 {α:Type} (xs:List α) (i:Int):Option α:=match i with
 | .ofNat k=>fV xs k
 | .negSucc k=>match Nat.ble (k+1) xs.length with
  | true=>fV xs (Nat.sub xs.length (k+1))
  | false=>none
inductive AtSeq {α:Type} (xs:List α) (i:Int) (x:α):Prop
 | mk (k:Nat) (h1:seqIndex? i xs.length=some k) (h2:xs[k]?=some x) (h3:0≤i→i.toNat=k) (h4:i<0 → -(xs.length:Int)≤i∧(i+xs.length).toNat=k)
theorem kZ {α:Type} {xs:List α} {i:Int} {x:α} (h:J7 xs i=some x):AtSeq xs i x:=by
 cases i with
 | ofNat k=>
  have h:fV xs k=some x:=h
  rw [dR] at h
  have hk:k<xs.length:=(List.getElem?_eq_some_iff.mp h).1
  have h1:¬ (Int.ofNat k<0):=Int.not_lt.mpr (Int.natCast_nonneg k)
  refine ⟨k,?_,h,fun _=>rfl,fun z=>absurd z h1⟩
  unfold seqIndex?
  have h2:(decide (0≤Int.ofNat k) && decide (Int.ofNat k<(xs.length:Int)))=true:=by rw [Bool.and_eq_true]; exact ⟨Mb (Int.natCast_nonneg k),Mb (Int.ofNat_lt.mpr hk)⟩
  simp only [h1,if_false,h2,if_true]
  rfl
 | negSucc k=>
  have h:(match Nat.ble (k+1) xs.length with | true=>fV xs (Nat.sub xs.length (k+1)) | false=>none)=some x:=h
  cases q:Nat.ble (k+1) xs.length with
  | false=>rw [q] at h; first | exact nS h | exact nB h | cases h
  | true=>
   rw [q] at h
   have hk:=LP q
   have h:fV xs (xs.length - (k+1))=some x:=h
   rw [dR] at h
   have e:Int.negSucc k+(xs.length:Int)=((xs.length - (k+1):Nat):Int):=by rw [Int.negSucc_eq]; omega
   refine ⟨xs.length - (k+1),?_,h,fun z=>absurd (Int.negSucc_lt_zero k) (Int.not_lt.mpr z),fun _=>⟨Int.neg_le_neg (Int.ofNat_le.mpr hk),by rw [e]; rfl⟩⟩
   unfold seqIndex?
   have h2:(decide (0≤((xs.length - (k+1):Nat):Int)) && decide (((xs.length - (k+1):Nat):Int)<(xs.length:Int)))=true:=by
    rw [Mb (Int.natCast_nonneg _),Mb (Int.ofNat_lt.mpr (Nat.sub_lt (Mi (Nat.succ_pos k) hk) (Nat.succ_pos k)))]; rfl
   simp only [Int.negSucc_lt_zero k,if_true,e,h2]
   rfl
noncomputable def iD (k:List Nat):List (List Nat×V)→Option V
 | []=>none
 | (x,v)::r=>match kl x k with
  | true=>some v
  | false=>iD k r
noncomputable def qi (o:Option V) (σ:St) (Q:V→St→Prop):Prop:=onS o fun v=>Q v σ
noncomputable def xf (xs:List V) (i:V) (σ:St) (Q:V→St→Prop):Prop:=bD i fun k=>onT (bk k) (qi (J7 xs k) σ Q)
noncomputable def Jo (o:Option AO) (i:V) (σ:St) (Q:V→St→Prop):Prop:=match o with
 | some (.list xs)=>xf xs i σ Q
 | some (.dict kvs)=>cE i fun x=>qi (iD x kvs) σ Q
 | _=>False
noncomputable def Jn (v i:V) (σ:St) (Q:V→St→Prop):Prop:=match v with
 | .str s=>bD i fun k=>onT (bk k) (onS (J7 s k) fun c=>Q (.str [c]) σ)
 | .tup xs=>xf xs i σ Q
 | .fro xs=>xf xs i σ Q
 | .loc l=>Jo (aq l σ.st) i σ Q
 | _=>False
noncomputable def sJ (i:Int) (n:Nat):Nat:=match i with
 | .ofNat k=>match Nat.ble k n with | true=>k | false=>n
 | .negSucc k=>Nat.sub n (k+1)
noncomputable def qT (o:Option Int) (n:Nat):Nat:=match o with | some i=>sJ i n | none=>0
noncomputable def tK (o:Option Int) (n:Nat):Nat:=match o with | some i=>sJ i n | none=>n
noncomputable def lN {α:Type} (lo hi:Option Int) (xs:List α):List α:=(xs.drop (qT lo xs.length)).take (Nat.sub (tK hi xs.length) (qT lo xs.length))
theorem pB (i:Int) (n:Nat):max 0 (min (if i<0 then i+n else i) (n:Int))=(sJ i n:Int):=by
 cases i with
 | ofNat k=>
  have h0:¬ Int.ofNat k<0:=Int.not_lt.mpr (Int.natCast_nonneg k)
  rw [LU h0]
  refine (Int.max_eq_right (Int.le_min.mpr ⟨Int.natCast_nonneg k,Int.natCast_nonneg n⟩)).trans ?_
  show min (k:Int) (n:Int)=((match Nat.ble k n with | true=>k | false=>n:Nat):Int)
  cases q:Nat.ble k n with
  | true=>exact Int.min_eq_left (Int.ofNat_le.mpr (LP q))
  | false=>exact Int.min_eq_right (Int.ofNat_le.mpr (Nat.le_of_not_le fun h=>by rw [L9 h] at q; cases q))
 | negSucc k=>
  have e:Int.negSucc k+(n:Int)=(n:Int) - ((k+1:Nat):Int):=Int.subNatNat_eq_coe
  rw [LV (Int.negSucc_lt_zero k),e,Int.min_eq_left (Int.sub_le_self _ (Int.natCast_nonneg _)),Int.max_comm,← Int.ofNat_toNat,Int.toNat_sub]
  rfl
theorem hM (lo hi:Option Int) (n:Nat):sliceBounds lo hi none n=((qT lo n:Int),(tK hi n:Int),1):=by
 unfold sliceBounds
 simp only [Option.getD_none,show (1:Int) > 0 by decide,if_true]
 cases lo <;> cases hi <;> simp only [qT,tK,pB] <;> rfl
theorem rn (lo hi:Option Int) (n:Nat):Builtin.Str.strSliceIndices lo hi 1 n=(List.range (tK hi n - qT lo n)).map (qT lo n+·):=by
 have e:Builtin.Str.strSliceIndices lo hi 1 n=sliceRange (qT lo n:Int) (tK hi n:Int) 1:=by
  unfold Builtin.Str.strSliceIndices
  simp only [show (1:Int) > 0 by decide,if_true]
  cases lo <;> cases hi <;> simp only [qT,tK,pB] <;> rfl
 rw [e,sliceRange_one]
theorem CK (o:Option Int) (n:Nat):tK o n≤n:=by
 cases o with
 | none=>exact LR _
 | some i=>
  cases i with
  | ofNat k=>
   show (match Nat.ble k n with | true=>k | false=>n)≤n
   cases q:Nat.ble k n with
   | true=>exact LP q
   | false=>exact LR _
  | negSucc k=>exact Nat.sub_le ..
theorem j5 (items:List Value) (lo hi:Option Int):slicePick items.toArray lo hi none=(lN lo hi items).toArray:=by
 unfold slicePick lN
 rw [hM]
 simp only [sliceRange_one,pick_run,LW]
 rfl
noncomputable def jH (v:V):Option (Option Int):=match v with
 | .non=>some none
 | .int i=>some (some i)
 | _=>none
noncomputable def HQ (v:V) (lo hi:Option Int) (σ:St) (Q:V→St→Prop):Prop:=match v with
 | .str s=>fits s.length (Q (.str (lN lo hi s)) σ)
 | .byt s=>onT (Nat.blt (lN lo hi s).length s.length) (fits s.length (Q (.byt (lN lo hi s)) σ))
 | v=>b9 v σ fun xs=>fits xs.length (Q (.fro (lN lo hi xs)) σ)
noncomputable def GH (v a b:V) (σ:St) (Q:V→St→Prop):Prop:=onS (jH a) fun lo=>onS (jH b) fun hi=>HQ v lo hi σ Q
set_option tactic.hygienic true in
theorem m8 {T id:String} {value slice:PySem.Expr} {o i:Value} {Q:Value→Shared→Prop} (hT:s.TypeIs o T) (hl:typeLookup (.type T) "__getitem__"=pure (some (.builtin id))) (h:wpAny (model G.prog G.w) A (getItem o i) Q bg s) :
  wpAny (model G.prog G.w) A (do let r ← subscripted slice (← getitemInPython o) o i; letTemporaryGo value o r; pure r) Q bg s:=by
 have key:wpAny (model G.prog G.w) A (subscripted slice false o i) Q bg s:=by
  unfold subscripted
  split <;> first | exact wpAny_operating h | skip
  rename_i e; cases e
 refine LD ?_
 rw [getitemInPython_of_ne hT.not_modules]
 refine LD (wpAny_specialOf hT hl (LE (LD ?_)))
 exact LF key (fun r s1 q=>LD (wpAny_letTemporaryGo (LE q))) fun _ _ z=>z
theorem fK {o:Option V} {Q:V→St→Prop} (h:qi o σ Q):Got o (fun v=>Q v σ):=onS.out h
theorem kB {k:List Nat} {kvs:List (List Nat×V)}:∀ {kvals:List (Str×Value)} {v:V},PairsAre X n kvs kvals→iD k kvs=some v→∃ val,valueAt kvals ⟨k.toArray⟩=some val∧RepV X n v val:=by
 induction kvs with
 | nil=>intro kvals v h e; cases e
 | cons p r ih=>
  apply bc;intro z_
  obtain ⟨x,v⟩:=p
  apply z_;clear z_
  intro kvals w h e
  cases kvals with
  | nil=>exact h.elim
  | cons p' r'=>
   apply bc;intro z_
   obtain ⟨y,val⟩:=p'
   obtain ⟨rfl,hv,hr⟩:=h
   apply z_;clear z_
   have e:(match kl x k with | true=>some v | false=>iD k r)=some w:=e
   rw [dG] at e
   by_cases q:x=k
   ·subst q
    rw [Mb rfl] at e
    cases e
    exact ⟨val,by simp [valueAt,List.find?_cons],hv⟩
   ·rw [Ma q] at e
    apply bc;intro z_
    obtain ⟨val',h1,h2⟩:=ih hr e
    apply z_;clear z_
    have:¬ ((⟨x.toArray⟩:Str)=⟨k.toArray⟩):=fun w=>q (by simpa using w)
    refine ⟨val',?_,h2⟩
    unfold valueAt at h1 ⊢
    rw [List.find?_cons_of_neg (by simpa using this)]; exact h1
inductive SubAt (G:Glob) (A:Around) (s:Shared) (vv vi:Value) (Q:Value→Shared→Prop):Prop
 | mk (T id:String) (t:s.TypeIs vv T) (l:typeLookup (.type T) "__getitem__"=pure (some (.builtin id))) (h:wpAny (model G.prog G.w) A (getItem vv vi) Q bg s)
theorem mt {l:Addr} {o:Obj} {xs:List V} {items:List Value} {i:V} {vi:Value} {Q:V→St→Prop} (ho:s.heap.get? l=some o) (hl:LObj "list" o items) (hs:RepVs X σ.nx xs items) (R:Rel G X env σ s) (Wi:RepV X σ.nx i vi)
  (h:xf xs i σ Q):SubAt G A s (.ref l) vi (Post G X env σ.nx Q):=by
 refine ⟨"list",_,⟨o,ho,hl.1⟩,slot_list_getitem.lookup,Wi.int_ h fun k t h=>?_⟩
 apply bc;intro z_
 obtain ⟨q,h⟩:=onT.out h
 obtain ⟨v,e,hq⟩:=fK h
 obtain ⟨j,e1,e2,e3,e4⟩:=kZ e
 obtain ⟨val,hx,W⟩:=hs.get e2
 apply z_;clear z_
 have ⟨b1,b2⟩:=eI q
 have hfin:=Post.ret hq R W
 by_cases h0:0≤k
 ·exact wpAny_getItem_list (hl.isList ho) h0 (by omega) (x:=val) (by rw [e3 h0,My]; exact hx) hfin
 ·apply bc;intro z_
  obtain ⟨g1,g2⟩:=e4 (Int.not_le.mp h0)
  apply z_;clear z_
  refine wpAny_getItem_list_neg (hl.isList ho) (by omega) (by rw [LW,hs.length]; exact g1) (by omega) (x:=val) ?_ hfin
  rw [LW,hs.length,g2,My]; exact hx
theorem GN {v i:V} {vv vi:Value} {Q:V→St→Prop} (ok:G.Ok) (h:Jn v i σ Q) (R:Rel G X env σ s) (W:RepV X σ.nx v vv) (Wi:RepV X σ.nx i vi):SubAt G A s vv vi (Post G X env σ.nx Q):=by
 cases v with
 | str x=>
  apply bc;intro z_
  obtain ⟨t,rfl⟩:=W.inv
  apply z_;clear z_
  refine ⟨"str",_,typeIs_str _ _ _,F.slot_str_getitem.lookup,Wi.int_ h fun k u h=>?_⟩
  apply bc;intro z_
  obtain ⟨q,h⟩:=onT.out h
  obtain ⟨c,q2,h⟩:=onS.out h
  obtain ⟨j,e1,e2,e3,e4⟩:=kZ q2
  apply z_;clear z_
  have ⟨b1,b2⟩:=eI q
  refine PyProof.Rows.getItem_str ?_ (c:=c) ?_ (Post.ret h (R.toks _) (.str [c] _))
  ·rw [Bool.or_eq_false_iff,decide_eq_false_iff_not,decide_eq_false_iff_not]; omega
  ·rw [bK,e1]; simpa using e2
 | loc l=>
  cases (W.inv:vv=.ref (X.ρ l))
  have h:Jo (aq l σ.st) i σ Q:=h
  cases q:aq l σ.st with
  | none=>rw [q] at h; exact h.elim
  | some ao=>
   rw [q] at h
   cases ao with
   | list xs=>
    apply bc;intro z_
    obtain ⟨_,o,vals,h1,h2,h3⟩:=R.st l _ q
    apply z_;clear z_
    exact mt h1 h2 h3 R Wi h
   | dict kvs=>
    apply bc;intro z_
    obtain ⟨_,kvals,h1,h2⟩:=R.st l _ q
    apply z_;clear z_
    refine ⟨"dict",_,h1.typeIs,slot_dict_getitem.lookup,Wi.str_ h fun x t h=>?_⟩
    apply bc;intro z_
    obtain ⟨v,e,hq⟩:=fK h
    obtain ⟨val,e1,Wv⟩:=kB h2 e
    apply z_;clear z_
    exact wpAny_getItem_of (strKind_is _ _ _ _) h1.mapOf e1 (Post.ret hq (R.toks _) Wv)
   | _=>exact h.elim
 | tup xs=>
  cases W.tupI with
  | mk items a o ho hl hs=>
  apply bc;intro z_
  obtain ⟨c,d,dt,sl⟩:=o
  obtain ⟨h1,h2,⟨ep,h3⟩,h4⟩:=hl
  apply z_;clear z_
  dsimp only at h1 h2 h3 h4
  subst h1 h2 h3 h4
  have ho':=R.sub _ _ ho
  refine ⟨"tuple",_,⟨_,ho',rfl⟩,F.slot_tuple_getitem.lookup,Wi.int_ h fun k u h=>?_⟩
  apply bc;intro z_
  obtain ⟨q,h⟩:=onT.out h
  obtain ⟨v,e,hq⟩:=fK h
  obtain ⟨j,e1,e2,e3,e4⟩:=kZ e
  obtain ⟨val,hx,W⟩:=hs.get e2
  apply z_;clear z_
  have ⟨b1,b2⟩:=eI q
  exact PySem.P.getItem_tuple ho' (by omega) (by omega) (by rw [LW,hs.length]; exact e1) (by rw [My]; exact hx) (Post.ret hq R W)
 | fro xs=>
  cases W.froI with
  | mk items a o ho hl hs=>exact mt (R.sub _ _ ho) hl hs R Wi h
 | _=>exact h.elim
noncomputable def wx (d di:DE):DE:=fun σ Q=>d σ fun v σ1=>di σ1 fun x σ2=>Jn v x σ2 Q
theorem bS {e i:PySem.Expr} {d di:DE} {p:Pos} (ok:G.Ok) (he':SE G lv sc e d) (hi:SE G lv sc i di):SE G lv sc (.Subscript e i p) (wx d di):=fun σ Q hd A env X s ha he R=>by
 rw [eval_Subscript]
 refine LD (he'.run hd ha he R fun vv s1 v σ1 X1 k1 L1 n1 R1 W1=>?_)
 refine LD (LG (hi.run k1 ha he R1 fun vi s2 x σ2 X2 k2 L2 n2 R2 W2=>?_))
 refine LD (LH ?_)
 obtain ⟨T,id,hT,hl,h⟩:=GN (A:=A) ok k2 R2 (W1.mono L2 n2) W2
 exact m8 hT hl (LF h (fun _ _ z=>Post.lift (L1.trans L2 n1) (LN n1 n2) z) fun _ _ z=>z)
noncomputable def SO (G:Glob) (lv:Nat) (sc:Sc) (e:Option PySem.Expr) (d:DE):Prop:=∀ σ Q,d σ Q→∀ A env X s,AOk lv A→EOk sc env→Rel G X env σ s →
 wpAny (model G.prog G.w) A (evalPart e env) (Post G X env σ.nx Q) bg s
theorem ck:SO G lv sc none (fun σ Q=>Q .non σ):=fun σ Q hd A env X s ha he R=>LE (Post.ret hd R .non)
theorem bN {e:PySem.Expr} {d:DE} (h:SE G lv sc e d):SO G lv sc (some e) d:=h
inductive PartIs (val:Value) (o:Option Int):Prop
 | mk (h:IsPart val o) (p:Option (Int×Tok)) (e:val=partValue p) (e':p.map (·.1)=o)
theorem jI {v:V} {val:Value} {o:Option Int} (h:jH v=some o) (W:RepV X n v val):PartIs val o:=by
 cases v with
 | non=>cases h; cases (W.inv:val=.none); exact ⟨.none,none,rfl,rfl⟩
 | int i=>cases h; obtain ⟨t,rfl⟩:=W.inv; exact ⟨.int i t,some (i,t),rfl,rfl⟩
 | _=>first | exact nS h | exact nB h | cases h
theorem RepVs.dropN {vs:List V} {vals:List Value} (h:RepVs X n vs vals):∀ k:Nat,RepVs X n (vs.drop k) (vals.drop k):=by
 induction vs generalizing vals with
 | nil=>cases h; intro k; simp; exact .nil
 | cons v r ih=>cases h with | cons a b=>intro k; cases k with
  | zero=>exact .cons a b
  | succ k=>exact ih b k
theorem RepVs.take {vs:List V} {vals:List Value} (h:RepVs X n vs vals):∀ k:Nat,RepVs X n (vs.take k) (vals.take k):=by
 induction vs generalizing vals with
 | nil=>cases h; intro k; simp; exact .nil
 | cons v r ih=>cases h with | cons a b=>intro k; cases k with
  | zero=>exact .nil
  | succ k=>exact .cons a (ih b k)
theorem RepVs.cut {vs:List V} {vals:List Value} (h:RepVs X n vs vals) (lo hi:Option Int):RepVs X n (Mine.lN lo hi vs) (Mine.lN lo hi vals):=by
 unfold Mine.lN
 rw [h.length]
 exact (h.dropN _).take _
theorem pF {α:Type} {lo hi:Option Int} {m:Nat} {xs:List α} (h:xs.length≤m):(lN lo hi xs).length≤m:=by
 unfold lN; rw [List.length_take,List.length_drop]; exact LN (Nat.min_le_right ..) (LN (Nat.sub_le ..) h)
theorem pE {α:Type} {lo hi:Option Int} {x:List α} (h:tK hi x.length - qT lo x.length=x.length):lN lo hi x=x:=by
 have:=CK hi x.length
 have e1:tK hi x.length=x.length:=Nat.le_antisymm this (LN (Nat.le_of_eq h.symm) (Nat.sub_le ..))
 unfold lN
 rw [e1] at h ⊢
 cases x with
 | nil=>simp
 | cons a r=>
  have e2:qT lo (a::r).length=0:=by rw [List.length_cons] at h ⊢; omega
  rw [e2]; simp
set_option tactic.hygienic true in
theorem rk {x:List Nat} {t:Tok} {lo hi:Option Int} {pa pb:Option (Int×Tok)} {Q:V→St→Prop} {p:Addr} (h:fits x.length (Q (.str (lN lo hi x)) σ)) (R:Rel G X env σ s) (ea:pa.map (·.1)=lo) (eb:pb.map (·.1)=hi)
  (hp:s.heap.get? p=some {cls:=.type "slice",data:=.fields #[partValue pa,partValue pb,.none]}):wpAny (model G.prog G.w) A (getItem (.str ⟨x.toArray⟩ t) (.ref p)) (Post G X env σ.nx Q) bg s:=by
 obtain ⟨hz,q⟩:=fits.out h
 refine wpAny_getItem_str_slice (l:=pa) (u:=pb) (st:=none) ⟨_,hp,rfl,rfl⟩ rfl ?_
 have hidx:slicePicked ⟨x.toArray⟩ pa pb none=(List.range (tK hi x.length - qT lo x.length)).map (qT lo x.length+·):=by
  unfold slicePicked
  rw [ea,eb,bK]
  exact rn lo hi x.length
 have hpick:((slicePicked ⟨x.toArray⟩ pa pb none).filterMap ((⟨x.toArray⟩:Str).cps[·]?))=lN lo hi x:=by
  rw [hidx,pick_run]; rfl
 unfold sliceMade
 split
 ·rename_i c
  rw [Bool.and_eq_true,beq_iff_eq,beq_iff_eq,hidx,List.length_map,List.length_range,bK] at c
  rw [pE c.2] at q
  exact Post.ret q R (.str x t)
 ·rw [hpick]
  exact ⟨by show (lN lo hi x).toArray.size≤sizeLine; rw [LW,L6]; exact LN (pF hz) (by decide),Post.ret q (R.toks _) (.str _ _)⟩
theorem rj {x:List UInt8} {t:Tok} {lo hi:Option Int} {pa pb:Option (Int×Tok)} {Q:V→St→Prop} {p:Addr} (h:onT (Nat.blt (lN lo hi x).length x.length) (fits x.length (Q (.byt (lN lo hi x)) σ))) (R:Rel G X env σ s)
  (ha:IsPart (partValue pa) lo) (hb:IsPart (partValue pb) hi) (hS:s.heap.IsSliceOf p (partValue pa) (partValue pb) .none):wpAny (model G.prog G.w) A (getItem (.bytes x.toArray t) (.ref p)) (Post G X env σ.nx Q) bg s:=by
 apply bc;intro z_
 obtain ⟨q,h⟩:=onT.out h
 obtain ⟨hz,h⟩:=fits.out h
 apply z_;clear z_
 have hlt:(lN lo hi x).length<x.length:=LP q
 have hne:KBy.whole x.toArray lo hi=false:=by
  unfold KBy.whole
  rw [hM]
  cases c:((((qT lo x.toArray.size:Int))==0 && (1:Int)==1 && ((tK hi x.toArray.size:Int))==(x.toArray.size:Int) && !x.toArray.isEmpty)) with
  | false=>rfl
  | true=>
   simp only [Bool.and_eq_true,beq_iff_eq,LW] at c
   apply bc;intro z_
   obtain ⟨⟨⟨c1,_⟩,c2⟩,_⟩:=c
   apply z_;clear z_
   rw [pE (by omega)] at hlt
   exact absurd hlt (Nat.lt_irrefl _)
 have hp':KBy.picked x.toArray lo hi=(lN lo hi x).toArray:=by
  unfold KBy.picked Builtin.Bytes.sliced
  rw [hM]
  simp only [sliceRange_one,pick_run,LW]
  rfl
 refine getItem_meets (typeIs_bytes _ _ _) (by decide) FB.slot_bytes_getitem FB.entry_bytes_getitem (FB.args_bytes_getitem_2 _ _) (KBy.meets_slice x.toArray t p ha hb hne) ⟨hS,?_,?_⟩
 ·rw [hp',LW,L6]; exact LN (pF hz) (by decide)
 ·rw [hp']
  exact Post.ret h (R.toks _) (.byt _ _)
theorem vH {v a b:V} {vv va vb:Value} {lo hi:Option Int} {Q:V→St→Prop} {p:Addr} (ok:G.Ok) (h:HQ v lo hi σ Q) (R:Rel G X env σ s) (W:RepV X σ.nx v vv) (ea:jH a=some lo) (eb:jH b=some hi) (Wa:RepV X σ.nx a va) (Wb:RepV X σ.nx b vb)
  (hp:s.heap.get? p=some {cls:=.type "slice",data:=.fields #[va,vb,.none]}):SubAt G A s vv (.ref p) (Post G X env σ.nx Q):=by
 apply bc;intro z_
 obtain ⟨pa,pa',rfl,ea'⟩:=jI ea Wa
 obtain ⟨pb,pb',rfl,eb'⟩:=jI eb Wb
 apply z_;clear z_
 have hS:s.heap.IsSliceOf p (partValue pa') (partValue pb') .none:=⟨_,hp,rfl,rfl⟩
 have lst:b9 v σ (fun xs=>fits xs.length (Q (.fro (lN lo hi xs)) σ))→SubAt G A s vv (.ref p) (Post G X env σ.nx Q):=fun h=>by
  apply bc;intro z_
  obtain ⟨l,o,items,xs,rfl,ho,hl,hs,q⟩:=cr R W h
  obtain ⟨hz,q⟩:=fits.out q
  apply z_;clear z_
  refine ⟨"list",_,⟨o,ho,hl.1⟩,slot_list_getitem.lookup,wpAny_getItem_list_slice (hl.isList ho) hS pa pb .none (by simp) ?_ (by rw [LW,hs.length,L6]; omega)⟩
  rw [j5]
  exact Post.newList (t:=s.toks) ok q R (hs.cut lo hi)
 cases v with
 | str x=>obtain ⟨t,rfl⟩:=W.inv; exact ⟨"str",_,typeIs_str _ _ _,F.slot_str_getitem.lookup,rk h R ea' eb' hp⟩
 | byt x=>obtain ⟨t,rfl⟩:=W.inv; exact ⟨"bytes",_,typeIs_bytes _ _ _,FB.slot_bytes_getitem.lookup,rj h R pa pb hS⟩
 | _=>exact lst h
noncomputable def qv (d da db:DE):DE:=fun σ Q=>d σ fun v σ1=>da σ1 fun a σ2=>db σ2 fun b σ3=>GH v a b σ3 Q
theorem bv {e:PySem.Expr} {lo hi:Option PySem.Expr} {d da db:DE} {p q:Pos} (ok:G.Ok) (he':SE G lv sc e d) (h1:SO G lv sc lo da) (h2:SO G lv sc hi db):SE G lv sc (.Subscript e (.Slice lo hi none q) p) (qv d da db):=fun σ Q hd A env X s ha he R=>by
 rw [eval_Subscript]
 refine LD (he'.run hd ha he R fun vv s1 v σ1 X1 k1 L1 n1 R1 W1=>?_)
 refine LD (LG (wpAny_Slice (LF (h1 σ1 _ k1 A env X1 s1 ha he R1) (fun va s2 y_=>?_) fun _ _ z=>z)))
 apply bc;intro z_
 obtain ⟨a,σ2,X2,k2,L2,n2,R2,W2⟩:=y_
 apply z_;clear z_
 refine LF (h2 σ2 _ k2 A env X2 s2 ha he R2) (fun vb s3 y_=>?_) fun _ _ z=>z
 apply bc;intro z_
 obtain ⟨b,σ3,X3,k3,L3,n3,R3,W3⟩:=y_
 apply z_;clear z_
 refine LE (LD (LH ?_))
 apply bc;intro z_
 obtain ⟨l,ea,k3⟩:=onS.out k3
 obtain ⟨u,eb,k3⟩:=onS.out k3
 have L13:=L2.trans L3 n2
 have n13:=LN n2 n3
 obtain ⟨T,id,hT,hl,h⟩:=vH (A:=A) ok k3 (R3.push {cls:=.type "slice",data:=.fields #[va,vb,.none]} s3.toks) (W1.mono L13 n13) ea eb (W2.mono L3 n3) W3 (LT _ rfl)
 apply z_;clear z_
 exact m8 hT hl (LF h (fun _ _ z=>Post.lift (L1.trans L13 n1) (LN n1 n13) z) fun _ _ z=>z)
noncomputable def CFok (G:Glob) (lv:Nat) (env:Env) (X1:Wd) (n1:Nat) (f:Value) (first:List Value) (ks:List Str) (C:List V→List V→DE):Prop:=
 ∀ A X2 σ2 s2 vs kvs Q vals kvals,AOk lv A→X1.le n1 X2→n1≤σ2.nx→C vs kvs σ2 Q→Rel G X2 env σ2 s2→RepVs X2 σ2.nx vs vals→RepVs X2 σ2.nx kvs kvals →
  (∀ Q':Keeper→Shared→Prop,(∀ k,k≠Keeper.caller→Q' k s2)→wpAny (model G.prog G.w) A (keeperOf f) Q' bg s2)∧wpAny (model G.prog G.w) A (call f (first++vals) (ks.zip kvals)) (Post G X2 env σ2.nx Q) bg s2
noncomputable abbrev DC:=St→((List V→List V→DE)→St→Prop)→Prop
noncomputable def Hv (G:Glob) (lv:Nat) (sc:Sc) (e:PySem.Expr) (ks:List Str) (d:DC):Prop:=∀ σ K,d σ K→∀ A env X s,AOk lv A→EOk sc env→Rel G X env σ s →
 wpAny (model G.prog G.w) A (eval e env) (fun f s1=>∃ C σ1 X1,K C σ1∧X.le σ.nx X1∧σ.nx≤σ1.nx∧Rel G X1 env σ1 s1∧CFok G lv env X1 σ1.nx f [] ks C) bg s
noncomputable def SM (G:Glob) (lv:Nat) (sc:Sc) (o:PySem.Expr) (name:Str) (ks:List Str) (d:DC):Prop:=∀ σ K,d σ K→∀ A env X s,AOk lv A→EOk sc env→Rel G X env σ s →
 wpAny (model G.prog G.w) A (eval o env) (fun ov s1=>∀ pl Q',(∀ f first s2 C σ1 X1,K C σ1→X.le σ.nx X1→σ.nx≤σ1.nx→Rel G X1 env σ1 s2→CFok G lv env X1 σ1.nx f first ks C→Q' (f,first) s2) →
  wpAny (model G.prog G.w) A (getMethod ov name pl) Q' bg s1) bg s
inductive Ty where
 | list | dict | set | str | bytes
noncomputable def Ty.name:Ty→String
 | .list=>"list"
 | .dict=>"dict"
 | .set=>"set"
 | .str=>"str"
 | .bytes=>"bytes"
noncomputable def KR (o:Option AO):Option Ty:=match o with
 | some (.list _)=>some .list
 | some (.dict _)=>some .dict
 | some (.set _)=>some .set
 | _=>none
noncomputable def JK (v:V) (σ:St):Option Ty:=match v with
 | .str _=>some .str
 | .byt _=>some .bytes
 | .fro _=>some .list
 | .loc l=>KR (aq l σ.st)
 | _=>none
noncomputable def vB:Ty→Ty→Bool
 | .list,.list=>true
 | .dict,.dict=>true
 | .set,.set=>true
 | .str,.str=>true
 | .bytes,.bytes=>true
 | _,_=>false
theorem rc {a b:Ty} (h:vB a b=true):a=b:=by cases a <;> cases b <;> first | rfl | cases h
noncomputable def qt (d:DC) (da dk:DA):DE:=fun σ Q=>d σ fun C σ1=>da σ1 fun vs σ2=>dk σ2 fun kvs σ3=>C vs kvs σ3 Q
theorem gr {x:Str} {np p:Pos} {args:List PySem.Expr} {ks:List Keyword} {names:List Str} {d:DC} {da dk:DA} (hf:Hv G lv sc (.Name x np) names d) (ha:SA G lv sc args da) (hk:SK G lv sc ks dk)
  (h1:∀ env pos,(backTo pos (starEach args env)).any (·.1)=false) (h2:∀ env pos,(backToKw pos (keywordEach ks env)).all (·.1.isSome)=true) (h3:∀ env pos,(backToKw pos (keywordEach ks env)).filterMap (·.1)=names):SE G lv sc (.Call (.Name x np) args ks p) (qt d da dk):=fun σ Q hd A env X s hA he R=>by
 refine wpAny_Call_ofName (LF (hf σ _ hd A env X s hA he R) (fun f s0 y_=>?_) fun _ _ z=>z)
 apply bc;intro z_
 obtain ⟨C,σ0,X0,q0,L0,n0,R0,hc⟩:=y_
 apply z_;clear z_
 refine bT (h1 env _) (h2 env _) ?_
 refine LF (ha σ0 _ q0 A env X0 s0 p hA he R0) (fun vals s1 y_=>?_) fun _ _ z=>z
 apply bc;intro z_
 obtain ⟨vs,σ1,X1,q1,L1,n1,R1,W1⟩:=y_
 apply z_;clear z_
 refine LF (hk σ1 _ q1 A env X1 s1 p hA he R1) (fun kvals s2 y_=>?_) fun _ _ z=>z
 apply bc;intro z_
 obtain ⟨kvs,σ2,X2,q2,L2,n2,R2,W2⟩:=y_
 apply z_;clear z_
 rw [h3]
 apply bc;intro z_
 obtain ⟨a,b⟩:=hc A X2 σ2 s2 vs kvs Q vals kvals hA (L1.trans L2 n1) (LN n1 n2) q2 R2 (W1.mono L2 n2) W2
 apply z_;clear z_
 exact ⟨a,LF b (fun _ _ z=>Post.lift ((L0.trans L1 n0).trans L2 (LN n0 n1)) (LN (LN n0 n1) n2) z) fun _ _ z=>z⟩
noncomputable def rT (d:DC) (da dk:DA):DE:=fun σ Q=>d σ fun C σ1=>da σ1 fun vs σ2=>dk σ2 fun kvs σ3=>C vs kvs σ3 Q
theorem aB {o:PySem.Expr} {name:Str} {ap p:Pos} {args:List PySem.Expr} {ks:List Keyword} {names:List Str} {d:DC} {da dk:DA} (hf:SM G lv sc o name names d) (ha:SA G lv sc args da) (hk:SK G lv sc ks dk)
  (hb:∀ env,attributeBase o name env (eval o env)=eval o env) (hl:(ap.endLine==p.line)=true)
  (hfew:∀ env pos,methodCallForm (args.length+ks.length) (backTo pos (starEach args env)) (backToKw pos (keywordEach ks env))=true)
  (h1:∀ env pos,(backTo pos (starEach args env)).any (·.1)=false) (h2:∀ env pos,(backToKw pos (keywordEach ks env)).all (·.1.isSome)=true) (h3:∀ env pos,(backToKw pos (keywordEach ks env)).filterMap (·.1)=names):SE G lv sc (.Call (.Attribute o name ap) args ks p) (rT d da dk):=fun σ Q hd A env X s hA he R=>by
 rw [arm_eval_Call,hb]
 refine LD (LF (hf σ _ hd A env X s hA he R) (fun ov s0 h0=>LD (LH ?_)) fun _ _ z=>z)
 have hpos:methodCallPos true o env ap p=pure p:=by unfold methodCallPos; simp [hl]
 unfold methodCall
 rw [hfew]
 refine LD (LG (h0 _ _ fun f first s0 C σ0 X0 q0 L0 n0 R0 hc=>?_))
 refine LD (LI hpos ?_)
 refine bT (h1 env _) (h2 env _) ?_
 refine LF (ha σ0 _ q0 A env X0 s0 p hA he R0) (fun vals s1 y_=>?_) fun _ _ z=>z
 apply bc;intro z_
 obtain ⟨vs,σ1,X1,q1,L1,n1,R1,W1⟩:=y_
 apply z_;clear z_
 refine LF (hk σ1 _ q1 A env X1 s1 p hA he R1) (fun kvals s2 y_=>?_) fun _ _ z=>z
 apply bc;intro z_
 obtain ⟨kvs,σ2,X2,q2,L2,n2,R2,W2⟩:=y_
 apply z_;clear z_
 rw [h3]
 apply bc;intro z_
 obtain ⟨a,b⟩:=hc A X2 σ2 s2 vs kvs Q vals kvals hA (L1.trans L2 n1) (LN n1 n2) q2 R2 (W1.mono L2 n2) W2
 apply z_;clear z_
 exact ⟨a,LF b (fun _ _ z=>Post.lift ((L0.trans L1 n0).trans L2 (LN n0 n1)) (LN (LN n0 n1) n2) z) fun _ _ z=>z⟩
theorem CFok.of {f:Value} {first:List Value} {fv:List V} {ks:List Str} {D:List V→List V→DE} {X1:Wd} {n1:Nat} (h:CB G lv f ks D) (W:RepVs X1 n1 fv first):CFok G lv env X1 n1 f first ks (fun vs kvs=>D (fv++vs) kvs):=
 fun A X2 σ2 s2 vs kvs Q vals kvals ha L hn hd R2 Wv Wk=>h (fv++vs) kvs σ2 Q hd A env X2 s2 _ kvals ha R2 ((W.mono L hn).append Wv) Wk
inductive TyIs (s:Shared) (val:Value) (T:String):Prop
 | mk (t:s.TypeIs val T) (d:∀ a,val=.ref a→∃ ob,s.heap.get? a=some ob∧ob.dict=none)
theorem TyIs.ref {a:Addr} {o:Obj} {T:String} (h:s.heap.get? a=some o) (hc:o.cls=.type T) (hd:o.dict=none):TyIs s (.ref a) T:=⟨⟨o,h,hc⟩,fun b e=>by cases e; exact ⟨o,h,hd⟩⟩
theorem GR {ao:AO} {a:Addr} {T:Ty} (h:KR (some ao)=some T) (r:RepO G X n s.heap a ao):TyIs s (.ref a) T.name:=by
 cases ao with
 | list vs=>cases h; obtain ⟨o,vals,h1,h2,h3⟩:=r; exact .ref h1 h2.1 h2.2.1
 | dict kvs=>cases h; obtain ⟨kvals,⟨o,es,ep,ho,hc,r⟩,h2⟩:=r; exact .ref ho hc.1 hc.2.1
 | set ks=>cases h; obtain ⟨S,⟨o,es,ep,t,ho,hc,r⟩,h2⟩:=r; exact .ref ho hc.1 hc.2.1
 | _=>first | exact nS h | exact nB h | cases h
theorem zJ {v:V} {val:Value} {T:Ty} (h:JK v σ=some T) (R:Rel G X env σ s) (W:RepV X σ.nx v val):TyIs s val T.name:=by
 cases v with
 | str x=>cases h; obtain ⟨t,rfl⟩:=W.inv; exact ⟨typeIs_str _ _ _,fun a e=>by cases e⟩
 | byt x=>cases h; obtain ⟨t,rfl⟩:=W.inv; exact ⟨typeIs_bytes _ _ _,fun a e=>by cases e⟩
 | loc l=>
  cases (W.inv:val=.ref (X.ρ l))
  have h:KR (aq l σ.st)=some T:=h
  cases q:aq l σ.st with
  | none=>rw [q] at h; first | exact nS h | exact nB h | cases h
  | some ao=>rw [q] at h; exact GR h (R.st l _ q).2
 | fro vs=>cases h; cases W.froI with | mk vals a o ho hl hs=>exact .ref (R.sub _ _ ho) hl.1 hl.2.1
 | _=>first | exact nS h | exact nB h | cases h
noncomputable abbrev jF (T:Ty) (D:List V→List V→DE) (do_:DE):DC:=fun σ K=>do_ σ fun v σ1=>onS (JK v σ1) fun T'=>onT (vB T' T) (K (fun vs kvs=>D (v::vs) kvs) σ1)
theorem ci {o:PySem.Expr} {name:Str} {T:Ty} {id:String} {do_:DE} {D:List V→List V→DE} {ks:List Str} (ho:SE G lv sc o do_) (pa:PlainAttrs T.name) (slot:Slot T.name name id) (hty:typeOf (.builtin id)=pure (.type "method_descriptor")) (hc:CB G lv (.builtin id) ks D) :
  SM G lv sc o name ks (jF T D do_):=fun σ K hd A env X s hA he R=>by
 refine ho.run hd hA he R fun ov s1 v σ1 X1 k1 L1 n1 R1 W1=>fun pl Q' k=>?_
 obtain ⟨T',q,k1⟩:=onS.out k1
 obtain ⟨q2,k2⟩:=onT.out k1
 cases rc q2
 obtain ⟨h1,h2⟩:=zJ q R1 W1
 exact getMethod_builtin h1 pa slot hty h2 (k _ _ _ _ _ _ k2 L1 n1 R1 (CFok.of (fv:=[v]) hc (.cons W1 .nil)))
noncomputable def il (v:V) (σ:St) (k:Nat→List V→Prop):Prop:=fW v fun l=>onS (dw l σ) fun xs=>k l xs
noncomputable def f0 (l:Nat) (o:AO) (σ:St):St:={σ with st:=fq l o σ.st}
noncomputable def gw (vs:List V) (σ:St) (Q:V→St→Prop):Prop:=D6 vs fun u v=>il u σ fun l xs=>fits xs.length (Q .non (f0 l (.list (xs++[v])) σ))
noncomputable def tP {α:Type}:List α→List α
 | []=>[]
 | [_]=>[]
 | a::r=>a::tP r
noncomputable def t6 {α:Type}:List α→Option α
 | []=>none
 | [a]=>some a
 | _::r=>t6 r
theorem oD {α:Type} {xs:List α} {a:α} (h:t6 xs=some a):xs=tP xs++[a]:=by
 induction xs with
 | nil=>cases h
 | cons b r ih=>cases r with
  | nil=>cases h; rfl
  | cons c r=>exact congrArg (b::·) (ih h)
noncomputable def IP (vs:List V) (σ:St) (Q:V→St→Prop):Prop:=mE vs fun u=>il u σ fun l xs=>fits xs.length (onS (t6 xs) fun v=>Q v (f0 l (.list (tP xs)) σ))
noncomputable def Be (k:List Nat) (ks:List (List Nat)):List (List Nat):=match fb k ks with
 | true=>ks
 | false=>k::ks
noncomputable def vC (l:Nat) (σ:St):Option (List (List Nat)):=match aq l σ.st with | some (.set ks)=>some ks | _=>none
theorem oY {l:Nat} {σ:St} {ks:List (List Nat)} (h:vC l σ=some ks):aq l σ.st=some (.set ks):=by
 unfold vC at h
 split at h
 ·cases h; assumption
 ·first | exact nS h | exact nB h | cases h
noncomputable def HC (vs:List V) (σ:St) (Q:V→St→Prop):Prop:=D6 vs fun u v=>fW u fun l=>cE v fun k=>onS (vC l σ) fun ks=>onT (Nat.ble ks.length 1000) (Q .non (f0 l (.set (Be k ks)) σ))
theorem RepVs.rev_append {vs:List V} {vals:List Value} {v:V} (h:RepVs X n (vs++[v]) vals):∃ ws w,vals=ws++[w]∧RepVs X n vs ws∧RepV X n v w:=by
 induction vs generalizing vals with
 | nil=>obtain ⟨w,rfl,a⟩:=h.one; exact ⟨[],w,rfl,.nil,a⟩
 | cons u r ih=>
  cases h with
  | cons a b=>
   apply bc;intro z_
   obtain ⟨ws,w,rfl,c,d⟩:=ih b
   apply z_;clear z_
   exact ⟨_::ws,w,rfl,.cons a c,d⟩
@[elab_as_elim] theorem gU {v:V} {val:Value} {k:Nat→List V→Prop} {M:Value→Prop} (R:Rel G X env σ s) (W:RepV X σ.nx v val) (h:il v σ k) (H:∀ l xs o items,l<σ.nx→aq l σ.st=some (.list xs)→s.heap.get? (X.ρ l)=some o→LObj "list" o items→RepVs X σ.nx xs items→k l xs→M (.ref (X.ρ l))):M val:=
 W.loc_ h fun l h=>by
  apply bc;intro z_
  obtain ⟨xs,q,h⟩:=onS.out h
  have q:=bG q
  obtain ⟨hl,o,items,h1,h2,h3⟩:=R.st l _ q
  apply z_;clear z_
  exact H l xs o items hl q h1 h2 h3 h
theorem je {l:Nat} {xs:List V} {o:Obj} {items:List Value} {v:V} {val:Value} {Q:Value→Shared→Prop} (q:aq l σ.st=some (.list xs)) (h1:s.heap.get? (X.ρ l)=some o) (h2:LObj "list" o items) (h3:RepVs X σ.nx xs items) (hz:xs.length≤1000000) (R:Rel G X env σ s)
  (Wv:RepV X σ.nx v val) (k:∀ s',Rel G X env (f0 l (.list (xs++[v])) σ) s'→Q .none s'):wpAny (model G.prog G.w) A (Builtin.«list.append» ⟨[.ref (X.ρ l),val],[]⟩) (fun fin s'=>∃ r,fin=.done (.ret r)∧Q r s') bg s:=by
 apply bc;intro z_
 obtain ⟨g1,g2,⟨ep,g3⟩,g4⟩:=id h2
 apply z_;clear z_
 have hsz:items.toArray.size≤sizeLine:=by rw [LW,h3.length,L6]; omega
 show wpAny _ _ (updateSeq (X.ρ l) (·.push val) >>= fun _=>ret .none) _ _ s
 exact LD (wpAny_updateSeq h1 g3 (LE ⟨.none,rfl,k _ (R.setList (t:=s.toks) q h1 h2 (by rw [List.push_toArray]) (h3.append (.cons Wv .nil)))⟩))
theorem lP:CB G lv (.builtin "list.append") [] (fun vs _=>gw vs):=CB.of (fun a w=>by cases w) fun vs σ Q hd A env X s vals ha R W=>by
 refine W.on2_ hd fun u v val val' Wl Wv hd=>gU R Wl hd fun l xs o items hl q h1 h2 h3 hd=>?_
 obtain ⟨hz,hd⟩:=fits.out hd
 exact LJ slot_list_append ⟨_,h1,h2.1⟩ entry_list_append (je q h1 h2 h3 hz R Wv fun s' R'=>⟨_,_,X,hd,.refl,LR _,R',.non⟩) (args_list_append _ _)
theorem Hg:CB G lv (.builtin "list.pop") [] (fun vs _=>IP vs):=CB.of (fun a w=>by cases w) fun vs σ Q hd A env X s vals ha R W=>by
 refine W.on1_ hd fun u val Wl hd=>gU R Wl hd fun l xs o items hl q h1 h2 h3 hd=>?_
 apply bc;intro z_
 obtain ⟨hz,hd⟩:=fits.out hd
 obtain ⟨v,q2,hd⟩:=onS.out hd
 have hxs:=oD q2
 rw [hxs] at h3
 have hlen:=h3.length
 obtain ⟨ws,w,rfl,Ws,Wv⟩:=h3.rev_append
 have h2':=h2
 obtain ⟨c,dct,dt,sl⟩:=o
 obtain ⟨g1,g2,⟨ep,g3⟩,g4⟩:=h2
 apply z_;clear z_
 dsimp only at g1 g2 g3 g4
 subst g1 g2 g3 g4
 have hsz:(ws++[w]).toArray.size≤sizeLine:=by rw [LW,hlen,← hxs,L6]; omega
 have ef:(ws++[w]).toArray.eraseIdxIfInBounds ((ws++[w]).toArray.size - 1)=ws.toArray:=by
  have:(ws++[w]).toArray.size - 1=ws.length:=by simp
  rw [this,kl_erase,List.append_nil]
 exact call_meets PySem.F.slot_list_pop ⟨_,h1,rfl⟩ PySem.F.entry_list_pop (PySem.F.args_list_pop_1 _) (PySem.MeetsSeq.list_pop_last (X.ρ l) _ ep w (by simp) hsz)
  ⟨h1,_,_,X,hd,.refl,LR _,R.setList (t:=s.toks) q h1 h2' ef Ws,Wv⟩
theorem Hf:CB G lv (.builtin "set.add") [] (fun vs _=>HC vs):=CB.of (fun a w=>by cases w) fun vs σ Q hd A env X s vals ha R W=>by
 refine W.on2_ hd fun u v val val' Wl Wv hd=>Wl.loc_ hd fun l hd=>Wv.str_ hd fun k t hd=>?_
 apply bc;intro z_
 obtain ⟨ks,q,hd⟩:=onS.out hd
 have q:=oY q
 obtain ⟨q2,hd⟩:=onT.out hd
 have hz:=LP q2
 obtain ⟨_,S,h1,h2⟩:=R.st l _ q
 apply z_;clear z_
 have e:S ⟨k.toArray⟩=fb k ks:=by rw [h2,b8]
 have hk:(PySem.strKind G.prog G.w).is ⟨k.toArray⟩ (.str ⟨k.toArray⟩ t)=true:=strKind_is _ _ _ _
 refine call_set_add hk rfl h1 (by have:scanBound=4096:=rfl; omega) fun h' hs hS=>?_
 refine ⟨_,_,X,hd,.refl,LR _,R.upd (s':={s with heap:=h',toks:=s.toks+1}) (o:=.set (Be k ks)) q (fun b' hb' o' e=>(hs.2 b' hb').trans e) ?_ rfl rfl R.gens,.non⟩
 rw [e] at hS
 have ex:∀ x:Str,(x=⟨k.toArray⟩)=(x.cps.toList=k):=fun x=>propext ⟨fun e=>e ▸ rfl,fun e=>by obtain ⟨a⟩:=x; exact e ▸ rfl⟩
 unfold Be
 cases q3:fb k ks with
 | true=>
  rw [q3,LV rfl] at hS
  refine ⟨_,hS,fun x=>?_⟩
  rw [h2]
  by_cases z:x=⟨k.toArray⟩
  ·subst z; rw [b8] at q3; simp [List.contains_iff_mem.mp q3]
  ·simp [z]
 | false=>
  rw [q3,LU LZ] at hS
  refine ⟨_,hS,fun x=>?_⟩
  rw [h2,List.contains_cons,Bool.or_comm]
  by_cases z:x=⟨k.toArray⟩
  ·subst z; simp
  ·have:¬ x.cps.toList=k:=fun e=>z ((ex x).mpr e)
   simp [z,this]
noncomputable def t9 (c:Nat):Nat:=match Nat.ble 65 c with
 | true=>(match Nat.ble c 90 with
  | true=>c+32
  | false=>c)
 | false=>c
theorem xl (c:Nat):t9 c=lo1 c:=by
 unfold t9 lo1
 cases h1:Nat.ble 65 c with
 | false=>
  have:¬ 65≤c:=fun h=>by rw [L9 h] at h1; cases h1
  rw [LU (fun h=>this h.1)]
 | true=>
  have:=LP h1
  cases h2:Nat.ble c 90 with
  | false=>
   have h3:¬ c≤90:=fun h=>by rw [L9 h] at h2; cases h2
   rw [LU (fun h=>h3 h.2)]
  | true=>
   have:=LP h2
   rw [LV ⟨by assumption,by assumption⟩]
noncomputable def Iu (vs:List V) (σ:St) (Q:V→St→Prop):Prop:=mE vs fun v=>cE v fun s=>onT (JR s) (fits s.length (Q (.str (s.map t9)) σ))
noncomputable def ff (sep:List Nat):List (List Nat)→List Nat
 | []=>[]
 | [p]=>p
 | p::r=>p++(sep++ff sep r)
noncomputable def bF (c:Nat):List Nat→List (List Nat)
 | []=>[[]]
 | a::r=>match Nat.beq a c with
  | true=>[]::bF c r
  | false=>match bF c r with
   | p::ps=>(a::p)::ps
   | []=>[[a]]
theorem Hc (c:Nat):∀ s,bF c s≠[]
 | []=>by simp [bF]
 | a::r=>by
  unfold bF
  cases Nat.beq a c with
  | true=>simp
  | false=>cases bF c r <;> simp
theorem iK {c:Nat}:∀ {p:List Nat},c ∉ p→bF c p=[p]
 | [],_=>rfl
 | a::r,h=>by
  rw [List.mem_cons,not_or] at h
  unfold bF
  have:Nat.beq a c=false:=by rw [d4]; exact Ma (Ne.symm h.1)
  rw [this,iK h.2]
theorem jU {c:Nat} {s:List Nat}:∀ {p:List Nat},c ∉ p→bF c (p++c::s)=p::bF c s
 | [],_=>by
  show bF c (c::s)=_
  rw [bF]
  have:Nat.beq c c=true:=by rw [d4]; simp
  rw [this]
 | a::r,h=>by
  rw [List.mem_cons,not_or] at h
  show bF c (a::(r++c::s))=_
  rw [bF]
  have:Nat.beq a c=false:=by rw [d4]; exact Ma (Ne.symm h.1)
  rw [this,jU h.2]
theorem iL {c:Nat}:∀ {L:List (List Nat)},L≠[]→(∀ p∈L,c ∉ p)→bF c (ff [c] L)=L
 | [],h,_=>absurd rfl h
 | [p],_,h=>iK (h p (by simp))
 | p::q::r,_,h=>by
  show bF c (p++c::ff [c] (q::r))=_
  rw [jU (h p (by simp)),iL (by simp) fun x hx=>h x (LQ _ hx)]
theorem eM (sep:List Nat):∀ (L:List Str),Str.join ⟨sep.toArray⟩ L=⟨(ff sep (L.map fun p=>p.cps.toList)).toArray⟩
 | []=>rfl
 | [p]=>by simp [Str.join,ff]
 | p::q::r=>by
  show p++⟨sep.toArray⟩++Str.join ⟨sep.toArray⟩ (q::r)=_
  rw [eM sep (q::r)]
  show _=(⟨(p.cps.toList++(sep++ff sep ((q::r).map fun p=>p.cps.toList))).toArray⟩:Str)
  cases p with
  | mk a=>
   show (⟨a++sep.toArray++(ff sep ((q::r).map fun p=>p.cps.toList)).toArray⟩:Str)=_
   congr 1
   apply Array.toList_inj.mp
   simp
theorem vT (c:Nat) (s:List Nat):Txt.split ⟨s.toArray⟩ ⟨#[c]⟩=(bF c s).map fun p=>⟨p.toArray⟩:=by
 have h1:=StrLaws.join_split ⟨s.toArray⟩ ⟨#[c]⟩
 have h2:=StrLaws.split_free ⟨s.toArray⟩ c
 have h3:1≤(Txt.split ⟨s.toArray⟩ ⟨#[c]⟩).length:=split_pos _ _
 generalize Txt.split ⟨s.toArray⟩ ⟨#[c]⟩=L at h1 h2 h3
 rw [show (⟨#[c]⟩:Str)=⟨[c].toArray⟩ from rfl,eM] at h1
 injection h1 with h1
 have h1:ff [c] (L.map fun p=>p.cps.toList)=s:=by simpa using congrArg Array.toList h1
 have e:bF c s=L.map fun p=>p.cps.toList:=by
  rw [← h1]
  refine iL (by cases L <;> simp at h3 ⊢) fun p hp=>?_
  obtain ⟨q,hq,rfl⟩:=List.mem_map.mp hp
  exact h2 q hq
 rw [e,List.map_map]
 conv=>lhs; rw [← List.map_id L]
 apply List.map_congr_left
 intro p _
 cases p; simp
noncomputable def vU:List (List Nat)→List V
 | []=>[]
 | p::r=>.str p::vU r
noncomputable def ki:Nat→List Nat→Bool
 | _,[]=>false
 | c,a::r=>or (Nat.beq c a) (ki c r)
theorem qI {c:Nat} {y:List Nat} (h:ki c y=false):c ∉ y:=by
 induction y with
 | nil=>exact List.not_mem_nil
 | cons a r ih=>
  obtain ⟨h1,h2⟩:=Bool.or_eq_false_iff.mp h
  intro q
  rcases List.mem_cons.mp q with rfl | q
  ·exact Nat.ne_of_beq_eq_false h1 rfl
  ·exact ih h2 q
theorem qH {c:Nat} {y:List Nat} (h:ki c y=true):c∈y:=by
 induction y with
 | nil=>cases h
 | cons a r ih=>exact (Bool.or_eq_true_iff.mp h).elim (fun e=>L8 e ▸ LY ..) fun e=>LQ _ (ih e)
noncomputable def oneC (x:List Nat) (k:Nat→Prop):Prop:=match x with | [c]=>k c | _=>False
theorem oneC.out {x:List Nat} {k:Nat→Prop} (h:oneC x k):∃ c,x=[c]∧k c:=by
 cases x with
 | nil=>exact h.elim
 | cons c r=>cases r with
  | nil=>exact ⟨c,rfl,h⟩
  | cons=>exact h.elim
noncomputable def oneI (i:Int) (P:Prop):Prop:=match i with | .ofNat 1=>P | _=>False
theorem oneI.out {i:Int} {P:Prop} (h:oneI i P):i=.ofNat 1∧P:=by
 cases i with
 | negSucc=>exact h.elim
 | ofNat n=>cases n with
  | zero=>exact h.elim
  | succ n=>cases n with
   | zero=>exact ⟨rfl,h⟩
   | succ=>exact h.elim
noncomputable def vQ (v w:V) (σ:St) (Q:V→St→Prop):Prop:=cE v fun s=>cE w fun x=>oneC x fun c=>fits s.length (Q (.fro (vU (bF c s))) σ)
noncomputable def vR (v w u:V) (σ:St) (Q:V→St→Prop):Prop:=cE v fun s=>cE w fun x=>oneC x fun c=>bD u fun i=>oneI i (onT (not (ki c s)) (fits s.length (Q (.fro [.str s]) σ)))
noncomputable def vS (vs:List V) (σ:St) (Q:V→St→Prop):Prop:=match vs with
 | [v,w]=>vQ v w σ Q
 | vs=>IH vs fun v w u=>vR v w u σ Q
noncomputable def Jm (v:V):Option (List Nat):=match v with | .str s=>some s | _=>none
noncomputable def fy:List V→Option (List (List Nat))
 | []=>some []
 | v::r=>(Jm v).bind fun s=>(fy r).map (List.cons s)
noncomputable def vV:List (List Nat)→Nat
 | []=>0
 | p::r=>p.length+vV r
noncomputable def tW (vs:List V) (σ:St) (Q:V→St→Prop):Prop:=D6 vs fun u v=>cE u fun sep=>b9 v σ fun xs=>onS (fy xs) fun ps=>fits (vV ps+ps.length*sep.length) (Q (.str (ff sep ps)) σ)
theorem wl:CB G lv (.builtin "str.lower") [] (fun vs _=>Iu vs):=CB.of (fun a w=>by cases w) fun vs σ Q hd A env X s vals ha R W=>by
 refine W.on1_ hd fun v val Wv hd=>Wv.str_ hd fun x t hd=>?_
 apply bc;intro z_
 obtain ⟨q,hd⟩:=onT.out hd
 obtain ⟨hz,hd⟩:=fits.out hd
 apply z_;clear z_
 have hA:∀ c∈(⟨x.toArray⟩:Str).cps.toList,c<128:=fun c hc=>by
  have:=px q
  rw [Array.all_eq_true'] at this
  exact Mx (this c (by simpa using hc))
 refine SCL.lower (by rw [bK]; omega) fun _=>?_
 rw [lower_ascii hA]
 have:(x.toArray.map lo1)=(x.map t9).toArray:=by
  rw [show t9=lo1 from funext xl]; simp
 show Post G X env σ.nx Q (.str ⟨x.toArray.map lo1⟩ _) _
 rw [this]
 exact Post.ret hd (R.toks _) (.str _ _)
theorem fN:∀ (L:List (List Nat)) (l:List (Str×Tok)),l.map (·.1)=L.map (fun p=>(⟨p.toArray⟩:Str))→RepVs X n (vU L) (strValues l)
 | [],l,h=>by
  cases l with
  | nil=>exact .nil
  | cons=>simp at h
 | p::r,l,h=>by
  cases l with
  | nil=>simp at h
  | cons a l=>
   simp only [List.map_cons,List.cons.injEq] at h
   obtain ⟨x,t⟩:=a
   dsimp only at h
   obtain ⟨rfl,h⟩:=h
   exact .cons (.str p t) (fN r l h)
theorem jV (c:Nat):∀ s:List Nat,(bF c s).length≤s.length+1
 | []=>LR _
 | a::r=>by
  have ih:=jV c r
  unfold bF
  cases Nat.beq a c with
  | true=>simp; omega
  | false=>
   cases q:bF c r with
   | nil=>simp
   | cons p ps=>rw [q] at ih; simp at ih ⊢; omega
theorem rl {v w:V} {val val':Value} {Q:V→St→Prop} (ok:G.Ok) (R:Rel G X env σ s) (Wv:RepV X σ.nx v val) (Ww:RepV X σ.nx w val') (hd:vQ v w σ Q):wpAny (model G.prog G.w) A (call (.builtin "str.split") [val,val']) (Post G X env σ.nx Q) bg s:=by
 refine Wv.str_ hd fun x t hd=>Ww.str_ hd fun y u hd=>?_
 apply bc;intro z_
 obtain ⟨c,rfl,hd⟩:=oneC.out hd
 obtain ⟨hz,hd⟩:=fits.out hd
 apply z_;clear z_
 have hsplit:=vT c x
 have own:Txt.split ⟨x.toArray⟩ ⟨#[c]⟩=[⟨x.toArray⟩]→Post G X env σ.nx Q (.ref s.heap.objs.size) {s with heap:=s.heap.push {cls:=.type "list",data:=.seq [Value.str ⟨x.toArray⟩ t].toArray}}:=fun e=>by
  refine Post.newList (t:=s.toks) ok hd R (fN (bF c x) [(⟨x.toArray⟩,t)] ?_)
  rw [← hsplit,e]; rfl
 cases h1:(decide ((⟨x.toArray⟩:Str).length<(⟨[c].toArray⟩:Str).length) || decide (Builtin.Str.strKind ⟨x.toArray⟩<Builtin.Str.strKind ⟨[c].toArray⟩)) with
 | true=>
  exact call_meets F.slot_str_split (typeIs_str _ _ _) F.entry_str_split (F.args_str_split_2 _ _) (meets_str_split_cannot_occur _ _ _ _ h1) (own (by unfold Txt.split; exact LV h1))
 | false=>
  cases hf:(Builtin.Str.occurrences ⟨x.toArray⟩ ⟨[c].toArray⟩ 0 (⟨x.toArray⟩:Str).length ((⟨x.toArray⟩:Str).length+1)).isEmpty with
  | true=>
   exact call_meets F.slot_str_split (typeIs_str _ _ _) F.entry_str_split (F.args_str_split_2 _ _) (meets_str_split_not_found _ _ _ _ h1 rfl hf)
    (own (by unfold Txt.split; exact (LU (ne_true_of_eq_false h1)).trans (LV hf)))
  | false=>
   have hp:Txt.split ⟨x.toArray⟩ ⟨#[c]⟩=Builtin.Str.partsBetween ⟨x.toArray⟩ (Builtin.Str.occurrences ⟨x.toArray⟩ ⟨[c].toArray⟩ 0 (⟨x.toArray⟩:Str).length ((⟨x.toArray⟩:Str).length+1)) (⟨[c].toArray⟩:Str).length:=by
    unfold Txt.split; exact (LU (ne_true_of_eq_false h1)).trans (LU (ne_true_of_eq_false hf))
   have hl:=jV c x
   refine call_meets F.slot_str_split (typeIs_str _ _ _) F.entry_str_split (F.args_str_split_2 _ _) (meets_str_split_sep _ _ _ _ h1 rfl hf (by rw [bK,L6]; omega) (by
    rw [← hp,hsplit,List.length_map,L6]; omega)) ?_
   rw [← hp,strsFrom_eq]
   refine Post.newList ok hd R (fN (bF c x) _ ?_)
   rw [numbered_texts,hsplit]
theorem rm {v w z:V} {val val' val'':Value} {Q:V→St→Prop} (ok:G.Ok) (R:Rel G X env σ s) (Wv:RepV X σ.nx v val) (Ww:RepV X σ.nx w val') (Wz:RepV X σ.nx z val'') (hd:vR v w z σ Q):wpAny (model G.prog G.w) A (call (.builtin "str.split") [val,val',val'']) (Post G X env σ.nx Q) bg s:=by
 refine Wv.str_ hd fun x t hd=>Ww.str_ hd fun y u hd=>?_
 apply bc;intro z_
 obtain ⟨c,rfl,hd⟩:=oneC.out hd
 apply z_;clear z_
 refine Wz.int_ hd fun i j hd=>?_
 apply bc;intro z_
 obtain ⟨rfl,hd⟩:=oneI.out hd
 obtain ⟨q,hd⟩:=onT.out hd
 have q:ki c x=false:=(Bool.not_eq_true' _).mp q
 obtain ⟨hz,hd⟩:=fits.out hd
 apply z_;clear z_
 have own:Post G X env σ.nx Q (.ref s.heap.objs.size) {s with heap:=s.heap.push {cls:=.type "list",data:=.seq [Value.str ⟨x.toArray⟩ t].toArray}}:=
  Post.newList (t:=s.toks) ok hd R (.cons (.str x t) .nil)
 have hk:(decide (Int.ofNat 1 < -(2 ^ 63:Int)) || decide (Int.ofNat 1 ≥ 2 ^ 63))=false:=by decide
 cases h1:(decide ((⟨x.toArray⟩:Str).length<(⟨[c].toArray⟩:Str).length) || decide (Builtin.Str.strKind ⟨x.toArray⟩<Builtin.Str.strKind ⟨[c].toArray⟩)) with
 | true=>
  exact call_meets F.slot_str_split (typeIs_str _ _ _) F.entry_str_split (F.args_str_split_3 _ _ _) (meets_str_split_max_cannot_occur _ _ _ _ _ _ hk h1) own
 | false=>
  have hf:(Builtin.Str.occurrences ⟨x.toArray⟩ ⟨[c].toArray⟩ 0 (⟨x.toArray⟩:Str).length (limitOf ⟨x.toArray⟩ (Int.ofNat 1))).isEmpty=true:=by
   have:=empty_one ⟨x.toArray⟩ c
   have e:limitOf ⟨x.toArray⟩ (Int.ofNat 1)=1:=rfl
   rw [e]
   rw [show (⟨[c].toArray⟩:Str)=⟨#[c]⟩ from rfl,this]
   simp [qI q]
  exact call_meets F.slot_str_split (typeIs_str _ _ _) F.entry_str_split (F.args_str_split_3 _ _ _) (meets_str_split_max_not_found _ _ _ _ _ _ hk h1 rfl hf) own
theorem wn (ok:G.Ok):CB G lv (.builtin "str.split") [] (fun vs _=>vS vs):=CB.of (fun a w=>by cases w) fun vs σ Q hd A env X s vals ha R W=>by
 cases W with
 | nil=>exact hd.elim
 | cons a W=>cases W with
  | nil=>exact hd.elim
  | cons b W=>cases W with
   | nil=>exact rl ok R a b hd
   | cons c W=>cases W with
    | nil=>exact rm ok R a b c hd
    | cons=>exact hd.elim
theorem ro {vs:List V}:∀ {vals:List Value} {ps:List (List Nat)},fy vs=some ps→RepVs X n vs vals→StrsAre vals (ps.map fun p=>(⟨p.toArray⟩:Str)):=by
 induction vs with
 | nil=>intro vals ps h W; cases W; cases h; exact .nil
 | cons v r ih=>
  intro vals ps h W
  cases W with
  | cons a b=>
   apply bc;intro z_
   obtain ⟨x,h1,h⟩:=Option.bind_eq_some_iff.mp h
   obtain ⟨ss,h2,rfl⟩:=Option.map_eq_some_iff.mp h
   apply z_;clear z_
   cases v with
   | str y=>
    apply bc;intro z_
    obtain ⟨t,rfl⟩:=a.inv
    apply z_;clear z_
    cases h1
    exact .cons _ t (ih h2 b)
   | _=>first | exact nS h1 | exact nB h1 | cases h1
theorem qm:∀ ps:List (List Nat),((ps.map fun p=>(⟨p.toArray⟩:Str)).map (·.length)).sum=vV ps
 | []=>rfl
 | p::r=>by
  have:=qm r
  simp only [List.map_cons,List.sum_cons,vV] at this ⊢
  rw [this,bK]
theorem AX:CB G lv (.builtin "str.join") [] (fun vs _=>tW vs):=CB.of (fun a w=>by cases w) fun vs σ Q hd A env X s vals ha R W=>by
 refine W.on2_ hd fun u v val val' Wv Ww hd=>Wv.str_ hd fun sep t hd=>?_
 apply bc;intro z_
 obtain ⟨l,o,items,xs,rfl,ho,hl,hs,q⟩:=cr R Ww hd
 obtain ⟨ps,q2,q⟩:=onS.out q
 obtain ⟨hz,q⟩:=fits.out q
 apply z_;clear z_
 refine join_list (hl.isList ho) (ro q2 hs) ?_ fun t' k=>?_
 ·rw [qm,List.length_map,bK]; omega
 ·have:Txt.join ⟨sep.toArray⟩ (ps.map fun p=>(⟨p.toArray⟩:Str))=⟨(ff sep ps).toArray⟩:=by
   unfold Txt.join
   rw [StrLaws.glued_eq_join,eM,List.map_map]
   congr 3
   conv=>rhs; rw [← List.map_id ps]
   apply List.map_congr_left
   intro p _; simp
  rw [this]
  exact Post.ret q (R.toks _) (.str _ _)
structure ClsOk (K:Frag) (C:Addr):Prop where
 hga:findIn K (.ref C) "__getattribute__"=some (some (.builtin "object.__getattribute__"))
 hk:findIn K (.ref C) "__getattr__"=some none
 hs:findIn K (.ref C) "__setattr__"=some (some (.builtin "object.__setattr__"))
 hp:plainOver K C=true
 hd:hasDictIn K C=true
theorem kA {h:Heap} {a:Addr} {m:Str→Option Value} (x:h.Ns a m):∃ o,h.get? a=some o∧∀ name,lookIn name o=some (m name):=by
 apply bc;intro z_
 obtain ⟨o,es,ep,ho,hd,hk,hm⟩:=x
 apply z_;clear z_
 refine ⟨o,ho,fun name=>?_⟩
 unfold lookIn
 rw [hd]
 dsimp only
 rw [← hm name]
 unfold nsFind findBy
 apply bc;intro z_
 obtain ⟨l⟩:=es
 apply z_;clear z_
 simp only [List.find?_toArray]
 cases q:l.find? (fun e=>e.key.isStr name) with
 | some e=>rfl
 | none=>
  have:l.any (·.refKey)=false:=by
   rw [List.any_eq_false]
   intro e he
   apply bc;intro z_
   obtain ⟨n,t,hk⟩:=hk e (by simpa using he)
   apply z_;clear z_
   simp [DictEntry.refKey,hk]
  simp only [this,Bool.false_eq_true,if_false,Option.map_none]
theorem RepV.handed {v:V} {val:Value} (W:RepV X n v val): handedIn val=true:=
 @RepV.casesOn X n (fun _ w _=>handedIn w=true) v val W rfl (fun _=>rfl) (fun _ _=>rfl) (fun _ _=>rfl) (fun _ _=>rfl) (fun _=>rfl) (fun _=>rfl) (fun _ _=>rfl)
  (fun _ _ _ _ _=>rfl) (fun _ _ _ _ _ _ _=>rfl) (fun _ _ _ _ _ _ _=>rfl) (fun _ _ _ _=>rfl) (fun _ _ _ _ _ _ _ _=>rfl) (fun _=>rfl) (fun _ _ _ _ _ _ _ _ _ _ _=>rfl)
theorem xh {C l:Nat} {a:Addr} {at_:List (Nat×V)} (R:Rel G X env σ s) (ha:X.F a=some (instObj C (X.ρ l))) (hl:aq l σ.st=some (.ns at_)) :
  ∃ od m,InstAt s.heap a (instObj C (X.ρ l)) C (some od)∧s.heap.Ns1 (X.ρ l) m∧Within m G.an∧AttrsAre G X σ.nx at_ m∧s.heap.get? (X.ρ l)=some od∧∀ name,lookIn name od=some (m name):=by
 apply bc;intro z_
 obtain ⟨_,m,h1,h2,h3⟩:=R.st l _ hl
 obtain ⟨od,ho,hk⟩:=kA h1.ns
 apply z_;clear z_
 exact ⟨od,m,⟨R.sub _ _ ha,rfl,rfl,ho⟩,h1,h2,h3,ho,hk⟩
noncomputable def xA (l:Nat) (σ:St):Option (List (Nat×V)):=match aq l σ.st with | some (.ns at_)=>some at_ | _=>none
theorem ii {l:Nat} {σ:St} {at_:List (Nat×V)} (h:xA l σ=some at_):aq l σ.st=some (.ns at_):=by
 unfold xA at h
 split at h
 ·cases h; assumption
 ·first | exact nS h | exact nB h | cases h
noncomputable def mD (C0:Nat) (v:V) (σ:St) (k:Nat→List (Nat×V)→Prop):Prop:=Az v fun C l=>onT (Nat.beq C C0) (onS (xA l σ) fun at_=>k l at_)
inductive ObjIs (G:Glob) (X:Wd) (σ:St) (s:Shared) (C0:Nat) (k:Nat→List (Nat×V)→Prop) (v:V) (val:Value):Prop
 | mk (l:Nat) (a:Addr) (at_:List (Nat×V)) (od:Obj) (m:Str→Option Value) (ev:v=.obj C0 l) (hl:l<σ.nx) (e:val=.ref a) (hF:X.F a=some (instObj C0 (X.ρ l))) (hk:aq l σ.st=some (.ns at_))
  (I:InstAt s.heap a (instObj C0 (X.ρ l)) C0 (some od)) (h1:s.heap.Ns1 (X.ρ l) m) (h2:Within m G.an) (h3:AttrsAre G X σ.nx at_ m) (ho:s.heap.get? (X.ρ l)=some od) (hlk:∀ name,lookIn name od=some (m name)) (h:k l at_)
theorem fF {C0:Nat} {v:V} {val:Value} {k:Nat→List (Nat×V)→Prop} (h:mD C0 v σ k) (R:Rel G X env σ s) (W:RepV X σ.nx v val):ObjIs G X σ s C0 k v val:=by
 cases v with
 | obj C l=>
  cases (W.inv:AtOb X σ.nx C l val) with
  | mk a hl o=>
  apply bc;intro z_
  obtain ⟨q,h'⟩:=onT.out h
  obtain ⟨at_,q2,h5⟩:=onS.out h'
  apply z_;clear z_
  cases L8 q
  apply bc;intro z_
  obtain ⟨od,m,I,r⟩:=xh R o (ii q2)
  apply z_;clear z_
  exact ⟨l,a,at_,od,m,rfl,hl,rfl,o,ii q2,I,r.1,r.2.1,r.2.2.1,r.2.2.2.1,r.2.2.2.2,h5⟩
 | _=>exact h.elim
noncomputable def pz (C0 i:Nat) (v:V) (σ:St) (Q:V→St→Prop):Prop:=mD C0 v σ fun l at_=>qi (aq i at_) σ Q
theorem et {e:PySem.Expr} {name:Str} {p:Pos} {d:DE} {Q:Value→Shared→Prop} {K:V→St→Prop} (he':SE G lv sc e d) (hb:∀ env,attributeBase e name env (eval e env)=eval e env) (hd:d σ K) (ha:AOk lv A) (he:EOk sc env) (R:Rel G X env σ s)
  (k:∀ val s1 v σ1 X1,K v σ1→X.le σ.nx X1→σ.nx≤σ1.nx→Rel G X1 env σ1 s1→RepV X1 σ1.nx v val→wpAny (model G.prog G.w) A (getAttr val name true) Q bg s1) :
  wpAny (model G.prog G.w) A (eval (.Attribute e name p) env) Q bg s:=by
 show wpAny _ _ (do
  let o ← attributeBase e name env (eval e env)
  standAt p.atName
  let r ← holding [o] (getAttr o name true)
  letTemporaryGo e o r
  pure r) _ _ _
 rw [hb]
 refine LD (he'.run hd ha he R fun val s1 v σ1 X1 k1 L1 n1 R1 W1=>?_)
 refine LD (LH (LD (LG ?_)))
 exact LF (k val s1 v σ1 X1 k1 L1 n1 R1 W1) (fun r s2 q=>LD (wpAny_letTemporaryGo (LE q))) fun _ _ z=>z
theorem jn {C0 i:Nat} {name:Str} {v:V} {val:Value} {Q:V→St→Prop} {expr:Bool} (ok:G.Ok) (hC:ClsOk G.K C0) (hi:G.an[i]?=some name) (hn:findIn G.K (.ref C0) name=some none) (h:pz C0 i v σ Q) (R:Rel G X env σ s) (W:RepV X σ.nx v val) :
  wpAny (model G.prog G.w) A (getAttr val name expr) (Post G X env σ.nx Q) bg s:=by
 apply bc;intro z_
 obtain ⟨l,a,at_,od,m,rfl,hl,rfl,hF,hk,I,h1,h2,h3,ho,hlk,h5⟩:=fF h R W
 obtain ⟨w,e,hq⟩:=fK h5
 have:=h3 i name hi
 rw [e] at this
 obtain ⟨wv,hm,Ww⟩:=this
 apply z_;clear z_
 refine get_value (R.K ok) I hC.hga (findObj_own hC.hd hn rfl (by rw [hlk,hm])) Ww.handed (Post.ret hq (R.toks _) Ww)
noncomputable def rQ (d:DE) (C0 i:Nat):DE:=fun σ Q=>d σ fun v σ1=>pz C0 i v σ1 Q
theorem aY {e:PySem.Expr} {name:Str} {p:Pos} {d:DE} {C0 i:Nat} (ok:G.Ok) (hC:ClsOk G.K C0) (hi:G.an[i]?=some name) (hn:findIn G.K (.ref C0) name=some none) (he':SE G lv sc e d) (hb:∀ env,attributeBase e name env (eval e env)=eval e env):SE G lv sc (.Attribute e name p) (rQ d C0 i):=fun σ Q hd A env X s ha he R=>
 et he' hb hd ha he R fun val s1 v σ1 X1 k1 L1 n1 R1 W1=>LF (jn ok hC hi hn k1 R1 W1) (fun _ _ z=>Post.lift L1 n1 z) fun _ _ z=>z
theorem wr {x name:Str} {np p:Pos} {C:Addr} {i:Nat} {mc:Value} {cs:List Nat} {t:Tok} (ok:G.Ok) (hx:sc.names[i]?=some (x,.globalImplicit)) (hg:nsIn G.K mainGlobals x=some (some (.ref C))) (hdb:(x==("__debug__":Str))=false)
  (hr:readsIn G.K C mc=true) (e:findCls G.K (.ref C) mc name=some (.val (.str ⟨cs.toArray⟩ t))):SE G lv sc (.Attribute (.Name x np) name p) (fun σ Q=>Q (.str cs) σ):=fun σ Q hd A env X s ha he R=>
 et (K:=fun v σ'=>v=.gl C∧Q (.str cs) σ') (no ok hx hg hdb) (fun _=>rfl) ⟨rfl,hd⟩ ha he R fun val s1 v σ1 X1 k1 L1 n1 R1 W1=>by
  obtain ⟨rfl,k1⟩:=k1
  cases (W1.inv:val=.ref C)
  exact cls_value (R1.K ok) hr e rfl (Post.lift L1 n1 (Post.ret k1 (R1.toks _) (.str cs t)))
noncomputable def m4 (C0 i:Nat) (o v:V) (σ:St) (Q:St→Prop):Prop:=mD C0 o σ fun l at_=>Q {σ with st:=fq l (.ns (fq i v at_)) σ.st}
theorem vE {C0 i:Nat} {name:Str} {o v:V} {ov val:Value} {Q:St→Prop} {Q':Unit→Shared→Prop} (ok:G.Ok) (hC:ClsOk G.K C0) (hi:G.an[i]?=some name) (hn:takerIn G.K C0 name=some none) (h:m4 C0 i o v σ Q) (R:Rel G X env σ s) (Wo:RepV X σ.nx o ov) (W:RepV X σ.nx v val)
  (k:∀ σ' s',Q σ'→σ'.nx=σ.nx→Rel G X env σ' s'→Q' () s'):wpAny (model G.prog G.w) A (setAttr ov name val) Q' bg s:=by
 apply bc;intro z_
 obtain ⟨l,a,at_,od,m,rfl,hl,rfl,hF,hk,I,h1,h2,h3,ho,hlk,h5⟩:=fF h R Wo
 apply z_;clear z_
 refine set_plain (R.K ok) I hC.hs ?_
 have R1:=R.toks (s.toks+1)
 refine osa_open (R1.K ok) I hC.hp hn fun b=>?_
 apply bc;intro z_
 obtain ⟨cd,hc,hd'⟩:=any_some hC.hd
 apply z_;clear z_
 have hx:=I.at_
 refine LD (LE (LD (LD (wpAny_loadPart hx (LD ((looks_clsIn (R1.K ok) hc).here ?_))))))
 rw [hd']
 refine LE (a:=some (X.ρ l)) (LD (LE (LD ?_)))
 refine wpAny_nsSet1 h1 fun h' hn' hs'=>?_
 have hw:Within (fun x=>if x=name then some val else m x) G.an:=fun y hy=>by
  by_cases z:y=name
  ·subst z; exact Mh hi
  ·exact h2 y (by simpa [z] using hy)
 apply bc;intro z_
 obtain ⟨o',es,ep,g1,g2,g3⟩:=hn'.count hw
 apply z_;clear z_
 refine LD (wpAny_lookBehind g1 (by rw [g2]; exact pastItsLine_dict (by rw [L6]; have:=ok.anlen; omega)) ?_)
 refine LE ?_
 refine k _ _ h5 rfl ?_
 exact R.upd (s':={s with heap:=h',toks:=s.toks+2}) hk (fun b hb o e=>(hs'.2 b hb).trans e) ⟨_,hn',hw,fun j y hy=>by
  rw [dN]
  by_cases z:j=i
  ·subst z
   rw [LV rfl]
   have:y=name:=by rw [hi] at hy; exact (Option.some.inj hy).symm
   subst this
   exact ⟨val,by simp,W⟩
  ·rw [LU z]
   have ny:¬ y=name:=fun w=>by
    subst w
    apply bc;intro z_
    obtain ⟨hj,ej⟩:=List.getElem?_eq_some_iff.mp hy
    obtain ⟨hi',ei⟩:=List.getElem?_eq_some_iff.mp hi
    apply z_;clear z_
    exact z ((List.getElem_inj ok.annd).mp (ej.trans ei.symm))
   have:=h3 j y hy
   simp only [ny,if_false]
   exact this⟩ rfl rfl R.gens
theorem be {o:PySem.Expr} {name:Str} {p:Pos} {do_:DE} {C0 i:Nat} (ok:G.Ok) (hC:ClsOk G.K C0) (hi:G.an[i]?=some name) (hn:takerIn G.K C0 name=some none) (ho:SE G lv sc o do_) :
  ST G lv sc (.Attribute o name p) (fun v σ Q=>do_ σ fun ov σ1=>m4 C0 i ov v σ1 Q):=fun v σ Q hd A env X s val ha he R W=>by
 rw [assign_Attribute]
 refine LD (LG (ho.run hd ha he R fun ov s1 o1 σ1 X1 k1 L1 n1 R1 W1=>?_))
 refine LD (LH (LD (LG ?_)))
 refine vE ok hC hi hn k1 R1 W1 (W.mono L1 n1) fun σ2 s2 q e R2=>wpAny_release ⟨σ2,X1,q,L1,by rw [e]; exact n1,R2⟩
theorem pY {name:Str} {C0 j:Nat} {f:Addr} {v:V} {val:Value} {P:Prop} {pl:_} {Q':_→Shared→Prop} (ok:G.Ok) (hC:ClsOk G.K C0) (hj:G.an[j]?=some name) (hf:findIn G.K (.ref C0) name=some (some (.ref f))) (ht:typeIn G.K (.ref f)=some (.type "function"))
  (h:mD C0 v σ fun _ at_=>noS (aq j at_) P) (R:Rel G X env σ s) (W:RepV X σ.nx v val) (k:P→Q' (.ref f,[val]) s):wpAny (model G.prog G.w) A (getMethod val name pl) Q' bg s:=by
 obtain ⟨l,a,at_,od,m,rfl,hl,rfl,hF,hk,I,h1,h2,h3,ho',hlk,k2⟩:=fF h R W
 obtain ⟨q,k2⟩:=noS.out k2
 have:=h3 j name hj
 rw [q] at this
 exact method_fn (R.K ok) I hC.hga hC.hk hf ht (by unfold shadowIn; have:=this; dsimp only at this ⊢; rw [hlk,this]; rfl) (k k2)
noncomputable def wA (do_:DE) (C0 j:Nat) (D:List V→List V→DE):DC:=fun σ K=>do_ σ fun v σ1=>mD C0 v σ1 fun _ at_=>noS (aq j at_) (K (fun vs kvs=>D (v::vs) kvs) σ1)
theorem d3 {o:PySem.Expr} {name:Str} {do_:DE} {C0 j:Nat} {f:Addr} {ks:List Str} {D:List V→List V→DE} (ok:G.Ok) (hC:ClsOk G.K C0) (hj:G.an[j]?=some name) (hf:findIn G.K (.ref C0) name=some (some (.ref f))) (ht:typeIn G.K (.ref f)=some (.type "function"))
  (ho:SE G lv sc o do_) (hc:CB G lv (.ref f) ks D):SM G lv sc o name ks (wA do_ C0 j D):=fun σ K hd A env X s hA he R=>
 ho.run hd hA he R fun ov s1 v σ1 X1 k1 L1 n1 R1 W1=>fun pl Q' k=>pY ok hC hj hf ht k1 R1 W1 fun k1=>k _ _ _ _ _ _ k1 L1 n1 R1 (CFok.of (fv:=[v]) hc (.cons W1 .nil))
theorem CX:typeLookup (.type "method_descriptor") "__get__"=pure (some (.builtin "method_descriptor.__get__")):=by rw [typeLookup_type,builtinLookup_eq_fast]; kernel_rfl
theorem CY:typeLookup (.type "method_descriptor") "__set__"=pure none:=by rw [typeLookup_type,builtinLookup_eq_fast]; kernel_rfl
theorem CW:typeLookup (.type "method_descriptor") "__delete__"=pure none:=by rw [typeLookup_type,builtinLookup_eq_fast]; kernel_rfl
theorem jS:Slot "method_descriptor" "__get__" "method_descriptor.__get__":=
 .of (owner:="method_descriptor") (n:="__get__") (by rw [typeLookup_type,builtinLookup_eq_fast]; kernel_rfl) (by decide +kernel) (by decide +kernel) (by decide +kernel)
  (by first | exact .inl (by decide +kernel) | exact .inr (by decide +kernel)) (by rw [isSubtype_type]; kernel_rfl)
theorem l6:entryFor table "method_descriptor.__get__"=some Builtin.«method_descriptor.__get__»:=entryFor_of_tree (by kernel_rfl)
theorem nw (a b c:Value):argsOk "method_descriptor.__get__" ⟨[a,b,c],[]⟩:=by unfold argsOk; kernel_rfl
noncomputable abbrev e8 (id:String) (a:Addr):Obj:={cls:=.type "builtin_function_or_method",data:=.fields #[.builtin id,.ref a]}
theorem lx (a:Addr) (xs:Array Value) (k:Nat) (sl:Array (Option Value)) (u:Tok) :
  Meets (Builtin.«object.__getattribute__» ⟨[.ref a,.str (Str.ofString "append") u],[]⟩) (fun A R s=>s.heap.get? a=some {cls:=.type "list",dict:=none,data:=.seq xs k,slots:=sl} ∧
   R (.ok (.ret (.ref s.heap.objs.size))) {s with heap:=s.heap.push (e8 "list.append" a)}):=
 Meets.of_wp fun prog w A R s hs=>by
  apply bc;intro z_
  obtain ⟨hp,g,d,tk,os⟩:=s
  obtain ⟨hx,hs⟩:=hs
  apply z_;clear z_
  have hT:(⟨hp,g,d,tk,os⟩:Shared).TypeIs (.ref a) "list":=⟨_,hx,rfl⟩
  have g1:=slot_list_append.lookup
  have g2:=F.type_list_append
  have g3:=CX
  have g4:=CY
  have g5:=CW
  unfold Builtin.«object.__getattribute__»
  show wpAny _ _ (typeOf (.ref a) >>= _) _ _ _
  refine LD (wpAny_typeOf hT ?_)
  refine LD ?_
  unfold Builtin.ObjectAttr.find
  refine LD (LI g1 ?_)
  show wpAny _ _ (specialOf (.builtin "list.append") "__get__" >>= _) _ _ _
  unfold specialOf
  refine LD (LD (LI g2 (LI g3 ?_)))
  unfold Builtin.ObjectAttr.dataDescriptor?
  refine LD (LD ?_)
  show wpAny _ _ (Builtin.ObjectAttr.takesStores (.builtin "list.append") >>= _) _ _ _
  refine LD ?_
  unfold Builtin.ObjectAttr.takesStores specialOf
  refine LD (LD (LI g2 (LI g4 ?_)))
  rw [LU (show ¬ (none:Option Value).isSome=true by decide)]
  refine LD (LD (LI g2 (LI g5 (LE (LE ?_)))))
  rw [LU (show ¬ (none:Option Value).isSome=true by decide)]
  refine LE ?_
  unfold Builtin.ObjectAttr.ownThenClass
  dsimp only
  refine LD ?_
  unfold Builtin.ObjectAttr.inOwnDict Builtin.ObjectAttr.ownDict
  repeat (any_goals (first | assumption | wp_step))
  refine codeAny_call_builtin jS.plain l6 (jS.check _ _ _ _ _ _ _ _ g2 (nw _ _ _) ?_)
  unfold Builtin.«method_descriptor.__get__»
  repeat k_node
  exact ⟨_,rfl,hs⟩
theorem oB {l:Addr} {o:Obj} {items:List Value} {expr:Bool} {Q:Value→Shared→Prop} (ho:s.heap.get? l=some o) (hl:LObj "list" o items) (h:Q (.ref s.heap.objs.size) {s with heap:=s.heap.push (e8 "list.append" l),toks:=s.toks+1}) :
  wpAny (model G.prog G.w) A (getAttr (.ref l) (Str.ofString "append") expr) Q bg s:=by
 apply bc;intro z_
 obtain ⟨c,dd,dt,sl⟩:=o
 obtain ⟨h1,h2,⟨ep,h3⟩,h4⟩:=hl
 dsimp only at h1 h2 h3 h4
 subst h1 h2 h3 h4
 obtain ⟨hp,g,d,tk,os⟩:=s
 apply z_;clear z_
 have hT:∀ tk',(⟨hp,g,d,tk',os⟩:Shared).TypeIs (.ref l) "list":=fun _=>⟨_,ho,rfl⟩
 have f3:=F.slot_list_getattribute.lookup
 unfold getAttr getAttrBy
 refine LD (wpAny_mkText (LG (LD (wpAny_typeOf (hT _) (LD (LI f3 ?_))))))
 dsimp only
 rw [show (onTheHeap (.type "list") && Value.builtin "list.__getattribute__"==Value.builtin "object.__getattribute__")=false from by rw [show (onTheHeap (.type "list"))=false from by decide +kernel,Bool.false_and],LU (by decide)]
 unfold getAttrByItsOwn
 refine LD (LI (show hookBefore (.type "list")=pure none from rfl) ?_)
 refine LD (wpAny_attempt (LG ?_))
 unfold callGetattribute
 rw [show (expr && onTheHeap (Value.builtin "list.__getattribute__"))=false from Bool.and_false _,LU (by decide)]
 unfold boundAndCalled
 rw [F.slot_list_getattribute.bind]
 refine LD (LE ?_)
 show wpAny _ _ (call (.builtin "list.__getattribute__") [.ref l,.str (Str.ofString "append") tk]) _ _ _
 refine call_meets F.slot_list_getattribute (hT _) am_entry_list_getattribute (F.args_list_getattribute_2 _ _) (lx l items.toArray ep #[] tk) ⟨ho,?_⟩
 show wpAny _ _ (handedOut _) _ _ _
 exact LE h
noncomputable def oA (v:V) (σ:St) (Q:V→St→Prop):Prop:=il v σ fun l _=>Q (.bm l) σ
theorem rP {e:PySem.Expr} {p:Pos} {d:DE} (ok:G.Ok) (he':SE G lv sc e d) (hb:∀ env,attributeBase e (Str.ofString "append") env (eval e env)=eval e env) :
  SE G lv sc (.Attribute e (Str.ofString "append") p) (fun σ Q=>d σ fun v σ1=>oA v σ1 Q):=fun σ Q hd A env X s ha he R=>
 et he' hb hd ha he R fun val s1 v σ1 X1 k1 L1 n1 R1 W1=>by
  refine gU R1 W1 k1 fun l xs o items hl q h1 h2 h3 k1=>?_
  refine oB h1 h2 ?_
  apply bc;intro z_
  obtain ⟨R2,L2⟩:=R1.still (s':={s1 with heap:=s1.heap.push (e8 "list.append" (X1.ρ l)),toks:=s1.toks+1}) aL (fun _ _ e=>LM _ e) (LT _ rfl) rfl rfl R1.gens ok
  apply z_;clear z_
  exact ⟨_,σ1,_,k1,L1.trans L2 n1,n1,R2,.bm l _ hl (LV rfl)⟩
theorem oZ:∃ sig,Manifest.signature? "list.append"=some sig∧∀ a b,Bind.checkArgs "list.append" {sig with full:=s!"{Bind.lastOf "list"}.{Bind.lastOf "list.append"}"} ⟨[a,b],[]⟩=pure ():=by
 rw [signature?_of (id:="list.append") (n:=['d','n','e','p','p','a']) (o:=['t','s','i','l']) (by kernel_rfl) F.owner_list]
 refine ⟨⟨.oneArg,"list.append","append",.self,[⟨"object",.posOnly,true⟩]⟩,by kernel_rfl,fun a b=>by kernel_rfl⟩
theorem k9 {l:Addr} {o:Obj} {items:List Value} {v:Value} {Q:Unit→Shared→Prop} (ho:s.heap.get? l=some o) (hl:LObj "list" o items) (q:Q () s):wpAny (model G.prog G.w) A (checkBoundCall "list.append" ⟨[.ref l,v],[]⟩) Q bg s:=by
 apply bc;intro z_
 obtain ⟨sig,h1,h2⟩:=oZ
 apply z_;clear z_
 have hT:s.TypeIs (.ref l) "list":=⟨o,ho,hl.1⟩
 have hk:builtinKind "list.append"=some .method:=by decide +kernel
 unfold checkBoundCall
 rw [h1,hk]
 dsimp only
 rw [LU (by decide)]
 refine LD (wpAny_isInstance hT (b:=false) (by rw [isSubtype_type]; kernel_rfl) ?_)
 rw [show (Manifest.varargsMethods.contains "list.append" || false)=false by decide +kernel,LU (by decide)]
 unfold isType
 refine LD (LD (wpAny_loadPart ho ?_))
 apply bc;intro z_
 obtain ⟨_,_,⟨ep,hd⟩,_⟩:=hl
 apply z_;clear z_
 rw [hd]
 refine LE ?_
 dsimp only
 rw [LU LZ]
 refine LD (wpAny_typeOf hT ?_)
 show wpAny _ _ (Bind.checkArgs "list.append" _ _) _ _ _
 rw [h2]
 exact LE q
theorem lG {as:Args}:(Code.builtin "list.append" as).quiet=true:=Code.quiet_builtin _ (by decide +kernel)
theorem sG {l:Nat} {a:Addr} {xs:List V} {v:V} {val:Value} {Q:Value→Shared→Prop} (ho:s.heap.get? a=some (e8 "list.append" (X.ρ l))) (q:aq l σ.st=some (.list xs)) (hz:xs.length≤1000000) (R:Rel G X env σ s) (Wv:RepV X σ.nx v val)
  (k:∀ s',Rel G X env (f0 l (.list (xs++[v])) σ) s'→Q .none s'):wpAny (model G.prog G.w) A (call (.ref a) [val]) Q bg s:=by
 refine wpAny_call (codeAny_of_tree ?_)
 show wpAny _ A.in1 (callAny (.ref a) ⟨[val],[]⟩) _ _ s
 simp only [callAny]
 refine LD (LK ho ?_)
 simp only [show (Value.type "builtin_function_or_method"==Value.type "method" || Value.type "builtin_function_or_method"==Value.type "builtin_function_or_method" || Value.type "builtin_function_or_method"==Value.type "method-wrapper")=true by decide]
 refine wpAny_ite ?_
 rw [LV (by decide)]
 apply bc;intro z_
 obtain ⟨_,o,items,h1,h2,h3⟩:=R.st l _ q
 apply z_;clear z_
 refine LD (k9 h1 h2 ?_)
 refine LD (LE (LE ?_))
 refine ⟨lG,Ml entry_list_append (LF (je q h1 h2 h3 hz R Wv k) (fun fin s' y_=>?_) fun _ _ z=>z.elim)⟩
 apply bc;intro z_
 obtain ⟨r,e,z⟩:=y_
 apply z_;clear z_
 subst e
 exact z
theorem qc {α:Type} {l:Nat} {a b:α} {st:List (Nat×α)}:fq l a (fq l b st)=fq l a st:=by
 induction st with
 | nil=>rw [lF,lF,eG,LV rfl]
 | cons p r ih=>
  obtain ⟨m,c⟩:=p
  rw [eG,eG]
  by_cases q:l=m
  ·rw [LV q,LV q,eG,LV rfl]
  ·rw [LU q,LU q,eG,LU q,ih]
theorem Rel.retype {l:Nat} {o o':AO} (R:Rel G X env σ s) (hl:aq l σ.st=some o) (h:RepO G X σ.nx s.heap (X.ρ l) o→RepO G X σ.nx s.heap (X.ρ l) o'):Rel G X env {σ with st:=fq l o' σ.st} s:=
 R.upd hl (fun _ _ _ e=>e) (h (R.st l o hl).2) rfl rfl R.gens
theorem mr {l:Nat} {o:AO} {st:List (Nat×AO)}:aq l (fq l o st)=some o:=by rw [dN,LV rfl]
noncomputable def J6 (o:Option AO) (l:Nat) (v:V) (σ:St) (Q:V→St→Prop):Prop:=match o with
 | some (.list xs)=>fits xs.length (Q .non (f0 l (.list (xs++[v])) σ))
 | some (.wds ss)=>cE v fun s=>fits ss.length (Q .non (f0 l (.wds (ss++[s])) σ))
 | _=>False
noncomputable def wO (l:Nat) (vs:List V) (σ:St) (Q:V→St→Prop):Prop:=mE vs fun v=>J6 (aq l σ.st) l v σ Q
theorem Aj {l:Nat} {a:Addr} (W:X.F a=some (e8 "list.append" (X.ρ l))) (hl:l<n):CFok G lv env X n (.ref a) [] [] (fun vs _=>wO l vs):=by
 intro A X2 σ2 s2 vs kvs Q vals kvals ha L hn hd R2 Wv Wk
 have ho:=R2.sub _ _ (L.F _ _ W)
 rw [← L.ρ l hl] at ho
 refine ⟨fun Q' k=>?_,Wv.on1_ hd fun v val Wv' hd=>?_⟩
 ·unfold keeperOf
  exact LD (LK ho (LE (k .machine (by decide))))
 ·cases q:aq l σ2.st with
  | none=>rw [q] at hd; exact hd.elim
  | some ao=>
   rw [q] at hd
   cases ao with
   | list xs=>
    apply bc;intro z_
    obtain ⟨hz,hd⟩:=fits.out hd
    apply z_;clear z_
    exact sG ho q hz R2 Wv' fun s' R'=>⟨_,_,X2,hd,.refl,LR _,R',.non⟩
   | wds ss=>
    refine Wv'.str_ hd fun x t hd=>?_
    apply bc;intro z_
    obtain ⟨hz,hd⟩:=fits.out hd
    apply z_;clear z_
    refine sG ho (mr (o:=.list (ss.map V.str))) (by rw [List.length_map]; exact hz) (R2.retype (o':=.list (ss.map V.str)) q fun r=>r) (.str x t) fun s' R4=>?_
    have R5:Rel G X2 env {σ2 with st:=fq l (.wds (ss++[x])) (fq l (.list (ss.map V.str++[.str x])) (fq l (.list (ss.map V.str)) σ2.st))} s':=R4.retype (l:=l) mr fun r=>by
     show RepO G X2 _ _ _ (.list ((ss++[x]).map V.str))
     rw [List.map_append]; exact r
    rw [qc,qc] at R5
    exact ⟨.non,_,X2,hd,.refl,LR _,R5,.non⟩
   | _=>exact hd.elim
noncomputable def ak (env:Env):List Addr:=env.locals::(if env.frame=some env.locals then env.cells.filterMap (fun p=>env.cells.lookup p.1) else [])
set_option tactic.hygienic true in
theorem hV {b:Addr} (h:b∈ak env):b=env.locals∨(env.frame=some env.locals∧∃ x,env.cells.lookup x=some b):=by
 unfold ak at h
 rcases List.mem_cons.mp h with h | h
 ·exact .inl h
 ·split at h
  ·rename_i q
   apply bc;intro z_
   obtain ⟨p,hp,e⟩:=List.mem_filterMap.mp h
   apply z_;clear z_
   exact .inr ⟨q,p.1,e⟩
  ·first | exact nS h | exact nB h | cases h
theorem cB:env.locals∈ak env:=by unfold ak; exact LY ..
theorem dc {x:Str} {c:Addr} (hf:env.frame=some env.locals) (h:env.cells.lookup x=some c):c∈ak env:=by
 unfold ak
 rw [LV hf]
 refine LQ _ (List.mem_filterMap.mpr ⟨(x,c),mem_of_lookup h,h⟩)
theorem bh (R:Rel G X env σ s) {b:Addr} (h:b∈ak env):X.F b=none∧(∀ l o,aq l σ.st=some o→X.ρ l≠b)∧b≠G.T∧∃ o,s.heap.get? b=some o∧Obj.loose o=true:=by
 rcases hV h with rfl | ⟨hf,x,hx⟩
 ·refine ⟨R.loc.freeL.1,R.loc.freeL.2.1,R.loc.freeL.2.2,?_⟩
  apply bc;intro z_
  obtain ⟨m,cm,⟨o,es,ep,ho,hd,_⟩,_⟩:=R.loc.ns
  apply z_;clear z_
  exact ⟨o,ho,by unfold Obj.loose; rw [hd]⟩
 ·apply bc;intro z_
  obtain ⟨a,b',c,d⟩:=R.loc.freeC hf x b hx
  apply z_;clear z_
  refine ⟨a,b',d,?_⟩
  apply bc;intro z_
  obtain ⟨m,cm,_,h2,_⟩:=R.loc.ns
  obtain ⟨o,ho,hd⟩:=h2 x b hx
  apply z_;clear z_
  exact ⟨o,ho,by unfold Obj.loose; rw [hd]⟩
theorem gh (R:Rel G X env σ s):X.le n (X.frz (ak env) s.heap):=⟨fun _ _=>rfl,fun a o e=>by
 show (if a∈ak env then s.heap.get? a else X.F a)=some o
 by_cases q:a∈ak env
 ·rw [LV q]; exact R.sub _ _ e
 ·rw [LU q]; exact e,fun a o e=>by
 show (if a∈ak env then false else X.P a)=X.P a
 rw [LU (fun q=>by rw [(bh R q).1] at e; cases e)]⟩
theorem Rel.enter {lo:List (Nat×V)} {m cm:Str→Option Value} (ok:G.Ok) (R:Rel G X env σ s) (hs:∃ h tk,s1={s with heap:=h,toks:=tk}) (keep:∀ b o,s.heap.get? b=some o→s1.heap.get? b=some o)
  (hns:s1.heap.Ns env'.locals m) (fresh:s.heap.objs.size≤env'.locals) (hcell:∀ x c,env'.cells.lookup x=some c→s1.heap.IsCell c (cm x)) (apart:env'.cells.Pairwise fun x y=>x.2≠y.2) (above:∀ x c,(x,c)∈env'.cells→env'.locals<c)
  (hfr:env'.frame=some env'.locals)
  (hlo:∀ i v,aq i lo=some v→∃ x k val,env'.scope.names[i]?=some (x,k)∧RepV X σ.nx v val∧((k=.local∧m x=some val)∨((k=.cell∨k=.free)∧(env'.cells.lookup x).isSome=true∧cm x=some val))) :
  Rel G (X.frz (ak env) s.heap) env' ⟨lo,σ.st,σ.nx⟩ s1:=by
 have L:X.le σ.nx (X.frz (ak env) s.heap):=gh R
 have FF:∀ {a:Addr} {o:Obj},(X.frz (ak env) s.heap).F a=some o→s.heap.get? a=some o:=fun {a o} e=>by
  have e:(if a∈ak env then s.heap.get? a else X.F a)=some o:=e
  by_cases q:a∈ak env
  ·rw [LV q] at e; exact e
  ·rw [LU q] at e; exact R.sub _ _ e
 have FN:∀ {a:Addr},X.F a=none→a ∉ ak env→(X.frz (ak env) s.heap).F a=none:=fun {a} e q=>by
  show (if a∈ak env then s.heap.get? a else X.F a)=none
  rw [LU q]; exact e
 have big:∀ {a:Addr},s.heap.objs.size≤a→(X.frz (ak env) s.heap).F a=none:=fun {a} h=>by
  cases q:(X.frz (ak env) s.heap).F a with
  | none=>rfl
  | some o=>exact absurd (L7 (FF q)) (Mc h)
 have live:∀ {a:Addr} {l:Nat} {o:AO},s.heap.objs.size≤a→aq l σ.st=some o→X.ρ l≠a:=fun {a l o} h hl w=>by
  apply bc;intro z_
  obtain ⟨ob,z⟩:=R.there hl
  apply z_;clear z_
  rw [w] at z
  exact absurd (L7 z) (Mc h)
 have notT:∀ {a:Addr},s.heap.objs.size≤a→a≠G.T:=fun {a} h w=>by
  have:=R.tab.1
  rw [← w] at this
  exact absurd (L7 this) (Mc h)
 have cbig:∀ {x:Str} {c:Addr},env'.cells.lookup x=some c→s.heap.objs.size≤c:=fun e=>LN fresh (Nat.le_of_lt (above _ _ (mem_of_lookup e)))
 apply bc;intro z_
 obtain ⟨h',tk',rfl⟩:=hs
 apply z_;clear z_
 refine ⟨fun a o e=>keep _ _ (FF e),fun a o e q=>L.F _ _ (R.base a o e q),fun l o e=>⟨FN (R.own l o e).1 fun q=>(bh R q).2.1 l o e rfl,(R.own l o e).2⟩,R.inj,R.big,fun l o e=>⟨(R.st l o e).1,?_⟩,⟨keep _ _ R.tab.1,FN R.tab.2.1 fun q=>(bh R q).2.2.1 rfl,ok.tbmono _ _ _ (fun a o e _=>L.F _ _ e) R.tab.2.2⟩,?_,R.os,R.drawn,R.gens,fun a o e=>let ⟨z1,z2,z3,z4,z5,z6⟩:=R.hp a o e; ⟨keep _ _ z1,FN z2 (fun q=>(hV q).elim z4 fun ⟨_,x,hx⟩=>z5 x _ hx rfl),z3,fun w=>absurd (L7 z1) (Mc (by rw [w]; exact fresh)),fun x c e w=>absurd (L7 z1) (Mc (by rw [← w]; exact cbig e)),z6⟩⟩
 ·apply bc;intro z_
  obtain ⟨ob,z⟩:=(R.st l o e).2.there
  apply z_;clear z_
  exact (R.st l o e).2.go L (LR _) (fg keep z)
 ·refine ⟨⟨m,cm,hns,hcell,fun i v e=>?_⟩,⟨big fresh,fun l o e=>live fresh e,notT fresh⟩,fun _ x c e=>⟨big (cbig e),fun l o hl=>live (cbig e) hl,Mr (above _ _ (mem_of_lookup e)),notT (cbig e)⟩,fun w=>absurd hfr w,apart⟩
  apply bc;intro z_
  obtain ⟨x,k,val,a,b,c⟩:=hlo i v e
  apply z_;clear z_
  exact ⟨x,k,val,a,b.mono L (LR _),c⟩
theorem RepO.drop {h:Heap} {a:Addr} {o:AO} (hS:∀ b∈S,∀ o,X.F b=some o→eK X b o) (r:RepO G X n h a o):RepO G (X.drop S) n h a o:=r.imp (fun z=>z.drop hS) rfl
theorem Rel.leave (ok:G.Ok) (R:Rel G X env σ s) (R2:Rel G X2 env' σ2 s2) (L:(X.frz (ak env) s.heap).le σ.nx X2) (hn:σ.nx≤σ2.nx) :
  Rel G (X2.drop (ak env)) env {σ2 with lo:=σ.lo} s2∧X.le σ.nx (X2.drop (ak env))∧(∀ b∈ak env,∀ o,X2.F b=some o→eK X2 b o):=by
 have frz:∀ {b:Addr},b∈ak env→∃ o,s.heap.get? b=some o∧X2.F b=some o∧Obj.loose o=true:=fun {b} hb=>by
  apply bc;intro z_
  obtain ⟨_,_,_,o,ho,hl⟩:=bh R hb
  apply z_;clear z_
  exact ⟨o,ho,L.F b o (by show (if b∈ak env then s.heap.get? b else X.F b)=some o; rw [LV hb]; exact ho),hl⟩
 have hS:∀ b∈ak env,∀ o,X2.F b=some o→eK X2 b o:=fun b hb o e=>by
  apply bc;intro z_
  obtain ⟨o',ho',e',hl⟩:=frz hb
  apply z_;clear z_
  rw [e] at e'; cases e'
  refine ⟨hl,.inl ((L.P b o (by show (if b∈ak env then s.heap.get? b else X.F b)=some o; rw [LV hb]; exact ho')).trans ?_)⟩
  show (if b∈ak env then false else X.P b)=false
  rw [LV hb]
 have DF:∀ {a:Addr} {o:Obj},(X2.drop (ak env)).F a=some o→X2.F a=some o:=fun {a o} e=>by
  have e:(if a∈ak env then none else X2.F a)=some o:=e
  by_cases q:a∈ak env
  ·rw [LV q] at e; cases e
  ·rw [LU q] at e; exact e
 have DN:∀ {a:Addr},X2.F a=none→(X2.drop (ak env)).F a=none:=fun {a} e=>by
  show (if a∈ak env then none else X2.F a)=none
  split
  ·rfl
  ·exact e
 have D0:∀ {a:Addr},a∈ak env→(X2.drop (ak env)).F a=none:=fun q=>LV q
 have DU:∀ {a:Addr} {o:Obj},X2.F a=some o→a ∉ ak env→(X2.drop (ak env)).F a=some o:=fun {a o} e q=>by
  show (if a∈ak env then none else X2.F a)=some o
  rw [LU q]; exact e
 have up:∀ {a:Addr} {o:Obj},X.F a=some o→X2.F a=some o:=fun {a o} e=>L.F _ _ ((gh R (n:=0)).F _ _ e)
 have out:∀ {a:Addr} {o:Obj},X.F a=some o→a ∉ ak env:=fun e q=>by rw [(bh R q).1] at e; cases e
 have LL:X.le σ.nx (X2.drop (ak env)):=⟨fun l hl=>L.ρ l hl,fun a o e=>DU (up e) (out e),fun a o e=>(L.P a o ((gh R (n:=0)).F _ _ e)).trans ((gh R (n:=0)).P _ _ e)⟩
 refine ⟨⟨fun a o e=>R2.sub _ _ (DF e),fun a o e q=>DU (R2.base a o e q) (out (R.base a o e q)),fun l o e=>⟨DN (R2.own l o e).1,(R2.own l o e).2⟩,R2.inj,R2.big,fun l o e=>⟨(R2.st l o e).1,(R2.st l o e).2.drop hS⟩,⟨R2.tab.1,DN R2.tab.2.1,ok.tbmono _ _ _ (fun a o e hl=>Wd.drop_F hS e hl) R2.tab.2.2⟩,?_,R2.os,R2.drawn,R2.gens,fun a o e=>let ⟨z1,z2,z3,_,_,z6⟩:=R2.hp a o e; let ⟨_,_,_,w4,w5,_⟩:=R.hp a o e; ⟨z1,DN z2,z3,w4,w5,z6⟩⟩,LL,hS⟩
 have same:∀ {b:Addr},b∈ak env→s2.heap.get? b=s.heap.get? b:=fun hb=>by
  apply bc;intro z_
  obtain ⟨o,a,b,_⟩:=frz hb
  apply z_;clear z_
  rw [a]; exact R2.sub _ _ b
 have apart:∀ {b:Addr},b∈ak env→∀ l o,aq l σ2.st=some o→(X2.drop (ak env)).ρ l≠b:=fun {b} hb l o e w=>by
  apply bc;intro z_
  obtain ⟨o',_,c,_⟩:=frz hb
  apply z_;clear z_
  have:=(R2.own l o e).1
  have w:X2.ρ l=b:=w
  rw [w,c] at this; cases this
 refine R.loc.go LL hn (same cB) (fun x c e=>?_) ⟨D0 cB,apart cB⟩ (fun hf x c e=>⟨D0 (dc hf e),apart (dc hf e)⟩)
 by_cases hf:env.frame=some env.locals
 ·exact same (dc hf e)
 ·apply bc;intro z_
  obtain ⟨o,z⟩:=R.loc.frzC hf x c e
  apply z_;clear z_
  rw [R.sub _ _ z]; exact R2.sub _ _ (up z)
set_option tactic.hygienic true in
theorem cz (x:Str):∀ (names:List (Str×NameKind)) (n:Nat) (acc:List (Str×Addr)),(names.lookup x=some .cell∨(acc.lookup x).isSome=true)→((cellsFrom n names acc).lookup x).isSome=true
 | [],n,acc,h=>by
  rcases h with h | h
  ·simp at h
  ·exact h
 | (y,k)::r,n,acc,h=>by
  unfold cellsFrom
  rw [List.lookup_cons] at h
  by_cases q:x=y
  ·subst q
   simp only [beq_self_eq_true] at h
   split
   ·exact cz x r _ _ (.inr (by simp))
   ·rename_i hk
    refine cz x r _ _ ?_
    rcases h with h | h
    ·simp at h; subst h; simp at hk
    ·exact .inr h
  ·have:(x==y)=false:=by simpa using q
   rw [this] at h
   split
   ·exact cz x r _ _ (h.imp id fun h=>by rw [List.lookup_cons,this]; exact h)
   ·exact cz x r _ _ h
theorem kf {kindOf:Str→Option NameKind} {x:Str}:∀ {binds:List (Str×Value)} {m:Str→Option Value},x ∉ binds.map (·.1)→bindL kindOf binds m x=m x
 | [],_,_=>rfl
 | (y,v)::r,m,h=>by
  simp only [List.map_cons,List.mem_cons,not_or] at h
  unfold bindL
  rw [kf h.2]
  split
  ·exact LU h.1
  ·rfl
theorem ke {kindOf:Str→Option NameKind} {x:Str}:∀ {binds:List (Str×Value)} {m:Str→Option Value},x ∉ binds.map (·.1)→bindC kindOf binds m x=m x
 | [],_,_=>rfl
 | (y,v)::r,m,h=>by
  simp only [List.map_cons,List.mem_cons,not_or] at h
  unfold bindC
  rw [ke h.2]
  split
  ·rfl
  ·exact LU h.1
theorem eu {kindOf:Str→Option NameKind} {x:Str} {val:Value} (hk:kindOf x=some .local):∀ {binds:List (Str×Value)} {m:Str→Option Value},(binds.map (·.1)).Nodup→(x,val)∈binds→bindL kindOf binds m x=some val
 | [],_,_,h=>by cases h
 | (y,v)::r,m,nd,h=>by
  simp only [List.map_cons,List.nodup_cons] at nd
  rcases List.mem_cons.mp h with e | h
  ·first | exact nS e | exact nB e | cases e
   unfold bindL
   rw [kf nd.1,LV hk,LV rfl]
  ·unfold bindL; exact eu hk nd.2 h
theorem lX {kindOf:Str→Option NameKind} {x:Str} {val:Value} (hk:kindOf x=some .cell):∀ {binds:List (Str×Value)} {m:Str→Option Value},(binds.map (·.1)).Nodup→(x,val)∈binds→bindC kindOf binds m x=some val
 | [],_,_,h=>by cases h
 | (y,v)::r,m,nd,h=>by
  simp only [List.map_cons,List.nodup_cons] at nd
  rcases List.mem_cons.mp h with e | h
  ·first | exact nS e | exact nB e | cases e
   unfold bindC
   rw [ke nd.1,LU (by rw [hk]; decide),LV rfl]
  ·unfold bindC; exact lX hk nd.2 h
inductive BindsOk (names:List (Str×NameKind)) (X:Wd) (n:Nat):List (Nat×V)→List (Str×Value)→Prop
 | nil:BindsOk names X n [] []
 | cons {i:Nat} {v:V} {x:Str} {val:Value} {k:NameKind} {lo:List (Nat×V)} {binds:List (Str×Value)} (h:names[i]?=some (x,k)) (hk:k=.local∨k=.cell) (W:RepV X n v val) (r:BindsOk names X n lo binds):BindsOk names X n ((i,v)::lo) ((x,val)::binds)
set_option tactic.hygienic true in
theorem BindsOk.look {names:List (Str×NameKind)} {X:Wd} {n:Nat} {lo:List (Nat×V)} {binds:List (Str×Value)} (h:BindsOk names X n lo binds) {i:Nat} {v:V} (e:aq i lo=some v) :
  ∃ x k val,names[i]?=some (x,k)∧(k=.local∨k=.cell)∧RepV X n v val∧(x,val)∈binds:=by
 induction h with
 | nil=>cases e
 | cons h hk W r ih=>
  rw [ax] at e
  split at e
  ·rename_i q
   subst q
   cases e
   exact ⟨_,_,_,h,hk,W,LY ..⟩
  ·apply bc;intro z_
   obtain ⟨x,k,val,a,b,c,d⟩:=ih e
   apply z_;clear z_
   exact ⟨x,k,val,a,b,c,LQ _ d⟩
theorem BindsOk.names {names:List (Str×NameKind)} {X:Wd} {n:Nat} {lo:List (Nat×V)} {binds:List (Str×Value)} (h:BindsOk names X n lo binds):∀ p∈binds,∃ (i:Nat) (k:NameKind),names[i]?=some (p.1,k)∧(k=.local∨k=.cell):=by
 induction h with
 | nil=>intro p hp; cases hp
 | cons h hk W r ih=>
  intro p hp
  rcases List.mem_cons.mp hp with rfl | hp
  ·exact ⟨_,_,h,hk⟩
  ·exact ih p hp
theorem dg {names:List (Str×NameKind)} (nd:(names.map (·.1)).Nodup) {i:Nat} {x:Str} {k:NameKind} (h:names[i]?=some (x,k)):names.lookup x=some k:=by
 induction names generalizing i with
 | nil=>simp at h
 | cons y r ih=>
  obtain ⟨y,ky⟩:=y
  simp only [List.map_cons,List.nodup_cons] at nd
  cases i with
  | zero=>simp at h; obtain ⟨rfl,rfl⟩:=h; simp [List.lookup_cons]
  | succ i=>
   simp at h
   have hm:x∈r.map (·.1):=List.mem_map.mpr ⟨(x,k),Mh h,rfl⟩
   have hne:(x==y)=false:=by
    cases q:x==y with
    | false=>rfl
    | true=>rw [beq_iff_eq.mp q] at hm; exact absurd hm nd.1
   rw [List.lookup_cons,hne]; exact ih nd.2 h
noncomputable def qd (fl:Fl):V:=match fl with
 | .ret v=>v
 | _=>.non
structure FnOk (G:Glob) (f:Addr) (fd:FuncData) (body:List PySem.Stmt) (sc:Sc):Prop where
 at_:∃ o,G.K.lookup f=some o∧o.data=.func fd
 body:fd.body=.stmts body
 clo:fd.closure=[]
 gl:fd.globals=mainGlobals
 bi:fd.builtins=builtinsNs
 co:fd.scope.isCoroutine=false
 gen:fd.scope.isGenerator=false
 kind:fd.scope.kind=.function
 code:∃ c oc vs t,fd.code=.ref c∧G.K.lookup c=some oc∧oc.data=.fields vs∧vs[1]?=some (.str fd.qualname t)
 names:sc.names=fd.scope.names
 fn:sc.fn=true
 nd:(sc.names.map (·.1)).Nodup
 codeSc:sc.code≠0→fd.code=.ref sc.code∧sc.qual=fd.qualname++".<locals>."
noncomputable abbrev Le:=List V→List V→St→(List (Nat×V)→St→Prop)→Prop
inductive BindEnd (G:Glob) (X:Wd) (env:Env) (σ:St) (sc:Sc) (K:List (Nat×V)→St→Prop) (h:Heap) (binds:List (Str×Value)) (s1:Shared):Prop
 | mk (lo:List (Nat×V)) (σ1:St) (X1:Wd) (q:K lo σ1) (L:X.le σ.nx X1) (hn:σ.nx≤σ1.nx) (elo:σ1.lo=σ.lo) (R:Rel G X1 env σ1 s1) (B:BindsOk sc.names X1 σ1.nx lo binds) (nd:(binds.map (·.1)).Nodup) (kb:∀ b o,h.get? b=some o→s1.heap.get? b=some o)
inductive FnEnd (G:Glob) (X:Wd) (env:Env) (n:Nat) (Q:V→St→Prop) (h:Heap) (r:Result) (s':Shared):Prop
 | mk (v:Value) (e:r=.ok (.ret v)) (z:Post G X env n Q v s') (same:∀ b∈ak env,s'.heap.get? b=h.get? b)
noncomputable def J3 (G:Glob) (fd:FuncData) (sc:Sc) (ks:List Str) (d:Le):Prop:=∀ vs kvs σ K,d vs kvs σ K→∀ A env X s vals kvals,Rel G X env σ s→RepVs X σ.nx vs vals→RepVs X σ.nx kvs kvals →
 wpAny (model G.prog G.w) A (bindArgs fd ⟨vals,ks.zip kvals⟩) (BindEnd G X env σ sc K s.heap) bg s
noncomputable def FN (G:Glob) (lv:Nat) (f:Addr) (ks:List Str) (D:List V→List V→DE):Prop:=(∃ o fd,G.K.lookup f=some o∧o.data=.func fd)∧∀ vs kvs σ Q,D vs kvs σ Q→∀ A env X s vals kvals,AOk lv A→Rel G X env σ s→RepVs X σ.nx vs vals→RepVs X σ.nx kvs kvals →
 codeAny (model G.prog G.w) A (.call (.ref f) ⟨vals,ks.zip kvals⟩) (FnEnd G X env σ.nx Q s.heap) s
theorem FN.cb {f:Addr} {ks:List Str} {D:List V→List V→DE} (ok:G.Ok) (h:FN G lv f ks D):CB G lv (.ref f) ks D:=fun vs kvs σ Q hd A env X s vals kvals ha R W Wk=>by
 apply bc;intro z_
 obtain ⟨⟨o,fd,ho,hdat⟩,h⟩:=h
 apply z_;clear z_
 refine ⟨fun Q' k=>?_,wpAny_call (codeAny_mono (h vs kvs σ Q hd A env X s vals kvals ha R W Wk) fun r s' ⟨v,e,z,_⟩=>by subst e; exact z)⟩
 unfold keeperOf
 refine LD (LK (R.K ok _ _ ho) ?_)
 rw [hdat]
 exact LE (k .frame (by decide))
theorem Rel.leave_same (R:Rel G X env σ s) (R2:Rel G X2 env' σ2 s2) (L:(X.frz (ak env) s.heap).le n X2):∀ b∈ak env,s2.heap.get? b=s.heap.get? b:=fun b hb=>by
 apply bc;intro z_
 obtain ⟨_,_,_,o,ho,hl⟩:=bh R hb
 apply z_;clear z_
 rw [ho]
 exact R2.sub _ _ (L.F b o (by show (if b∈ak env then s.heap.get? b else X.F b)=some o; rw [LV hb]; exact ho))
theorem bf {f:Addr} {fd:FuncData} {body:List PySem.Stmt} {ks:List Str} {bd:Le} {db:DS} (ok:G.Ok) (F:FnOk G f fd body sc) (hbd:J3 G fd sc ks bd) (hb:iQ G lv sc body db) :
  FN G (lv+1) f ks (fun vs kvs σ Q=>bd vs kvs σ fun lo σ1=>db ⟨lo,σ1.st,σ1.nx⟩ fun fl σ'=>Q (qd fl) {σ' with lo:=σ.lo}):=by
 apply bc;intro z_
 obtain ⟨⟨o,ho,hdat⟩,hbody,hclo,hgl,hbi,hco,hgen,hkd,⟨c,oc,cvs,t,hc1,hc2,hc3,hc4⟩,hnm,hfn,hnd,hcs⟩:=F
 apply z_;clear z_
 refine ⟨⟨o,fd,ho,hdat⟩,fun vs kvs σ Q hd A env X s vals kvals ha R W Wk=>?_⟩
 have hroom:A.depth<recursionLimit:=ha.room
 refine codeAny_call_function hroom (R.K ok _ _ ho) hdat hco hgen hbody ⟨c,oc,cvs,t,hc1,R.K ok _ _ hc2,hc3,hc4⟩ ?_
 refine LF (hbd vs kvs σ _ hd A.in1 env X s vals kvals R W Wk) (fun binds s1 y_=>?_) fun _ _ z=>z.elim
 apply bc;intro z_
 obtain ⟨lo,σ1,X1,q1,L1,n1,elo,R1,B,ndb,kb⟩:=y_
 apply z_;clear z_
 rw [hclo,hgl,hbi]
 refine wpAny_newFunctionEnv_cells hkd (fun p hp=>?_) fun env' he' s2 x=>?_
 ·apply bc;intro z_
  obtain ⟨i,k,h,hk⟩:=B.names p hp
  apply z_;clear z_
  have hl:=dg hnd h
  rw [hnm] at hl
  rcases hk with rfl | rfl
  ·exact .inl hl
  ·exact .inr ⟨hl,cz _ _ _ _ (.inl hl)⟩
 ·apply bc;intro z_
  obtain ⟨⟨hsame,hns,hkeep,hfresh⟩,hcell,hapart,habove⟩:=x
  apply z_;clear z_
  have hkof:∀ {i:Nat} {x:Str} {k:NameKind},sc.names[i]?=some (x,k)→env'.kindOf x=some k:=fun h=>by
   have:=dg hnd h
   rw [hnm] at this
   rw [he']; exact this
  have eC:env'.cells=cellsFrom (s1.heap.objs.size+1) fd.scope.names []:=by rw [he']; rfl
  have R2:=R1.enter (s1:=s2) (env':=env') (lo:=lo) ok hsame hkeep hns hfresh hcell hapart habove (by rw [he']; rfl) (fun i v e=>by
   apply bc;intro z_
   obtain ⟨x,k,val,h,hk,Wv,hm⟩:=B.look e
   apply z_;clear z_
   refine ⟨x,k,val,by rw [he']; show fd.scope.names[i]?=_; rw [← hnm]; exact h,Wv,?_⟩
   rcases hk with rfl | rfl
   ·exact .inl ⟨rfl,eu (hkof h) ndb hm⟩
   ·refine .inr ⟨.inl rfl,?_,lX (hkof h) ndb hm⟩
    rw [eC]
    have hl:=dg hnd h
    rw [hnm] at hl
    exact cz _ _ _ _ (.inl hl))
  have hE:EOk sc env':=by
   refine ⟨by rw [he']; exact hnm.symm,by rw [he']; exact hkd,by rw [he']; rfl,by rw [he']; rfl,hnd,fun _=>by rw [he']; rfl,fun x hx=>?_,fun h=>by rw [he']; exact ⟨(hcs h).1,(hcs h).2.symm⟩⟩
   rw [eC]
   rw [hnm] at hx
   exact cz _ _ _ _ (.inl hx)
  have hA:AOk lv (A.deeper env'):=ha.up 1 3 rfl rfl rfl (by decide) (by decide)
  refine ⟨(R1.nolimit ok).keeps hkeep,codeAny_func ?_⟩
  refine LF (hb ⟨lo,σ1.st,σ1.nx⟩ _ q1 (A.deeper env') env' _ s2 hA hE R2) (fun fl s3 y_=>?_) fun _ _ z=>z.elim
  apply bc;intro z_
  obtain ⟨fv,σ3,X3,q3,L3,n3,R3,W3⟩:=y_
  obtain ⟨R4,L4,hS⟩:=R1.leave ok R3 L3 n3
  apply z_;clear z_
  rw [elo] at R4
  refine ⟨_,rfl,⟨_,_,_,q3,L1.trans L4 n1,LN n1 n3,R4,?_⟩,fun b hb=>?_⟩
  rotate_left
  ·apply bc;intro z_
   obtain ⟨_,_,_,o,ho,_⟩:=bh R hb
   apply z_;clear z_
   exact (R1.leave_same R3 L3 b hb).trans ((kb b o ho).trans ho.symm)
  cases W3 with
  | next=>exact .non
  | brk=>exact .non
  | cont=>exact .non
  | ret v val W=>exact W.drop hS
inductive PS where
 | pos (k:Nat)
 | kw (k:Nat)
 | dfl (v:V) (val:Value)
noncomputable def Lo (p:PS) (vs kvs:List V):V:=match p with
 | .pos k=>(match fV vs k with | some v=>v | none=>.non)
 | .kw k=>(match fV kvs k with | some v=>v | none=>.non)
 | .dfl v _=>v
noncomputable def AD (p:PS) (vals kvals:List Value):Value:=match p with
 | .pos k=>(match fV vals k with | some v=>v | none=>.none)
 | .kw k=>(match fV kvals k with | some v=>v | none=>.none)
 | .dfl _ val=>val
theorem qa {vs:List V} {vals:List Value} (W:RepVs X n vs vals) (k:Nat):RepV X n (match fV vs k with | some v=>v | none=>.non) (match fV vals k with | some v=>v | none=>.none):=by
 induction vs generalizing vals k with
 | nil=>cases W; exact .non
 | cons v r ih=>
  cases W with
  | cons a b=>
   cases k with
   | zero=>exact a
   | succ k=>exact ih b k
theorem aX {fd:FuncData} {ks:List Str} {np:Nat} {ps:List (Nat×PS)} {xs:List Str} (ok:G.Ok) (hl:xs.length=ps.length)
  (hx:∀ (j i:Nat) (p:PS) (x:Str),ps[j]?=some (i,p)→xs[j]?=some x→sc.names[i]?=some (x,NameKind.local)∨sc.names[i]?=some (x,NameKind.cell)) (nd:xs.Nodup)
  (hd:∀ (i:Nat) (v:V) (val:Value),(i,PS.dfl v val)∈ps→∀ X n,RepV X n v val)
  (hb:∀ (h:Heap) (vals kvals:List Value),G.K.In h→vals.length=np→kvals.length=ks.length→Looks (model G.prog G.w) h (bindArgs fd ⟨vals,ks.zip kvals⟩) (xs.zip (ps.map fun p=>AD p.2 vals kvals))) :
  J3 G fd sc ks (fun vs kvs σ K=>onT (Nat.beq vs.length np) (onT (Nat.beq kvs.length ks.length) (K (ps.map fun p=>(p.1,Lo p.2 vs kvs)) σ))):=fun vs kvs σ K hd' A env X s vals kvals R W Wk=>by
   apply bc;intro z_
   obtain ⟨q1,hd2⟩:=onT.out hd'
   obtain ⟨q2,hd3⟩:=onT.out hd2
   apply z_;clear z_
   refine (hb s.heap vals kvals (R.K ok) (by rw [W.length]; exact L8 q1) (by rw [Wk.length]; exact L8 q2)).here ⟨_,σ,X,hd3,.refl,LR _,rfl,R,?_,?_,fun _ _ e=>e⟩
   ·clear hd' hd2 hd3 hb nd
    induction ps generalizing xs with
    | nil=>
     cases xs with
     | nil=>exact .nil
     | cons=>simp at hl
    | cons p r ih=>
     cases xs with
     | nil=>simp at hl
     | cons x xs=>
      apply bc;intro z_
      obtain ⟨i,p⟩:=p
      apply z_;clear z_
      have hW:RepV X σ.nx (Lo p vs kvs) (AD p vals kvals):=by
       cases p with
       | pos k=>exact qa W k
       | kw k=>exact qa Wk k
       | dfl v val=>exact hd i v val (by simp) _ _
      have ih:=ih (xs:=xs) (by simpa using hl) (fun j i p x a b=>hx (j+1) i p x (by simpa using a) (by simpa using b)) (fun i v val h=>hd i v val (LQ _ h))
      rcases hx 0 i p x rfl rfl with h | h
      ·exact .cons h (.inl rfl) hW ih
      ·exact .cons h (.inr rfl) hW ih
   ·rw [List.map_fst_zip (by simp [hl])]; exact nd
theorem rq (C:Addr) (rest:List Value) (kw:List (Str×Value)):(Code.builtin "type.__call__" ⟨.ref C::rest,kw⟩).weight=1:=by kernel_rfl
theorem vW (C:Addr) (rest:List Value) (kw:List (Str×Value)):(Code.builtin "type.__call__" ⟨.ref C::rest,kw⟩).cUnits=1:=by kernel_rfl
theorem om {K:Frag} {C f:Addr} {g:Value} {name:Str} {od:Obj} (hh:hasDictIn K C=true) (ha:findIn K (.ref C) name=some (some (.ref f))) (hg:specialIn K (.ref f) "__get__"=some (some g)) (ht:takesIn K (.ref f)=some false)
  (hc:copiedNames.contains name=false) (hl:lookIn name od=some none):findObj K C (some od) name=some (.bind g (.ref f)):=by
 apply bc;intro z_
 obtain ⟨cd,hc',hd⟩:=any_some hh
 apply z_;clear z_
 unfold findObj
 have ho:W.ownOf cd (some od) name=some none:=by unfold W.ownOf; rw [LV hd]; exact hl
 rw [hc',Option.bind_some,ha,Option.bind_some]
 simp only [hg,ht,Option.bind_some,ho,hc,Bool.false_and,Bool.false_eq_true,if_false]
noncomputable def CJ (C0 j f:Nat) (v:V) (σ:St) (Q:V→St→Prop):Prop:=mD C0 v σ fun l at_=>noS (aq j at_) (Q (.pm f C0 l) σ)
theorem JZ {e:PySem.Expr} {name:Str} {p:Pos} {d:DE} {C0 j f:Nat} (ok:G.Ok) (hC:ClsOk G.K C0) (hj:G.an[j]?=some name) (hf:findIn G.K (.ref C0) name=some (some (.ref f))) (ht:typeIn G.K (.ref f)=some (.type "function"))
  (hg:specialIn G.K (.ref f) "__get__"=some (some (.builtin "function.__get__"))) (htk:takesIn G.K (.ref f)=some false) (hc:copiedNames.contains name=false) (he':SE G lv sc e d) (hb:∀ env,attributeBase e name env (eval e env)=eval e env) :
  SE G lv sc (.Attribute e name p) (fun σ Q=>d σ fun v σ1=>CJ C0 j f v σ1 Q):=fun σ Q hd A env X s ha he R=>
 et he' hb hd ha he R fun val s1 v σ1 X1 k1 L1 n1 R1 W1=>by
  apply bc;intro z_
  obtain ⟨l,a,at_,od,m,rfl,hl,rfl,hF,hk,I,h1,h2,h3,ho',hlk,k2⟩:=fF k1 R1 W1
  obtain ⟨q,k2⟩:=noS.out k2
  apply z_;clear z_
  have h4:=h3 j name hj
  rw [q] at h4
  dsimp only at h4
  refine get_bind (R1.K ok) I hC.hga (om hC.hd hf hg htk hc (by rw [hlk,h4])) hC.hk (wpAny_call ?_)
  have R2:=R1.toks (s1.toks+1)
  refine fn_get (R2.K ok) ht ?_
  show wpAny _ _ (handedOut _) _ _ _
  refine LE ?_
  apply bc;intro z_
  obtain ⟨R3,L3⟩:=R2.still (s':={s1 with toks:=s1.toks+1,heap:=s1.heap.push (methodObj (.ref f) (.ref a))}) aL (fun _ _ e=>LM _ e) (LT _ rfl) rfl rfl R1.gens ok
  apply z_;clear z_
  exact ⟨_,σ1,_,k2,L1.trans L3 n1,n1,R3,.pm f C0 l _ a hl (LV rfl) (L3.F _ _ hF)⟩
theorem IO {f C l:Nat} {a b:Addr} {ks:List Str} {D:List V→List V→DE} (h:FN G lv f ks D) (ok:G.Ok) (ha':X.F a=some (methodObj (.ref f) (.ref b))) (hb:X.F b=some (instObj C (X.ρ l))) (hl:l<n) :
  CFok G lv env X n (.ref a) [] ks (fun vs kvs=>D (.obj C l::vs) kvs):=by
 apply bc;intro z_
 obtain ⟨⟨o,fd,ho,hdat⟩,h⟩:=h
 apply z_;clear z_
 intro A X2 σ2 s2 vs kvs Q vals kvals ha L hn hd R2 Wv Wk
 have hm:=R2.sub _ _ (L.F _ _ ha')
 refine ⟨fun Q' k=>?_,?_⟩
 ·unfold keeperOf
  refine LD (LK hm ?_)
  dsimp only
  rw [LU (by decide)]
  refine LD (LK (R2.K ok _ _ ho) ?_)
  rw [hdat]
  exact LE (k .boundFrame (by decide))
 ·rw [List.nil_append]
  have W0:RepV X2 σ2.nx (.obj C l) (.ref b):=(RepV.obj C l b hl hb).mono L hn
  exact wpAny_call (method_call hm (codeAny_mono (h (.obj C l::vs) kvs σ2 Q hd A env X2 s2 (.ref b::vals) kvals ha R2 (.cons W0 Wv) Wk) fun r s' ⟨v,e,z,_⟩=>by subst e; exact z))
theorem JX {x:Str} {i:Nat} {k:NameKind} {np:Pos} {f C:Nat} {ks:List Str} {D:List V→List V→DE} (ok:G.Ok) (hx:sc.names[i]?=some (x,k)) (hdb:(x==("__debug__":Str))=false) (hcd:(x==("__classdict__":Str))=false) (h:FN G lv f ks D) :
  Hv G lv sc (.Name x np) ks (fun σ K=>gi i σ fun v σ1=>D7 v fun f' C' l=>onT (Nat.beq f' f) (K (fun vs kvs=>D (.obj C' l::vs) kvs) σ1)):=fun σ K hd A env X s ha he R=>by
 refine (rS hx hdb hcd).run hd ha he R fun val s1 v σ1 X1 k1 L1 n1 R1 W1=>?_
 refine W1.pm_ k1 fun f' C' l a b hl o ob k1=>?_
 apply bc;intro z_
 obtain ⟨q,k2⟩:=onT.out k1
 apply z_;clear z_
 cases L8 q
 exact ⟨_,σ1,X1,k2,L1,n1,R1,IO h ok o ob hl⟩
theorem JW {x:Str} {i:Nat} {k:NameKind} {np:Pos} (hx:sc.names[i]?=some (x,k)) (hdb:(x==("__debug__":Str))=false) (hcd:(x==("__classdict__":Str))=false) :
  Hv G lv sc (.Name x np) [] (fun σ K=>gi i σ fun v σ1=>xC v fun l=>K (fun vs _=>wO l vs) σ1):=fun σ K hd A env X s ha he R=>by
 refine (rS hx hdb hcd).run hd ha he R fun val s1 v σ1 X1 k1 L1 n1 R1 W1=>?_
 exact W1.bm_ k1 fun l a hl o k1=>⟨_,σ1,X1,k1,L1,n1,R1,Aj o hl⟩
theorem J1 {o:PySem.Expr} {name:Str} {do_:DE} {C0 i:Nat} (ok:G.Ok) (hC:ClsOk G.K C0) (hi:G.an[i]?=some name) (hn:findIn G.K (.ref C0) name=some none) (ho:SE G lv sc o do_) :
  SM G lv sc o name [] (fun σ K=>do_ σ fun v σ1=>pz C0 i v σ1 fun w σ2=>xC w fun l=>K (fun vs _=>wO l vs) σ2):=fun σ K hd A env X s ha he R=>by
 refine ho.run hd ha he R fun ov s1 v σ1 X1 k1 L1 n1 R1 W1=>fun pl Q' k=>?_
 have k1':=k1
 apply bc;intro z_
 obtain ⟨l,a,at_,od,m,rfl,hl,rfl,hF,hk,I,_⟩:=fF k1' R1 W1
 apply z_;clear z_
 refine method_usual (R1.K ok) I hC.hga hC.hk hn rfl ?_
 refine LF (jn ok hC hi hn k1 R1 W1) (fun val s2 y_=>?_) fun _ _ z=>z
 apply bc;intro z_
 obtain ⟨w,σ2,X2,q2,L2,n2,R2,W2⟩:=y_
 apply z_;clear z_
 exact W2.bm_ q2 fun l' a' hl' o' q2=>k _ _ _ _ _ _ q2 (L1.trans L2 n1) (LN n1 n2) R2 (Aj o' hl')
theorem RepV.none_of {v:V} {val:Value} (W:RepV X n v val) (h:ml v=true):val=.none:=by
 cases v with
 | non=>exact W.inv
 | _=>first | exact nS h | exact nB h | cases h
noncomputable def CBs (G:Glob) (lv:Nat) (f:Value) (ks:List Str) (D:List V→List V→DE):Prop:=∀ vs kvs σ Q,D vs kvs σ Q→∀ A env X s vals kvals,AOk lv A→Rel G X env σ s→RepVs X σ.nx vs vals→RepVs X σ.nx kvs kvals →
 (∀ Q':Keeper→Shared→Prop,(∀ k,k≠Keeper.caller→Q' k s)→wpAny (model G.prog G.w) A (keeperOf f) Q' bg s)∧wpAny (model G.prog G.w) A (call f vals (ks.zip kvals)) (fun r s'=>Post G X env σ.nx Q r s'∧∀ b∈ak env,s'.heap.get? b=s.heap.get? b) bg s
theorem CBs.cb {f:Value} {ks:List Str} {D:List V→List V→DE} (h:CBs G lv f ks D):CB G lv f ks D:=fun vs kvs σ Q hd A env X s vals kvals ha R W Wk=>
 ⟨(h vs kvs σ Q hd A env X s vals kvals ha R W Wk).1,LF (h vs kvs σ Q hd A env X s vals kvals ha R W Wk).2 (fun _ _ z=>z.1) fun _ _ z=>z⟩
noncomputable def sI (C:Nat) (D:List V→List V→DE) (vs kvs:List V) (σ:St) (Q:V→St→Prop):Prop:=D (.obj C σ.nx::vs) kvs {σ with st:=(σ.nx,.ns [])::σ.st,nx:=σ.nx+1} fun r σ'=>onT (ml r) (Q (.obj C σ.nx) σ')
set_option tactic.hygienic true in
theorem g9 {C fI:Addr} {ks:List Str} {D:List V→List V→DE} (ok:G.Ok) (hm:makesIn G.K C=true) (hi:findIn G.K (.ref C) "__init__"=some (some (.ref fI))) (hf:typeIn G.K (.ref fI)=some (.type "function"))
  (hkeep:specialIn G.K (.ref C) "__call__"=some (some (.builtin "type.__call__"))) (hc:(clsIn G.K C).isSome=true) (h:FN G lv fI ks D) :
  CBs G (lv+1) (.ref C) ks (sI C D):=fun vs kvs σ Q hd A env X s vals kvals ha R W Wk=>by
 constructor
 ·intro Q' k
  apply bc;intro z_
  obtain ⟨cd,hc⟩:=Option.isSome_iff_exists.mp hc
  have hl:∃ oc od sl,G.K.lookup C=some ⟨oc,od,.cls cd,sl⟩:=by
   unfold clsIn at hc
   split at hc
   ·rename_i q; cases hc; exact ⟨_,_,_,q⟩
   ·first | exact nS hc | exact nB hc | cases hc
  obtain ⟨oc,od,sl,hl⟩:=hl
  apply z_;clear z_
  unfold keeperOf
  refine LD (LK (R.K ok _ _ hl) ?_)
  dsimp only
  refine LD ((looks_specialIn (R.K ok) hkeep).here ?_)
  refine LE ?_
  rw [show (some (Value.builtin "type.__call__")==some (Value.builtin "type.__call__"))=true by decide +kernel,LV rfl]
  exact k .machine (by decide)
 ·have he:s.heap.get? s.heap.objs.size=none:=aL
  apply bc;intro z_
  obtain ⟨R1,L1⟩:=R.anew (o:=.ns []) (s':={s with heap:=s.heap.push emptyDict}) he (R.size ok) (fun _ _ e=>LM _ e)
   (fun X' L=>⟨fun _=>none,(Heap.Ns1.of_empty (Heap.Ns.new s.heap (.type "dict"))),fun y hy=>absurd rfl hy,fun i x hx=>rfl⟩) rfl rfl R.gens
  apply z_;clear z_
  have hz:(s.heap.push emptyDict).objs.size=s.heap.objs.size+1:=Heap.size_push ..
  obtain ⟨R2,L2⟩:=R1.still (s':={s with heap:=(s.heap.push emptyDict).push (instObj C s.heap.objs.size)}) (a:=s.heap.objs.size+1) (o:=instObj C s.heap.objs.size) (by rw [← hz]; exact aL) (fun _ _ e=>LM _ e) (by rw [← hz]; exact LT _ rfl) rfl rfl R.gens ok
  have L12:=L1.trans L2 (Mj _)
  have hF:(fun l=>if l=σ.nx then s.heap.objs.size else X.ρ l) σ.nx=s.heap.objs.size:=LV rfl
  have WO:RepV _ (σ.nx+1) (.obj C σ.nx) (.ref (s.heap.objs.size+1)):=RepV.obj (X:={({X with ρ:=fun l=>if l=σ.nx then s.heap.objs.size else X.ρ l}:Wd) with F:=fun b=>if b=s.heap.objs.size+1 then some (instObj C s.heap.objs.size) else X.F b}) C σ.nx (s.heap.objs.size+1) (LX _) (by
   show (if s.heap.objs.size+1=s.heap.objs.size+1 then some (instObj C s.heap.objs.size) else X.F _)=some (instObj C (if σ.nx=σ.nx then s.heap.objs.size else X.ρ σ.nx))
   rw [LV rfl,LV rfl])
  have hA:AOk lv (A.under (.builtin "type.__call__" ⟨.ref C::vals,ks.zip kvals⟩)):=ha.up 1 1 rfl (congrArg (A.depth+·) (rq ..)) (congrArg (A.units+·) (vW ..)) (by decide) (by decide)
  refine wpAny_call ?_
  refine make_core (makes_of (R.K ok) hm) (looks_findIn (R.K ok) hi) (fun self=>bind_fn (R.K ok) self hf) (.inl rfl) ?_
  refine codeAny_mono (h.2 (.obj C σ.nx::vs) kvs _ _ hd _ env _ _ (.ref (s.heap.objs.size+1)::vals) kvals hA R2 (.cons WO (W.mono L12 (Mj _))) (Wk.mono L12 (Mj _))) fun r s' y_=>?_
  apply bc;intro z_
  obtain ⟨rv',e,z,same⟩:=y_
  subst e
  obtain ⟨rv,σ3,X3,q3,L3,n3,R3,W3⟩:=z
  obtain ⟨z3,q3⟩:=onT.out q3
  apply z_;clear z_
  cases W3.none_of z3
  refine ⟨rfl,⟨_,σ3,X3,q3,L12.trans L3 (Mj _),LN (Mj _) n3,R3,WO.mono L3 n3⟩,fun b hb=>(same b hb).trans ?_⟩
  apply bc;intro z_
  obtain ⟨_,_,_,o,ho,_⟩:=bh R hb
  apply z_;clear z_
  exact (LM _ (LM _ ho)).trans ho.symm
theorem lQ {C fI:Addr} {ks:List Str} {D:List V→List V→DE} (ok:G.Ok) (hm:makesIn G.K C=true) (hi:findIn G.K (.ref C) "__init__"=some (some (.ref fI))) (hf:typeIn G.K (.ref fI)=some (.type "function"))
  (hkeep:specialIn G.K (.ref C) "__call__"=some (some (.builtin "type.__call__"))) (hc:(clsIn G.K C).isSome=true) (h:FN G lv fI ks D) :
  CB G (lv+1) (.ref C) ks (sI C D):=(g9 ok hm hi hf hkeep hc h).cb
noncomputable def iq (names fX:List (Str×NameKind)):List (Str×NameKind):=names.map fun (n,k)=>if (k==NameKind.free && fX.lookup n==some NameKind.cell) then (n,NameKind.cell) else (n,k)
theorem vu {scope:Scope} (he:EOk sc env):(relabel scope env).names=iq scope.names sc.names:=by
 unfold relabel iq
 dsimp only
 congr 1
 funext p
 obtain ⟨x,k⟩:=p
 have h1:env.scope.kind=.function:=he.kind
 have h2:env.kindOf x=sc.names.lookup x:=by show env.scope.names.lookup x=_; rw [he.names]
 rw [h1,h2]
 simp
theorem la {env:Env}:∀ (names:List (Str×NameKind)) (acc:List (Str×Addr)),(names.map (·.1)).Nodup→(∀ n∈acc.map (·.1),n ∉ names.map (·.1))→(acc.map (·.1)).Nodup→(∀ x c,(x,c)∈acc→env.cells.lookup x=some c) →
  (∀ x,(x,NameKind.free)∈names→∃ c,env.cells.lookup x=some c) →
  ∃ cl,(forIn names acc fun (p:Str×NameKind) (cs:List (Str×Addr))=>(if p.2==NameKind.free then (do let a ← cellOf env p.1; pure (ForInStep.yield ((p.1,a)::cs))) else pure (ForInStep.yield cs):Sem (ForInStep (List (Str×Addr)))))=pure cl ∧
   (∀ x c,(x,c)∈cl→env.cells.lookup x=some c)∧(cl.map (·.1)).Nodup∧(∀ x,(x,NameKind.free)∈names→x∈cl.map (·.1))∧(∀ x∈acc.map (·.1),x∈cl.map (·.1))
 | [],acc,_,_,nd,ha,_=>⟨acc,rfl,ha,nd,fun x h=>(nomatch h),fun x h=>h⟩
 | (y,k)::r,acc,ndn,hdis,nd,ha,hf=>by
  simp only [List.map_cons,List.nodup_cons] at ndn
  by_cases hk:k=.free
  ·subst hk
   apply bc;intro z_
   obtain ⟨c,hc⟩:=hf y (LY ..)
   have hcell:cellOf env y=pure c:=by unfold cellOf; rw [hc]
   obtain ⟨cl,e,h1,h2,h3,h4⟩:=la r ((y,c)::acc) ndn.2 (fun x hx=>by
    rcases List.mem_cons.mp hx with rfl | hx
    ·exact ndn.1
    ·exact fun w=>hdis x hx (LQ _ w)) (by
    simp only [List.map_cons,List.nodup_cons]
    exact ⟨fun w=>hdis y w (LY ..),nd⟩) (fun x c' hx=>by
    rcases List.mem_cons.mp hx with e | hx
    ·cases e; exact hc
    ·exact ha x c' hx) (fun x hx=>hf x (LQ _ hx))
   apply z_;clear z_
   refine ⟨cl,?_,h1,h2,fun x hx=>?_,fun x hx=>h4 x (LQ _ hx)⟩
   ·rw [List.forIn_cons]
    simp only [beq_self_eq_true,if_true,hcell,pure_bind]
    exact e
   ·rcases List.mem_cons.mp hx with e | hx
    ·cases e; exact h4 _ (LY ..)
    ·exact h3 x hx
  ·apply bc;intro z_
   obtain ⟨cl,e,h1,h2,h3,h4⟩:=la r acc ndn.2 (fun x hx w=>hdis x hx (LQ _ w)) nd ha (fun x hx=>hf x (LQ _ hx))
   apply z_;clear z_
   refine ⟨cl,?_,h1,h2,fun x hx=>?_,h4⟩
   ·rw [List.forIn_cons]
    have:(k==NameKind.free)=false:=by simpa using hk
    simp only [this,Bool.false_eq_true,if_false,pure_bind]
    exact e
   ·rcases List.mem_cons.mp hx with e | hx
    ·cases e; exact absurd rfl hk
    ·exact h3 x hx
theorem oG {l:List (Str×Addr)} {x:Str} {c:Addr} (nd:(l.map (·.1)).Nodup) (h:(x,c)∈l):l.lookup x=some c:=by
 induction l with
 | nil=>cases h
 | cons p r ih=>
  obtain ⟨y,d⟩:=p
  simp only [List.map_cons,List.nodup_cons] at nd
  rcases List.mem_cons.mp h with e | h2
  ·cases e; simp [List.lookup_cons]
  ·have:(x==y)=false:=by
    cases q:x==y with
    | false=>rfl
    | true=>
     rw [beq_iff_eq] at q
     subst q
     exact absurd (show x∈r.map (·.1) from List.mem_map.mpr ⟨(x,c),h2,rfl⟩) nd.1
   rw [List.lookup_cons,this]; exact ih nd.2 h2
theorem wQ {scope:Scope} (nd:(scope.names.map (·.1)).Nodup) (hf:∀ x,(x,NameKind.free)∈scope.names→∃ c,env.cells.lookup x=some c) (hap:env.cells.Pairwise fun x y=>x.2≠y.2) :
  ∃ cl,closureFor scope env=pure cl∧(∀ x c,cl.lookup x=some c→env.cells.lookup x=some c)∧(∀ x,(x,NameKind.free)∈scope.names→(cl.lookup x).isSome=true)∧cl.Pairwise fun x y=>x.2≠y.2:=by
 apply bc;intro z_
 obtain ⟨cl,e,h1,h2,h3,h4⟩:=la (env:=env) scope.names [] nd (fun x hx=>(nomatch hx)) List.nodup_nil (fun x c hx=>(nomatch hx)) hf
 apply z_;clear z_
 refine ⟨cl,?_,fun x c hx=>h1 x c (mem_of_lookup hx),fun x hx=>?_,?_⟩
 ·unfold closureFor
  dsimp only
  have:(forIn scope.names ([]:List (Str×Addr)) fun (x:Str×NameKind) (r:List (Str×Addr))=>(match x with
   | (name,kind)=>if (kind==NameKind.free)=true then (do let a ← cellOf env name; pure (ForInStep.yield ((name,a)::r))) else pure (ForInStep.yield r):Sem (ForInStep (List (Str×Addr)))))=pure cl:=e
  simp only [bind_pure] at *
  exact this
 ·apply bc;intro z_
  obtain ⟨p,hp,rfl⟩:=List.mem_map.mp (h3 x hx)
  apply z_;clear z_
  rw [oG h2 (show (p.1,p.2)∈cl from hp)]; rfl
 ·have:cl.Pairwise fun x y=>x.1≠y.1:=by
   have:=h2
   unfold List.Nodup at this
   rwa [List.pairwise_map] at this
  refine List.Pairwise.imp_of_mem (fun {a b} ha hb hne w=>hne ?_) this
  have e1:=mem_of_lookup (h1 a.1 a.2 ha)
  have e2:=mem_of_lookup (h1 b.1 b.2 hb)
  rw [← w] at e2
  exact name_of_addr hap e1 e2
theorem Rel.enterC {lo:List (Nat×V)} {m:Str→Option Value} {cl:List (Str×Addr)} (ok:G.Ok) (R:Rel G X env σ s) (hs:∃ h tk,s1={s with heap:=h,toks:=tk}) (keep:∀ b o,s.heap.get? b=some o→s1.heap.get? b=some o)
  (hfr0:env.frame=some env.locals) (hns:s1.heap.Ns env'.locals m) (fresh:s.heap.objs.size≤env'.locals) (hcl:env'.cells=cl) (h1:∀ x c,cl.lookup x=some c→env.cells.lookup x=some c) (apart:cl.Pairwise fun x y=>x.2≠y.2)
  (hfr:env'.frame=env.frame)
  (hlo:∀ i v,aq i lo=some v→∃ x val,env'.scope.names[i]?=some (x,NameKind.cell)∧RepV X σ.nx v val∧(cl.lookup x).isSome=true∧∀ cm:Str→Option Value,(∀ x c,env.cells.lookup x=some c→s.heap.IsCell c (cm x))→cm x=some val) :
  Rel G (X.frz (ak env) s.heap) env' ⟨lo,σ.st,σ.nx⟩ s1:=by
 have L:X.le σ.nx (X.frz (ak env) s.heap):=gh R
 have FF:∀ {a:Addr} {o:Obj},(X.frz (ak env) s.heap).F a=some o→s.heap.get? a=some o:=fun {a o} e=>by
  have e:(if a∈ak env then s.heap.get? a else X.F a)=some o:=e
  by_cases q:a∈ak env
  ·rw [LV q] at e; exact e
  ·rw [LU q] at e; exact R.sub _ _ e
 have FN:∀ {a:Addr},X.F a=none→a ∉ ak env→(X.frz (ak env) s.heap).F a=none:=fun {a} e q=>by
  show (if a∈ak env then s.heap.get? a else X.F a)=none
  rw [LU q]; exact e
 have big:∀ {a:Addr},s.heap.objs.size≤a→(X.frz (ak env) s.heap).F a=none:=fun {a} h=>by
  cases q:(X.frz (ak env) s.heap).F a with
  | none=>rfl
  | some o=>exact absurd (L7 (FF q)) (Mc h)
 have live:∀ {a:Addr} {l:Nat} {o:AO},s.heap.objs.size≤a→aq l σ.st=some o→X.ρ l≠a:=fun {a l o} h hl w=>by
  apply bc;intro z_
  obtain ⟨ob,z⟩:=R.there hl
  apply z_;clear z_
  rw [w] at z
  exact absurd (L7 z) (Mc h)
 have notT:∀ {a:Addr},s.heap.objs.size≤a→a≠G.T:=fun {a} h w=>by
  have:=R.tab.1
  rw [← w] at this
  exact absurd (L7 this) (Mc h)
 have cL:env'.frame≠some env'.locals:=by
  rw [hfr,hfr0]
  intro w
  injection w with w
  apply bc;intro z_
  obtain ⟨o,ho⟩:=R.loc.ltL
  apply z_;clear z_
  rw [w] at ho
  exact absurd (L7 ho) (Mc fresh)
 apply bc;intro z_
 obtain ⟨m0,cm0,g1,g2,g3⟩:=R.loc.ns
 obtain ⟨h',tk',rfl⟩:=hs
 apply z_;clear z_
 refine ⟨fun a o e=>keep _ _ (FF e),fun a o e q=>L.F _ _ (R.base a o e q),fun l o e=>⟨FN (R.own l o e).1 fun q=>(bh R q).2.1 l o e rfl,(R.own l o e).2⟩,R.inj,R.big,fun l o e=>⟨(R.st l o e).1,?_⟩,⟨keep _ _ R.tab.1,FN R.tab.2.1 fun q=>(bh R q).2.2.1 rfl,ok.tbmono _ _ _ (fun a o e _=>L.F _ _ e) R.tab.2.2⟩,?_,R.os,R.drawn,R.gens,fun a o e=>let ⟨z1,z2,z3,z4,z5,z6⟩:=R.hp a o e; ⟨keep _ _ z1,FN z2 (fun q=>(hV q).elim z4 fun ⟨_,x,hx⟩=>z5 x _ hx rfl),z3,fun w=>absurd (L7 z1) (Mc (by rw [w]; exact fresh)),fun x c e=>z5 x c (h1 x c (by rw [← hcl]; exact e)),z6⟩⟩
 ·apply bc;intro z_
  obtain ⟨ob,z⟩:=(R.st l o e).2.there
  apply z_;clear z_
  exact (R.st l o e).2.go L (LR _) (fg keep z)
 ·refine ⟨⟨m,cm0,hns,fun x c e=>?_,fun i v e=>?_⟩,⟨big fresh,fun l o e=>live fresh e,notT fresh⟩,fun w=>absurd w cL,fun _ x c e=>?_,by rw [hcl]; exact apart⟩
  ·rw [hcl] at e
   apply bc;intro z_
   obtain ⟨o,ho,hd⟩:=g2 x c (h1 x c e)
   apply z_;clear z_
   exact ⟨o,keep _ _ ho,hd⟩
  ·apply bc;intro z_
   obtain ⟨x,val,a,b,c,d⟩:=hlo i v e
   apply z_;clear z_
   exact ⟨x,.cell,val,a,b.mono L (LR _),.inr ⟨.inl rfl,by rw [hcl]; exact c,d cm0 g2⟩⟩
  ·rw [hcl] at e
   have hb:=dc hfr0 (h1 x c e)
   apply bc;intro z_
   obtain ⟨_,_,_,o,ho,_⟩:=bh R hb
   apply z_;clear z_
   exact ⟨o,by show (if c∈ak env then s.heap.get? c else X.F c)=some o; rw [LV hb]; exact ho⟩
theorem Rel.chg {a:Addr} {h':Heap} (R:Rel G X env σ s) (hF:X.F a=none) (hl:∀ l o,aq l σ.st=some o→X.ρ l≠a) (hT:a≠G.T) (hL:a≠env.locals) (hC:∀ x c,env.cells.lookup x=some c→c≠a) (hs:∀ b,b≠a→∀ o,s.heap.get? b=some o→h'.get? b=some o) (hH:G.Hp a=none) :
  Rel G X env σ {s with heap:=h'}:=by
 apply bc;intro z_
 obtain ⟨h1,h2,h3,h4,hb,h5,h6,h7,h8,h9,h10,h11⟩:=R
 apply z_;clear z_
 have neF:∀ {b:Addr} {o:Obj},X.F b=some o→b≠a:=fun e w=>by rw [w,hF] at e; cases e
 refine ⟨fun b o e=>hs b (neF e) _ (h1 b o e),h2,h3,h4,hb,fun l o e=>⟨(h5 l o e).1,?_⟩,⟨hs _ hT.symm _ h6.1,h6.2⟩,?_,h8,h9,h10,fun b o e=>let ⟨z1,r⟩:=h11 b o e; ⟨hs b (fun w=>by rw [w,hH] at e; cases e) _ z1,r⟩⟩
 ·apply bc;intro z_
  obtain ⟨ob,z⟩:=(h5 l o e).2.there
  apply z_;clear z_
  exact (h5 l o e).2.go .refl (LR _) ((hs _ (hl l o e) _ z).trans z.symm)
 ·apply bc;intro z_
  obtain ⟨oL,zL⟩:=h7.ltL
  apply z_;clear z_
  exact h7.go .refl (LR _) ((hs _ hL.symm _ zL).trans zL.symm) (fun x c e=>let ⟨o,z⟩:=h7.ltC e; (hs _ (hC x c e) _ z).trans z.symm) ⟨h7.freeL.1,h7.freeL.2.1⟩ (fun w x c b=>⟨(h7.freeC w x c b).1,(h7.freeC w x c b).2.1⟩)
noncomputable def lS (G:Glob) (lv:Nat) (sc:Sc) (ifs:List PySem.Expr) (d:DB):Prop:=∀ σ Q,d σ Q→∀ A env X s,AOk lv A→EOk sc env→Rel G X env σ s →
 wpAny (model G.prog G.w) A (forIn ifs true fun c r=>if r=true then do let ok ← isTrue c env (eval c env); pure (ForInStep.yield ok) else pure (ForInStep.yield r)) (PostB G X env σ.nx Q) bg s
theorem eZ:lS G lv sc [] (fun σ Q=>Q true σ):=fun σ Q hd A env X s ha he R=>by
 rw [List.forIn_nil]; exact LE (PostB.ret hd R)
theorem rU {c:PySem.Expr} {d:DB} (h:SB G lv sc c d):lS G lv sc [c] d:=fun σ Q hd A env X s ha he R=>by
 rw [List.forIn_cons]
 simp only [if_true]
 refine LD (LD (h.run hd ha he R fun b s1 σ1 X1 k1 L1 n1 R1=>LE ?_))
 dsimp only
 rw [List.forIn_nil]
 exact LE ⟨σ1,X1,k1,L1,n1,R1⟩
noncomputable abbrev DM:=St→(St→Prop)→Prop
noncomputable abbrev kO (ifs:List PySem.Expr) (env:Env):Sem Bool:=forIn ifs true fun c r=>if r=true then do let ok ← isTrue c env (eval c env); pure (ForInStep.yield ok) else pure (ForInStep.yield r)
noncomputable def e9 (cur:Nat→St→Option (Option V)) (dt:DT) (dif:DB) (dem:DM):Nat→Nat→DM
 | 0,_=>fun _ _=>False
 | n+1,i=>fun σ Q=>match cur i σ with
  | some (some v)=>dt v σ fun σ1=>dif σ1 fun b σ2=>match b with
   | true=>dem σ2 fun σ3=>e9 cur dt dif dem n (i+1) σ3 Q
   | false=>e9 cur dt dif dem n (i+1) σ2 Q
  | some none=>Q σ
  | none=>False
noncomputable def r4 (G:Glob) (lv:Nat) (sc:Sc) (t:Value→Env→Sem Unit) (l:Nat) (d:DM):Prop:=∀ σ Q,d σ Q→∀ A env X s,AOk lv A→EOk sc env→Rel G X env σ s→l<σ.nx →
 wpAny (model G.prog G.w) A (t (.ref (X.ρ l)) env) (PostT G X env σ.nx Q) bg s
theorem fB {e:PySem.Expr} {depth l:Nat} {it:Value} {target:PySem.Expr} {ifs:List PySem.Expr} {t:Value→Env→Sem Unit} {q:Pos} {X0 Xb:Wd} {n0 nb:Nat} {cur:Nat→St→Option (Option V)} {I:Nat→Heap→Prop} {dt:DT} {dif:DB} {dem:DM} {R':Result→Shared→Prop} {Q:St→Prop} {acc:Value}
  (ha:AOk lv A) (he:EOk sc env) (T:Itr G lv tg it S X0 n0 cur I) (htg:tg=true→ez target=true) (ht:ST G lv sc target dt) (hif:lS G lv sc ifs dif) (hem:r4 G lv sc t l dem)
  (hturn:compTurn e depth it acc env=(standAt q >>= fun _=>pyNext it >>= fun r=>match r with
   | none=>pure (.done .next)
   | some v=>letOwnedTupleGo target it v >>= fun _=>assign target env v >>= fun _=>kO ifs env >>= fun ok=>(if ok then t acc env else pure ()) >>= fun _=>again (.compLoop e depth it acc env)))
  (hden:∀ (Q:Fin→Shared→Prop) (E:Value→Shared→Prop) (s:Shared),wpAny (model G.prog G.w) A ((compTurn e depth it acc env).onRaise (fun x=>do noteFrame x env; theTreesLotGoes x)) Q E s →
   wpAny (model G.prog G.w) (A.under (.compLoop e depth it acc env)) ((model G.prog G.w).den (.compLoop e depth it acc env)) Q E s)
  (hquiet:(Code.compLoop e depth it acc env).quiet=true)
  (hX:X0.le n0 Xb) (hN:n0≤nb) (hbS:∀ b∈S,Xb.F b=none) (hl:l<nb) (hacc:acc=.ref (Xb.ρ l))
  (hQ:∀ σ' X' s',Q σ'→Xb.le nb X'→nb≤σ'.nx→Rel G X' env σ' s'→R' (.ok .next) s'):∀ (k i:Nat) (σ:St) (X:Wd) (s:Shared),e9 cur dt dif dem k i σ Q→Xb.le nb X→nb≤σ.nx→Rel G X env σ s→Frz X S→I i s.heap →
  codeAny (model G.prog G.w) A (.compLoop e depth it acc env) R' s:=by
 intro k i σ X s hlp L hn R hf hi
 refine codeAny_loop hquiet (fun k s=>LoopAt G Xb env nb S I (fun i σ=>e9 cur dt dif dem k i σ Q) s) ?_ k ⟨i,σ,X,hlp,L,hn,R,hf,hi⟩
 clear hlp L hn R hf hi
 rintro k s ⟨i,σ,X,hlp,L,hn,R,hf,hi⟩
 cases k with
 | zero=>exact hlp.elim
 | succ k=>
  have hlp:(match cur i σ with
   | some (some v)=>dt v σ fun σ1=>dif σ1 fun b σ2=>match b with
    | true=>dem σ2 fun σ3=>e9 cur dt dif dem k (i+1) σ3 Q
    | false=>e9 cur dt dif dem k (i+1) σ2 Q
   | some none=>Q σ
   | none=>False):=hlp
  refine hden _ _ _ ?_
  refine wpAny_noted ?_
  rw [hturn]
  cases hc:cur i σ with
  | none=>rw [hc] at hlp; exact hlp.elim
  | some r=>
   rw [hc] at hlp
   refine LD (LH (LD (LF (T.step A env i X σ s r ha (hX.trans L hN) (LN hN hn) R hf hi hc) (fun o s1 h1=>?_) fun _ _ z=>z.elim)))
   cases r with
   | none=>
    apply bc;intro z_
    obtain ⟨rfl,X1,R1,w1⟩:=h1
    apply z_;clear z_
    exact LE (hQ σ X1 s1 hlp (pW L hn w1 hbS) hn R1)
   | some v=>
    apply bc;intro z_
    obtain ⟨val,rfl,h1⟩:=h1
    apply z_;clear z_
    refine LD (LF (h1 target _ htg fun s1 X1 R1 w1 f1 W hi1=>?_) (fun _ _ z=>z) fun _ _ z=>z.elim)
    have L1:=pW L hn w1 hbS
    refine LD (LF (ht v σ _ hlp A env X1 s1 val ha he R1 W) (fun _ s2 y_=>?_) fun _ _ z=>z.elim)
    apply bc;intro z_
    obtain ⟨σ2,X2,q2,L2,n2,R2⟩:=y_
    apply z_;clear z_
    have n12:=LN hn n2
    refine LD (LF (hif σ2 _ q2 A env X2 s2 ha he R2) (fun b s3 y_=>?_) fun _ _ z=>z.elim)
    apply bc;intro z_
    obtain ⟨σ3,X3,q3,L3,n3,R3⟩:=y_
    apply z_;clear z_
    have L23:=L2.trans L3 n2
    have L13:=L1.trans L23 hn
    have n13:=LN n12 n3
    have up:∀ {X':Wd} {σ':St} {s':Shared},X1.le σ.nx X'→Rel G X' env σ' s'→Frz X' S∧I (i+1) s'.heap:=fun L' R'=>⟨f1.up L',T.stable (i+1) X1 s1.heap _ (hX.trans L1 hN) R1.sub f1 hi1 (fun a o e=>R'.sub _ _ (L'.F _ _ e))⟩
    cases b with
    | false=>
     refine LD ?_
     rw [LU LZ]
     exact LE (LE ⟨rfl,k,LX k,i+1,σ3,X3,q3,L13,n13,R3,(up L23 R3).1,(up L23 R3).2⟩)
    | true=>
     refine LD ?_
     rw [LV rfl]
     have ea:acc=.ref (X3.ρ l):=by rw [hacc,L13.ρ l hl]
     rw [ea]
     refine LF (hem σ3 _ q3 A env X3 s3 ha he R3 (Mi hl n13)) (fun _ s4 y_=>?_) fun _ _ z=>z.elim
     apply bc;intro z_
     obtain ⟨σ4,X4,q4,L4,n4,R4⟩:=y_
     apply z_;clear z_
     have u:=up (L23.trans L4 (LN n2 n3)) R4
     rw [← ea]
     exact LE ⟨rfl,k,LX k,i+1,σ4,X4,q4,L13.trans L4 n13,LN n13 n4,R4,u.1,u.2⟩
theorem ph {elt:PySem.Expr} {l:Nat} {d:DE} (h:SE G lv sc elt d):r4 G lv sc (fun acc env=>(do let _ ← call (.builtin "list.append") [acc,← eval elt env])) l (fun σ Q=>d σ fun x σ1=>gw [.loc l,x] σ1 fun _ σ2=>Q σ2):=fun σ Q hd A env X s ha he R hl=>by
 refine LD (h.run hd ha he R fun val s1 v σ1 X1 k1 L1 n1 R1 W1=>?_)
 have Wl:RepV X1 σ1.nx (.loc l) (.ref (X.ρ l)):=by rw [← L1.ρ l hl]; exact .loc l (Mi hl n1)
 refine LD (LF (lP (lv:=lv) [.loc l,v] [] σ1 _ k1 A env X1 s1 [.ref (X.ρ l),val] [] ha R1 (.cons Wl (.cons W1 .nil)) .nil).2 (fun r s2 y_=>?_) fun _ _ z=>z)
 apply bc;intro z_
 obtain ⟨rv,σ2,X2,q2,L2,n2,R2,W2⟩:=y_
 apply z_;clear z_
 exact LE ⟨σ2,X2,q2,L1.trans L2 n1,LN n1 n2,R2⟩
theorem wz {e:PySem.Expr} {l depth N:Nat} {target iter:PySem.Expr} {ifs:List PySem.Expr} {t:Value→Env→Sem Unit} {di:DI} {dt:DT} {dif:DB} {dem:DM} (hit:SI G lv sc tg iter di) (htg:tg=true→ez target=true) (ht:ST G lv sc target dt) (hif:lS G lv sc ifs dif) (hem:r4 G lv sc t l dem)
  (hturn:∀ it acc env,compTurn e depth it acc env=(standAt iter.pos >>= fun _=>pyNext it >>= fun r=>match r with
   | none=>pure (.done .next)
   | some v=>letOwnedTupleGo target it v >>= fun _=>assign target env v >>= fun _=>kO ifs env >>= fun ok=>(if ok then t acc env else pure ()) >>= fun _=>again (.compLoop e depth it acc env)))
  (hden:∀ it acc env A (Q:Fin→Shared→Prop) (E:Value→Shared→Prop) (s:Shared),wpAny (model G.prog G.w) A ((compTurn e depth it acc env).onRaise (fun x=>do noteFrame x env; theTreesLotGoes x)) Q E s →
   wpAny (model G.prog G.w) (A.under (.compLoop e depth it acc env)) ((model G.prog G.w).den (.compLoop e depth it acc env)) Q E s)
  (hquiet:∀ it acc env,(Code.compLoop e depth it acc env).quiet=true)
  (hstart:∀ it acc env A (R:Result→Shared→Prop) s,codeAny (model G.prog G.w) A (.compLoop e depth it acc env) R s→wpAny (model G.prog G.w) A (pyIter it) (fun it' s'=>codeAny (model G.prog G.w) A (.compLoop e depth it' acc env) R s') (fun _ _=>False) s→codeAny (model G.prog G.w) A (.compStart e depth it acc env) R s)
  (hs:∀ env x,foldedSetIterable iter env x=pure x) :
  r4 G lv sc (fun acc env=>do
   let x ← eval iter env
   standAt iter.pos
   let x ← foldedSetIterable iter env x
   let _ ← runOwn (.compStart e depth (← holding [x] (pyIter x)) acc env) env) l (fun σ Q=>di σ fun cur σ1=>e9 cur dt dif dem N 0 σ1 Q):=fun σ Q hd A env X s ha he R hl=>by
 refine LD (LF (hit σ _ hd A env X s ha he R) (fun x s1 h1=>?_) fun _ _ z=>z)
 refine LD (LH (LD (LI (hs env x) (LD (LG (LF h1 (fun it s2 h2=>?_) fun _ _ z=>z))))))
 obtain ⟨cur,σ1,X0,X1,S,I,k1,L0,L1,n1,R1,f1,i1,T⟩:=h2
 have hl1:l<σ1.nx:=Mi hl n1
 have loop:codeAny (model G.prog G.w) A (.compLoop e depth it (.ref (X.ρ l)) env) (fun r s'=>match r with
   | .ok f=>wpAny (model G.prog G.w) A (pure ()) (PostT G X env σ.nx Q) bg s'
   | .error e=>cameBackBy (model G.prog G.w) A env bg e s') s2:=by
  refine fB ha he T htg ht hif hem (hturn it _ env) (hden it _ env A) (hquiet it _ env) .refl (LR _) T.fresh hl1 (by rw [L0.ρ l hl]) (fun σ' X' s' q L n' R'=>?_) N 0 σ1 X1 s2 k1 L1 (LR _) R1 f1 i1
  exact LE ⟨σ',X',q,L0.trans L n1,LN n1 n',R'⟩
 refine LD (wpAny_runOwn ?_)
 exact hstart it _ env A _ s2 loop (T.self A 0 s2 _ ha.handled i1 loop)
noncomputable def CA:List (Nat×Nat)→List (Nat×V)→List (Nat×V)
 | [],_=>[]
 | (j,i)::r,lo=>match aq i lo with
  | some v=>(j,v)::CA r lo
  | none=>CA r lo
set_option tactic.hygienic true in
theorem jm:∀ {fv:List (Nat×Nat)} {lo:List (Nat×V)} {j:Nat} {v:V},aq j (CA fv lo)=some v→∃ i,(j,i)∈fv∧aq i lo=some v
 | [],_,_,_,h=>by cases h
 | (j,i)::r,lo,k,v,h=>by
  unfold CA at h
  cases q:aq i lo with
  | none=>
   rw [q] at h
   apply bc;intro z_
   obtain ⟨i',a,b⟩:=jm h
   apply z_;clear z_
   exact ⟨i',LQ _ a,b⟩
  | some w=>
   rw [q] at h
   dsimp only at h
   rw [ax] at h
   split at h
   ·rename_i e; subst e; cases h; exact ⟨i,LY ..,q⟩
   ·apply bc;intro z_
    obtain ⟨i',a,b⟩:=jm h
    apply z_;clear z_
    exact ⟨i',LQ _ a,b⟩
structure CompOk (sc sc':Sc) (scope:Scope) (fv:List (Nat×Nat)):Prop where
 kind:scope.kind=.function
 nd:(scope.names.map (·.1)).Nodup
 nocell:∀ x∈scope.names,x.2≠.cell
 free:∀ x,(x,NameKind.free)∈scope.names→sc.names.lookup x=some .cell
 names:sc'.names=iq scope.names sc.names
 nd':(sc'.names.map (·.1)).Nodup
 fn':sc'.fn=false
 code':sc'.code=0
 fn:sc.fn=true
 fv:∀ p∈fv,∃ x,scope.names[p.1]?=some (x,NameKind.free)∧sc.names[p.2]?=some (x,NameKind.cell)
set_option tactic.hygienic true in
theorem CompOk.cells {scope:Scope} {fv:List (Nat×Nat)} (C:CompOk sc sc' scope fv) {x:Str} (h:(x,NameKind.cell)∈sc'.names):(x,NameKind.free)∈scope.names:=by
 rw [C.names] at h
 unfold iq at h
 apply bc;intro z_
 obtain ⟨p,hp,e⟩:=List.mem_map.mp h
 obtain ⟨y,k⟩:=p
 apply z_;clear z_
 dsimp only at e
 split at e
 ·rename_i q
  cases e
  rw [Bool.and_eq_true,beq_iff_eq] at q
  rw [← q.1]; exact hp
 ·cases e; exact absurd rfl (C.nocell _ hp)
theorem iF {names:List (Str×NameKind)} {x:Str} {k:NameKind} (h:names.lookup x=some k):(x,k)∈names:=by
 induction names with
 | nil=>cases h
 | cons p r ih=>
  obtain ⟨y,ky⟩:=p
  rw [List.lookup_cons] at h
  cases q:x==y with
  | true=>rw [q] at h; cases h; rw [beq_iff_eq.mp q]; exact LY ..
  | false=>rw [q] at h; exact LQ _ (ih h)
theorem nE {scope:Scope} {fv:List (Nat×Nat)} {cl:List (Str×Addr)} {qual:Str} {Q:Env→Shared→Prop} (ok:G.Ok) (C:CompOk sc sc' scope fv) (he:EOk sc env) (R:Rel G X env σ s)
  (h1:∀ x c,cl.lookup x=some c→env.cells.lookup x=some c) (h2:∀ x,(x,NameKind.free)∈scope.names→(cl.lookup x).isSome=true) (h3:cl.Pairwise fun x y=>x.2≠y.2)
  (q:∀ (cenv:Env) (s1:Shared),EOk sc' {cenv with scope:=relabel scope env}→cenv.frame≠some cenv.locals→(∃ m,s1.heap.Ns cenv.locals m)→Rel G (X.frz (ak env) s.heap) {cenv with scope:=relabel scope env} ⟨CA fv σ.lo,σ.st,σ.nx⟩ s1→Q cenv s1) :
  wpAny (model G.prog G.w) A (newFunctionEnv scope env.globals cl [] qual none .none (some env)) Q bg s:=by
 have hfr0:=he.fn C.fn
 refine wpAny_newFunctionEnv C.nocell (by intro y hy; simp at hy) (fun h' hns hsb=>?_) C.kind
 have hkeep:∀ b o,s.heap.get? b=some o→h'.get? b=some o:=fun b o e=>(hsb.2 b (Ms (L7 e))).trans (LM _ e)
 have hnames:(relabel scope env).names=sc'.names:=by rw [C.names]; exact vu he
 refine q _ _ ⟨hnames,C.kind,he.globals,he.builtins,C.nd',(fun w=>by rw [C.fn'] at w; cases w),fun x hx=>?_,fun w=>absurd C.code' w⟩ ?_ ⟨_,hns⟩ ?_
 ·exact h2 x (C.cells (iF hx))
 ·show env.frame≠some _
  rw [hfr0]
  intro w
  injection w with w
  apply bc;intro z_
  obtain ⟨o,ho⟩:=R.loc.ltL
  apply z_;clear z_
  rw [w] at ho
  exact absurd (L7 ho) (Nat.lt_irrefl _)
 ·refine R.enterC (s1:={s with heap:=h',toks:=s.toks+([]:List (Str×Value)).length}) (cl:=cl) ok ⟨h',_,rfl⟩ hkeep hfr0 hns (LR _) rfl h1 h3 rfl fun j v e=>?_
  apply bc;intro z_
  obtain ⟨i,hm,hi⟩:=jm e
  obtain ⟨x,e1,e2⟩:=C.fv _ hm
  obtain ⟨m0,cm0,g1,g2,g3⟩:=R.loc.ns
  obtain ⟨y,k,val,a,W,c⟩:=g3 i v hi
  apply z_;clear z_
  rw [he.names,e2] at a
  cases a
  rcases c with ⟨c,_⟩ | ⟨_,c1,c2⟩
  ·first | exact nS c | exact nB c | cases c
  refine ⟨x,val,?_,W,h2 x (Mh e1),fun cm hcm=>?_⟩
  ·show (relabel scope env).names[j]?=_
   rw [hnames,C.names]
   unfold iq
   rw [List.getElem?_map,e1]
   have:=C.free x (Mh e1)
   simp [this]
  ·apply bc;intro z_
   obtain ⟨c,hc⟩:=Option.isSome_iff_exists.mp c1
   obtain ⟨o,ho,hd⟩:=g2 x c hc
   obtain ⟨o',ho',hd'⟩:=hcm x c hc
   apply z_;clear z_
   rw [ho] at ho'; cases ho'
   rw [hd] at hd'
   injection hd' with e
   rw [← e]; exact c2
theorem gY {i:Nat} {x:Str} {v:V} {val:Value} {Q:Unit→Shared→Prop} (hx:sc.names[i]?=some (x,NameKind.local)) (he:EOk sc env) (R:Rel G X env σ s) (W:RepV X σ.nx v val)
  (q:∀ s',Rel G X env (c9 i v σ) s'→(∀ b,b≠env.locals→s'.heap.get? b=s.heap.get? b)→Q () s'):wpAny (model G.prog G.w) A (storeName env x val) Q bg s:=by
 have hkf:=he.kind
 have hkind:=iW he hx
 apply bc;intro z_
 obtain ⟨h1,h2,h3,h4,hb,h5,h6,h7,h8,h9,h10,h11⟩:=R
 obtain ⟨⟨m,cm,n1,n2,n3⟩,f1,f2,f3,f4⟩:=h7
 apply z_;clear z_
 have hL:∀ {b:Addr} {o:Obj},X.F b=some o→b≠env.locals:=fun e w=>by rw [w,f1.1] at e; cases e
 refine wpAny_storeName_local hkind n1 (fun h' hn hs=>q _ ?_ hs.2) (by rw [hkf]; rfl)
 have nl:∀ l o,aq l σ.st=some o→X.ρ l≠env.locals:=f1.2.1
 have ncl:∀ x c,env.cells.lookup x=some c→c≠env.locals:=fun x c e=>by
  by_cases w:env.frame=some env.locals
  ·exact (f2 w x c e).2.2.1
  ·obtain ⟨o,z⟩:=f3 w x c e; exact hL z
 refine ⟨fun a o e=>(hs.2 a (hL e)).trans (h1 a o e),h2,h3,h4,hb,fun l o e=>⟨(h5 l o e).1,(h5 l o e).2.go .refl (LR _) (hs.2 _ (nl l o e))⟩,⟨(hs.2 _ f1.2.2.symm).trans h6.1,h6.2⟩,⟨⟨_,cm,hn,fun x c e=>?_,fun j w e=>?_⟩,f1,f2,f3,f4⟩,h8,h9,h10,fun a o e=>let ⟨z1,z2,z3,z4,r⟩:=h11 a o e; ⟨(hs.2 a z4).trans z1,z2,z3,z4,r⟩⟩
 ·obtain ⟨o,ho,hd⟩:=n2 x c e; exact ⟨o,(hs.2 _ (ncl x c e)).trans ho,hd⟩
 ·have e:aq j (fq i v σ.lo)=some w:=e
  rw [dN] at e
  by_cases hj:j=i
  ·rw [LV hj] at e; cases e; subst hj
   exact ⟨x,.local,val,by rw [he.names]; exact hx,W,.inl ⟨rfl,LV rfl⟩⟩
  ·rw [LU hj] at e
   apply bc;intro z_
   obtain ⟨y,k',val',e1,W',e2⟩:=n3 j w e
   apply z_;clear z_
   refine ⟨y,k',val',e1,W',e2.imp (fun ⟨e3,e4⟩=>⟨e3,?_⟩) id⟩
   rw [LU (fun w'=>hj (kD he.nd (by rw [← he.names]; exact w' ▸ e1) hx))]; exact e4
theorem hO {scope:Scope} {fv:List (Nat×Nat)} {cl:List (Str×Addr)} {qual:Str} {o:AO} {ob:Obj} {cur:Nat→St→Option (Option V)} {I:Nat→Heap→Prop} {it:Value} {Q':Env→Shared→Prop} {tk:Nat}
  (ok:G.Ok) (C:CompOk sc sc' scope fv) (ha:AOk lv A) (he:EOk sc env) (R1:Rel G X1 env σ1 s2) (f1:Frz X1 S) (i1:I 0 s2.heap) (T:Itr G lv tg it S X0 σ1.nx cur I) (L1:X0.le σ1.nx X1)
  (hob:ob.isFreed=false) (ho:∀ X' (h:Heap),X1.le σ1.nx X'→h.get? s2.heap.objs.size=some ob→RepO G X' (σ1.nx+1) h s2.heap.objs.size o)
  (h1:∀ x c,cl.lookup x=some c→env.cells.lookup x=some c) (h2:∀ x,(x,NameKind.free)∈scope.names→(cl.lookup x).isSome=true) (h3:cl.Pairwise fun x y=>x.2≠y.2)
  (q:∀ (cenv:Env) (s4:Shared) (Xb X4:Wd),EOk sc' {cenv with scope:=relabel scope env}→Rel G X4 {cenv with scope:=relabel scope env} ⟨CA fv σ1.lo,(σ1.nx,o)::σ1.st,σ1.nx+1⟩ s4→Frz X4 S→I 0 s4.heap→X0.le σ1.nx Xb→(∀ b∈S,Xb.F b=none)→Xb.le (σ1.nx+1) X4 →
   Xb.ρ σ1.nx=s2.heap.objs.size →
   (∀ (σ':St) (X':Wd) (s':Shared),Xb.le (σ1.nx+1) X'→σ1.nx+1≤σ'.nx→Rel G X' {cenv with scope:=relabel scope env} σ' s'→∃ X5,X0.le σ1.nx X5∧Rel G X5 env {σ' with lo:=σ1.lo} s'∧RepV X5 σ'.nx (.loc σ1.nx) (.ref s2.heap.objs.size) ∧
    (∃ m,s'.heap.Ns cenv.locals m)∧cenv.locals≠env.locals∧∀ (σ6:St) (s6:Shared) (h':Heap),σ6.st=σ'.st→Rel G X5 env σ6 s6→Heap.SameBut cenv.locals s6.heap h'→Rel G X5 env σ6 {s6 with heap:=h'})→Q' cenv s4) :
  wpAny (model G.prog G.w) A (newFunctionEnv scope env.globals cl [] qual none .none (some env)) Q' bg {s2 with heap:=s2.heap.push ob,toks:=tk}:=by
 apply bc;intro z_
 obtain ⟨R2,L2⟩:=R1.anew (o:=o) (s':={s2 with heap:=s2.heap.push ob,toks:=tk}) aL (R1.size ok) (fun _ _ e=>LM _ e) (fun X' L=>ho X' _ L (LT _ hob)) rfl rfl R1.gens
 apply z_;clear z_
 have hfr0:=he.fn C.fn
 -- the world at hand,and the one without the iterator
 generalize hX2:({X1 with ρ:=fun l=>if l=σ1.nx then s2.heap.objs.size else X1.ρ l}:Wd)=X2 at R2 L2
 have hρ:X2.ρ σ1.nx=s2.heap.objs.size:=by rw [← hX2]; exact LV rfl
 have f2:Frz X2 S:=f1.up L2
 apply bc;intro z_
 obtain ⟨Xd,Rd,wd,fd,fo⟩:=R2.sws ok f2 T.hbS (fun b _ o e=>e) (fun b=>none) (fun _ _ _ e=>by cases e) rfl rfl R2.gens
 apply z_;clear z_
 refine nE ok C he R2 h1 h2 h3 fun cenv s4 hE hne hns R4=>?_
 have LX1:X1.le σ1.nx (X2.frz (ak env) (s2.heap.push ob)):=L2.trans (gh R2) (LR _)
 have i4:I 0 s4.heap:=T.stable 0 X1 s2.heap s4.heap L1 R1.sub f1 i1 (fun a o e=>R4.sub _ _ (LX1.F _ _ e))
 have outS:∀ b∈ak env,b ∉ S:=fun b hb w=>by
  apply bc;intro z_
  obtain ⟨o',e',_⟩:=f2 b w
  apply z_;clear z_
  rw [(bh R2 hb).1] at e'; cases e'
 have dF:∀ {a:Addr} {o:Obj} {Y:Wd},a ∉ S→Y.F a=some o→(Y.drop S).F a=some o:=fun {a o Y} q e=>by
  show (if a∈S then none else Y.F a)=some o
  rw [LU q]; exact e
 have dU:∀ {a:Addr} {o:Obj} {Y:Wd},(Y.drop S).F a=some o→a ∉ S∧Y.F a=some o:=fun {a o Y} e=>by
  have e:(if a∈S then none else Y.F a)=some o:=e
  by_cases q:a∈S
  ·rw [LV q] at e; cases e
  ·rw [LU q] at e; exact ⟨q,e⟩
 have L04:X0.le σ1.nx ((X2.frz (ak env) (s2.heap.push ob)).drop S):=⟨fun l hl=>(LX1.ρ l hl).trans (L1.ρ l hl),fun a o e=>dF (fun w=>by rw [T.fresh a w] at e; cases e) (LX1.F _ _ (L1.F _ _ e)),fun a o e=>(LX1.P _ _ (L1.F _ _ e)).trans (L1.P _ _ e)⟩
 refine q cenv s4 ((X2.frz (ak env) (s2.heap.push ob)).drop S) _ hE R4 (f2.up (gh R2 (n:=0))) i4 L04 (fun b hb=>LV hb) ⟨fun _ _=>rfl,fun a o e=>(dU e).2,fun _ _ _=>rfl⟩ hρ fun σ' X' s' L' n' R'=>?_
 have Ld:(Xd.frz (ak env) (s2.heap.push ob)).le (σ1.nx+1) X':=⟨fun l hl=>(L'.ρ l hl).trans (wd.ρ l hl).symm,fun a o e=>by
  have e:(if a∈ak env then (s2.heap.push ob).get? a else Xd.F a)=some o:=e
  by_cases hq:a∈ak env
  ·rw [LV hq] at e
   exact L'.F _ _ (dF (outS a hq) (by show (if a∈ak env then (s2.heap.push ob).get? a else X2.F a)=some o; rw [LV hq]; exact e))
  ·rw [LU hq] at e
   by_cases hS:a∈S
   ·rw [fd a hS] at e; cases e
   ·rw [fo a hS] at e
    exact L'.F _ _ (dF hS (by show (if a∈ak env then (s2.heap.push ob).get? a else X2.F a)=some o; rw [LU hq]; exact e)),fun a o e=>by
  have e:(if a∈ak env then (s2.heap.push ob).get? a else Xd.F a)=some o:=e
  show X'.P a=(if a∈ak env then false else Xd.P a)
  by_cases hq:a∈ak env
  ·rw [LV hq] at e
   refine (L'.P a o (dF (outS a hq) (by show (if a∈ak env then (s2.heap.push ob).get? a else X2.F a)=some o; rw [LV hq]; exact e))).trans ?_
   show (if a∈ak env then false else X2.P a)=_
   rw [LV hq,LV hq]
  ·rw [LU hq] at e
   by_cases hS:a∈S
   ·rw [fd a hS] at e; cases e
   ·rw [fo a hS] at e
    refine (L'.P a o (dF hS (by show (if a∈ak env then (s2.heap.push ob).get? a else X2.F a)=some o; rw [LU hq]; exact e))).trans ?_
    show (if a∈ak env then false else X2.P a)=_
    rw [LU hq,LU hq]
    exact (wd.P a o hS e).symm⟩
 apply bc;intro z_
 obtain ⟨R5,L5,hSl⟩:=Rd.leave ok R' Ld n'
 have L05:X0.le σ1.nx (X'.drop (ak env)):=⟨fun l hl=>((L5.ρ l (Mn hl)).trans (wd.ρ l (Mn hl))).trans ((L2.ρ l hl).trans (L1.ρ l hl)),fun a o e=>by
  have hS:a ∉ S:=fun w=>by rw [T.fresh a w] at e; cases e
  exact L5.F _ _ (by rw [fo a hS]; exact L2.F _ _ (L1.F _ _ e)),fun a o e=>by
  have hS:a ∉ S:=fun w=>by rw [T.fresh a w] at e; cases e
  exact (L5.P a o (by rw [fo a hS]; exact L2.F _ _ (L1.F _ _ e))).trans ((wd.P a o hS (L2.F _ _ (L1.F _ _ e))).trans ((L2.P _ _ (L1.F _ _ e)).trans (L1.P _ _ e)))⟩
 have frozen:∀ b∈ak env,∃ o,X'.F b=some o:=fun b hb=>by
  obtain ⟨_,_,_,o,ho',_⟩:=bh R2 hb
  exact ⟨o,L'.F _ _ (dF (outS b hb) (by show (if b∈ak env then (s2.heap.push ob).get? b else X2.F b)=some o; rw [LV hb]; exact ho'))⟩
 have CN:X'.F cenv.locals=none:=R'.loc.freeL.1
 have nC:∀ b∈ak env,b≠cenv.locals:=fun b hb w=>by
  obtain ⟨o,e⟩:=frozen b hb
  rw [w,CN] at e; cases e
 obtain ⟨m,cm,hm,_⟩:=R'.loc.ns
 apply z_;clear z_
 refine ⟨X'.drop (ak env),L05,R5,?_,⟨m,hm⟩,(nC _ cB).symm,fun σ6 s6 h' est R6 hs=>?_⟩
 ·have:=RepV.loc (X:=X'.drop (ak env)) (n:=σ'.nx) σ1.nx (Mi (LX _) n')
  have er:(X'.drop (ak env)).ρ σ1.nx=s2.heap.objs.size:=by
   rw [L5.ρ _ (LX _),wd.ρ _ (LX _),hρ]
  rw [er] at this
  exact this
 ·refine R6.chg ?_ (fun l o e=>?_) R'.loc.freeL.2.2 (nC _ cB).symm (fun x c e=>nC c (dc hfr0 e)) (fun b hb o e=>(hs.2 b hb).trans e) (by
   cases q:G.Hp cenv.locals with
   | none=>rfl
   | some o=>exact absurd rfl (R'.hp _ _ q).2.2.2.1)
  ·show (if cenv.locals∈ak env then none else X'.F cenv.locals)=none
   split
   ·rfl
   ·exact CN
  ·rw [est] at e
   exact R'.loc.freeL.2.1 l o e
theorem lb {scope:Scope} {fv:List (Nat×Nat)} (C:CompOk sc sc' scope fv) (he:EOk sc env) (R:Rel G X env σ s) :
  ∃ cl,closureFor scope env=pure cl∧(∀ x c,cl.lookup x=some c→env.cells.lookup x=some c)∧(∀ x,(x,NameKind.free)∈scope.names→(cl.lookup x).isSome=true)∧cl.Pairwise fun x y=>x.2≠y.2:=
 wQ C.nd (fun x hx=>Option.isSome_iff_exists.mp (he.hasC x (C.free x hx))) R.loc.apart
theorem CompOk.locals {scope:Scope} {fv:List (Nat×Nat)} (C:CompOk sc sc' scope fv):∀ x∈scope.names,x.2=NameKind.local→scope.names.lookup x.1=some .local:=fun x hx e=>by
 apply bc;intro z_
 obtain ⟨i,hi,e'⟩:=List.mem_iff_getElem.mp hx
 obtain ⟨y,k⟩:=x
 apply z_;clear z_
 dsimp only at e
 subst e
 exact dg C.nd (i:=i) (by rw [List.getElem?_eq_getElem hi,e'])
noncomputable def t8 (fv:List (Nat×Nat)) (loop:Nat→(Nat→St→Option (Option V))→DM) (cur:Nat→St→Option (Option V)) (o:AO) (σ1:St) (Q:V→St→Prop):Prop:=
 loop σ1.nx cur ⟨CA fv σ1.lo,(σ1.nx,o)::σ1.st,σ1.nx+1⟩ fun σ3=>Q (.loc σ1.nx) {σ3 with lo:=σ1.lo}
noncomputable def j6 (G:Glob) (lv:Nat) (sc':Sc) (e:PySem.Expr) (tg:Bool) (loop:Nat→(Nat→St→Option (Option V))→DM):Prop:=
 ∀ (A:Around) (env:Env) (X0 Xb X:Wd) (S:List Addr) (it:Value) (n0 nb l:Nat) (cur:Nat→St→Option (Option V)) (I:Nat→Heap→Prop) (σ:St) (s:Shared) (Q:St→Prop) (R':Result→Shared→Prop) (acc:Value),AOk lv A→EOk sc' env→Itr G lv tg it S X0 n0 cur I →
  X0.le n0 Xb→n0≤nb→(∀ b∈S,Xb.F b=none)→l<nb→acc=.ref (Xb.ρ l)→(∀ σ' X' s',Q σ'→Xb.le nb X'→nb≤σ'.nx→Rel G X' env σ' s'→R' (.ok .next) s') →
  loop l cur σ Q→Xb.le nb X→nb≤σ.nx→Rel G X env σ s→Frz X S→I 0 s.heap→codeAny (model G.prog G.w) A (.compStart e 0 it acc env) R' s
theorem dJ {elt target iter:PySem.Expr} {ifs:List PySem.Expr} {rest:List Comprehension} {scope:Scope} {pos:Pos} {fv:List (Nat×Nat)} {di:DI} {loop:Nat→(Nat→St→Option (Option V))→DM} (ok:G.Ok) (C:CompOk sc sc' scope fv) (hi:SI G lv sc tg iter di)
  (hs:∀ env x,foldedSetIterable iter env x=pure x) (hl:j6 G lv sc' (.ListComp elt (⟨target,iter,ifs,0⟩::rest) scope pos) tg loop) :
  SE G lv sc (.ListComp elt (⟨target,iter,ifs,0⟩::rest) scope pos) (fun σ Q=>di σ fun cur σ1=>t8 fv loop cur (.list []) σ1 Q):=fun σ Q hd A env X s ha he R=>by
 apply bc;intro z_
 obtain ⟨cl,e0,c1,c2,c3⟩:=lb C he R
 apply z_;clear z_
 rw [eval_ListComp]
 refine wpAny_comprehension_free (use:=none) rfl (hs env) e0 C.kind C.locals (LF (hi σ _ hd A env X s ha he R) (fun x s1 h1=>LF h1 (fun it s2 h2=>?_) fun _ _ z=>z) fun _ _ z=>z)
 apply bc;intro z_
 obtain ⟨cur,σ1,X0,X1,S,I,k1,L0,L1,n1,R1,f1,i1,T⟩:=h2
 apply z_;clear z_
 refine wpAny_newList (items:=[]) ?_ (Mm _)
 refine hO (o:=.list []) (tk:=s2.toks) ok C ha he R1 f1 i1 T L1 rfl (fun X' h L hg=>⟨_,[],hg,⟨rfl,rfl,⟨_,rfl⟩,rfl⟩,.nil⟩) c1 c2 c3 fun cenv s4 Xb X4 hE R4 f4 i4 L04 hbS Lb hρ back=>?_
 refine hl A _ X0 Xb X4 S it σ1.nx (σ1.nx+1) σ1.nx cur I _ s4 _ _ _ ha hE T L04 (Mj _) hbS (LX _) (by rw [hρ]) (fun σ' X' s' q L' n' R'=>?_) k1 Lb (LR _) R4 f4 i4
 apply bc;intro z_
 obtain ⟨X5,L5,R5,W5,hm,hne,chg⟩:=back σ' X' s' L' n' R'
 obtain ⟨m,hm⟩:=hm
 apply z_;clear z_
 refine ⟨m,hm,fun h' hs'=>?_⟩
 exact ⟨_,_,X5,q,L0.trans L5 n1,LN n1 (LN (Mj _) n'),chg _ s' h' rfl R5 hs',W5⟩
theorem f7 {elt target iter:PySem.Expr} {ifs:List PySem.Expr} {rest:List Comprehension} {scope:Scope} {pos p:Pos} {fv:List (Nat×Nat)} {di:DI} {loop:Nat→(Nat→St→Option (Option V))→DM} {i:Nat} {y:Str} {py:Pos} (ok:G.Ok) (C:CompOk sc sc' scope fv) (hi:SI G lv sc tg iter di)
  (hs:∀ env x,foldedSetIterable iter env x=pure x) (hl:j6 G lv sc' (.ListComp elt (⟨target,iter,ifs,0⟩::rest) scope pos) tg loop) (hy:sc.names[i]?=some (y,NameKind.local))
  (hsw:∀ env,EOk sc env→swapsWith (.ListComp elt (⟨target,iter,ifs,0⟩::rest) scope pos) (some (.Name y py)) p.line env=pure true) :
  SS G lv sc (.Assign [.Name y py] (.ListComp elt (⟨target,iter,ifs,0⟩::rest) scope pos) p) (fun σ Q=>di σ fun cur σ1=>t8 fv loop cur (.list []) σ1 fun v σ2=>Q .next (c9 i v σ2)):=fun σ Q hd A env X s ha he R=>by
 apply bc;intro z_
 obtain ⟨cl,e0,c1,c2,c3⟩:=lb C he R
 apply z_;clear z_
 rw [exec_Assign_Name_used _ _ _ _ (hsw env he)]
 refine LD (LH (LD ?_))
 show wpAny _ _ (do let _ ← comprehension _ scope env _ (newList []) _ _ (some (assign (.Name y py) env))) _ _ _
 refine LD ?_
 refine wpAny_comprehension_free rfl (hs env) e0 C.kind C.locals (LF (hi σ _ hd A env X s ha he R) (fun x s1 h1=>LF h1 (fun it s2 h2=>?_) fun _ _ z=>z) fun _ _ z=>z)
 apply bc;intro z_
 obtain ⟨cur,σ1,X0,X1,S,I,k1,L0,L1,n1,R1,f1,i1,T⟩:=h2
 apply z_;clear z_
 refine wpAny_newList (items:=[]) ?_ (Mm _)
 refine hO (o:=.list []) (tk:=s2.toks) ok C ha he R1 f1 i1 T L1 rfl (fun X' h L hg=>⟨_,[],hg,⟨rfl,rfl,⟨_,rfl⟩,rfl⟩,.nil⟩) c1 c2 c3 fun cenv s4 Xb X4 hE R4 f4 i4 L04 hbS Lb hρ back=>?_
 refine hl A _ X0 Xb X4 S it σ1.nx (σ1.nx+1) σ1.nx cur I _ s4 _ _ _ ha hE T L04 (Mj _) hbS (LX _) (by rw [hρ]) (fun σ' X' s' q L' n' R'=>?_) k1 Lb (LR _) R4 f4 i4
 apply bc;intro z_
 obtain ⟨X5,L5,R5,W5,hm,hne,chg⟩:=back σ' X' s' L' n' R'
 obtain ⟨m,hm⟩:=hm
 apply z_;clear z_
 refine wpAny_assign_Name (gY hy he R5 W5 fun s6 R6 hk=>?_)
 refine ⟨m,ij hm (hk _ hne),fun h' hs'=>?_⟩
 refine LE (LE ?_)
 exact ⟨.next,_,X5,q,L0.trans L5 n1,LN n1 (LN (Mj _) n'),chg _ s6 h' rfl R6 hs',.next⟩
theorem lI {e:PySem.Expr} {depth:Nat} {it acc:Value} {env:Env} {target:PySem.Expr} {ifs:List PySem.Expr} {q:Pos} {t:Sem Unit} {c:Code}
  (h:compTurn e depth it acc env=(standAt q >>= fun _=>pyNext it >>= fun r=>match r with
   | none=>pure (.done .next)
   | some v=>letOwnedTupleGo target it v >>= fun _=>assign target env v >>= fun _=>kO ifs env >>= fun ok=>if ok then (t >>= fun _=>again c) else again c)) :
  compTurn e depth it acc env=(standAt q >>= fun _=>pyNext it >>= fun r=>match r with
   | none=>pure (.done .next)
   | some v=>letOwnedTupleGo target it v >>= fun _=>assign target env v >>= fun _=>kO ifs env >>= fun ok=>(if ok then t else pure ()) >>= fun _=>again c):=by
 rw [h]
 congr 1
 funext _
 congr 1
 funext r
 cases r with
 | none=>rfl
 | some v=>
  dsimp only
  congr 1
  funext _
  congr 1
  funext _
  congr 1
  funext ok
  cases ok with
  | true=>simp only [if_true]
  | false=>simp only [Bool.false_eq_true,if_false,pure_bind]
theorem dI {elt target iter:PySem.Expr} {ifs:List PySem.Expr} {scope:Scope} {pos:Pos} {dt:DT} {dif:DB} {de:DE} (N:Nat) (htg:tg=true→ez target=true) (ht:ST G lv sc' target dt) (hif:lS G lv sc' ifs dif) (he':SE G lv sc' elt de) :
  j6 G lv sc' (.ListComp elt [⟨target,iter,ifs,0⟩] scope pos) tg (fun l cur=>e9 cur dt dif (fun σ Q=>de σ fun x σ1=>gw [.loc l,x] σ1 fun _ σ2=>Q σ2) N 0):=by
 intro A env X0 Xb X S it n0 nb l cur I σ s Q R' acc ha he T hX hN hbS hl hacc hQ hd L hn R f i
 have loop:codeAny (model G.prog G.w) A (.compLoop (.ListComp elt [⟨target,iter,ifs,0⟩] scope pos) 0 it acc env) R' s:=
  fB (e:=.ListComp elt [⟨target,iter,ifs,0⟩] scope pos) (depth:=0) (q:=iter.pos) (t:=fun acc env=>(do let _ ← call (.builtin "list.append") [acc,← eval elt env])) ha he T htg ht hif (ph he') (lI (by rfl)) (fun Q E s h=>h) (by rfl) hX hN hbS hl hacc hQ N 0 σ X s hd L hn R f i
 exact codeAny_compStart_list loop (LF (T.self A 0 s _ ha.handled i loop) (fun _ _ z=>z) fun _ _ z=>z.elim)
theorem o7 (elt target iter target' iter':PySem.Expr) (ifs ifs':List PySem.Expr) (scope:Scope) (pos:Pos) (it acc:Value) (env:Env) :
  compTurn (.ListComp elt [⟨target,iter,ifs,0⟩,⟨target',iter',ifs',0⟩] scope pos) 0 it acc env=(standAt iter.pos >>= fun _=>pyNext it >>= fun r=>match r with
   | none=>pure (.done .next)
   | some v=>letOwnedTupleGo target it v >>= fun _=>assign target env v >>= fun _=>kO ifs env >>= fun ok=>(if ok then (do
   let x ← eval iter' env
   standAt iter'.pos
   let x ← foldedSetIterable iter' env x
   let _ ← runOwn (.compStart (.ListComp elt [⟨target,iter,ifs,0⟩,⟨target',iter',ifs',0⟩] scope pos) 1 (← holding [x] (pyIter x)) acc env) env) else pure ()) >>= fun _=>again (.compLoop (.ListComp elt [⟨target,iter,ifs,0⟩,⟨target',iter',ifs',0⟩] scope pos) 0 it acc env)):=by
 have e:compTurn (.ListComp elt [⟨target,iter,ifs,0⟩,⟨target',iter',ifs',0⟩] scope pos) 0 it acc env=(standAt iter.pos >>= fun _=>pyNext it >>= fun r=>match r with
   | none=>pure (.done .next)
   | some v=>letOwnedTupleGo target it v >>= fun _=>assign target env v >>= fun _=>kO ifs env >>= fun ok=>if ok then (eval iter' env >>= fun x=>standAt iter'.pos >>= fun _=>foldedSetIterable iter' env x >>= fun x=>holding [x] (pyIter x) >>= fun i=>
     runOwn (.compStart (.ListComp elt [⟨target,iter,ifs,0⟩,⟨target',iter',ifs',0⟩] scope pos) 1 i acc env) env >>= fun _=>again (.compLoop (.ListComp elt [⟨target,iter,ifs,0⟩,⟨target',iter',ifs',0⟩] scope pos) 0 it acc env)) else again (.compLoop (.ListComp elt [⟨target,iter,ifs,0⟩,⟨target',iter',ifs',0⟩] scope pos) 0 it acc env)):=by rfl
 rw [e]
 congr 1
 funext _
 congr 1
 funext r
 cases r with
 | none=>rfl
 | some v=>
  dsimp only
  congr 1
  funext _
  congr 1
  funext _
  congr 1
  funext ok
  cases ok with
  | true=>simp only [if_true,bind_assoc,pure_bind]
  | false=>simp only [Bool.false_eq_true,if_false,pure_bind]
theorem rK {elt target iter target' iter':PySem.Expr} {ifs ifs':List PySem.Expr} {scope:Scope} {pos:Pos} {dt dt':DT} {dif dif':DB} {di:DI} {de:DE} (N N':Nat) (htg:tg=true→ez target=true) (ht:ST G lv sc' target dt) (hif:lS G lv sc' ifs dif)
  (htg':tg'=true→ez target'=true) (hi':SI G lv sc' tg' iter' di) (ht':ST G lv sc' target' dt') (hif':lS G lv sc' ifs' dif') (he':SE G lv sc' elt de) (hs:∀ env x,foldedSetIterable iter' env x=pure x) :
  j6 G lv sc' (.ListComp elt [⟨target,iter,ifs,0⟩,⟨target',iter',ifs',0⟩] scope pos) tg (fun l cur=>e9 cur dt dif (fun σ Q=>di σ fun cur' σ1=>e9 cur' dt' dif' (fun σ Q=>de σ fun x σ1=>gw [.loc l,x] σ1 fun _ σ2=>Q σ2) N' 0 σ1 Q) N 0):=by
 intro A env X0 Xb X S it n0 nb l cur I σ s Q R' acc ha he T hX hN hbS hl hacc hQ hd L hn R f i
 have loop:codeAny (model G.prog G.w) A (.compLoop (.ListComp elt [⟨target,iter,ifs,0⟩,⟨target',iter',ifs',0⟩] scope pos) 0 it acc env) R' s:=
  fB (e:=.ListComp elt [⟨target,iter,ifs,0⟩,⟨target',iter',ifs',0⟩] scope pos) (depth:=0) (q:=iter.pos) (t:=fun acc env=>(do
   let x ← eval iter' env
   standAt iter'.pos
   let x ← foldedSetIterable iter' env x
   let _ ← runOwn (.compStart (.ListComp elt [⟨target,iter,ifs,0⟩,⟨target',iter',ifs',0⟩] scope pos) 1 (← holding [x] (pyIter x)) acc env) env)) ha he T htg ht hif
   (wz (e:=.ListComp elt [⟨target,iter,ifs,0⟩,⟨target',iter',ifs',0⟩] scope pos) (depth:=1) (N:=N') hi' htg' ht' hif' (ph he') (fun _ _ _=>lI (by rfl)) (fun _ _ _ _ _ _ _ h=>h) (fun _ _ _=>by rfl) (fun it acc env A R s h0 h=>by
    refine codeAny_of_tree ?_
    show wpAny _ _ ((compStart (.ListComp elt [⟨target,iter,ifs,0⟩,⟨target',iter',ifs',0⟩] scope pos) 1 it acc env).onRaise (fun x=>do noteFrame x env; standAt theWindowsPlace)) _ _ s
    refine wpAny_notedAt ?_
    unfold compStart
    show wpAny _ _ (ask >>= _) _ _ s
    refine LD (wpAny_askSetting (wpAny_ite ?_))
    split
    ·first
      | exact LD (LE (LE (And.intro rfl h0)))
      | exact LE (And.intro rfl h0)
    ·first
      | exact LD (Mu (LD (LH (LD (LF h (fun it' s' h'=>LE (And.intro rfl h')) fun _ _ z=>z.elim)))))
      | (refine LD (Mu ?_); show wpAny _ _ (standAt iter'.pos >>= _) _ _ s; exact LD (LH (LD (LF h (fun it' s' h'=>LE (And.intro rfl h')) fun _ _ z=>z.elim))))) hs)
   (o7 ..) (fun Q E s h=>h) (by rfl) hX hN hbS hl hacc hQ N 0 σ X s hd L hn R f i
 exact codeAny_compStart_list loop (LF (T.self A 0 s _ ha.handled i loop) (fun _ _ z=>z) fun _ _ z=>z.elim)
theorem iP {p:Pos} (ok:G.Ok):SE G lv sc (.Dict [] [] p) (fun σ Q=>jB (.dict []) σ Q):=fun σ Q hd A env X s ha he R=>by
 refine wpAny_Dict_empty ?_
 apply bc;intro z_
 obtain ⟨R',L⟩:=R.anew (o:=.dict []) (s':={s with heap:=s.heap.push {cls:=.type "dict",data:=.dict #[]}}) aL (R.size ok) (fun _ _ e=>LM _ e)
  (fun X' L=>⟨[],Heap.DictOf.new s.heap,trivial⟩) rfl rfl R.gens
 apply z_;clear z_
 refine ⟨_,_,_,hd,L,Mj _,R',?_⟩
 have:=RepV.loc (X:={X with ρ:=fun l=>if l=σ.nx then s.heap.objs.size else X.ρ l}) (n:=σ.nx+1) σ.nx (LX _)
 dsimp only at this
 rw [LV rfl] at this
 exact this
theorem vt:PlainAttrs "re.Pattern" where
 ga:=⟨"object.__getattribute__",by rw [typeLookup_type,builtinLookup_eq_fast]; kernel_rfl,by decide +kernel⟩
 noGetattr:=by rw [typeLookup_type,builtinLookup_eq_fast]; kernel_rfl
theorem iI:Slot "re.Pattern" "search" "re.Pattern.search":=
 .of (owner:="re.Pattern") (n:="search") (by rw [typeLookup_type,builtinLookup_eq_fast]; kernel_rfl) (by decide +kernel) (by decide +kernel) (by decide +kernel)
  (by first | exact .inl (by decide +kernel) | exact .inr (by decide +kernel)) (by rw [isSubtype_type]; kernel_rfl)
theorem ng:typeOf (.builtin "re.Pattern.search")=pure (.type "method_descriptor"):=by show builtinType _=_; rw [Md]; kernel_rfl
theorem lf:entryFor table "re.Pattern.search"=some Builtin.«re.Pattern.search»:=entryFor_of_tree (by kernel_rfl)
theorem uK:Manifest.owners.lookup (String.ofList ['n','r','e','t','t','a','P','.','e','r'].reverse)=some Manifest.sig_re_Pattern:=by kernel_rfl
theorem lW (a b:Value):argsOk "re.Pattern.search" ⟨[a,b],[]⟩:=by
 unfold argsOk; rw [signature?_of (id:="re.Pattern.search") (n:=['h','c','r','a','e','s']) (o:=['n','r','e','t','t','a','P','.','e','r']) (by kernel_rfl) uK]; kernel_rfl
structure ReOk (G:Glob) (pats:List Nat) (words:List (List Nat)):Prop where
 obj:∀ a∈pats,∃ o,G.K.lookup a=some o∧o.cls=.type "re.Pattern"∧o.dict=none
 none:∀ a∈pats,∀ x∈words,∀ t,peek G.K ⟨G.prog,G.w.params⟩ (Builtin.«re.Pattern.search» ⟨[.ref a,.str ⟨x.toArray⟩ t],[]⟩)=some (.done (.ret .none))
noncomputable def zB (words:List (List Nat)) (vs:List V) (σ:St) (Q:V→St→Prop):Prop:=mE vs fun v=>cE v fun x=>onT (fb x words) (Q .non σ)
noncomputable def Ku (v:V) (k:Nat→Prop):Prop:=match v with | .gl a=>k a | _=>False
theorem r1 {o:PySem.Expr} {do_:DE} {pats:List Nat} {words:List (List Nat)} (ok:G.Ok) (H:ReOk G pats words) (ho:SE G lv sc o do_) :
  SM G lv sc o "search" [] (fun σ K=>do_ σ fun v σ1=>Ku v fun a=>onT (ki a pats) (K (fun vs _=>zB words vs) σ1)):=fun σ K hd A env X s hA he R=>by
 refine ho.run hd hA he R fun ov s1 v σ1 X1 k1 L1 n1 R1 W1=>fun pl Q' k=>?_
 cases v with
 | gl a=>
  cases (W1.inv:ov=.ref a)
  apply bc;intro z_
  obtain ⟨q,k1⟩:=onT.out k1
  have hm:a∈pats:=qH q
  obtain ⟨ob,h1,h2,h3⟩:=H.obj a hm
  apply z_;clear z_
  have hT:∀ {s:Shared},G.K.In s.heap→s.TypeIs (.ref a) "re.Pattern":=fun hK=>⟨ob,hK _ _ h1,h2⟩
  refine getMethod_builtin (hT (R1.K ok)) vt iI ng (fun b e=>by cases e; exact ⟨ob,R1.K ok _ _ h1,h3⟩) (k _ _ _ _ _ _ k1 L1 n1 R1 ?_)
  intro A2 X2 σ2 s2 vs kvs Q vals kvals ha2 L hn hd2 R2 Wv Wk
  refine ⟨fun Q' k=>LE (k .machine (by decide)),Wv.on1_ hd2 fun x val Wx hd2=>Wx.str_ hd2 fun x t hd2=>?_⟩
  apply bc;intro z_
  obtain ⟨q2,hd2⟩:=onT.out hd2
  apply z_;clear z_
  have hx:x∈words:=by rw [b8] at q2; exact List.contains_iff_mem.mp q2
  exact LJ iI (hT (R2.K ok)) lf ((Looks.of_peek (M:=model G.prog G.w) (R2.K ok) (H.none a hm x hx t)).here ⟨.none,rfl,Post.ret hd2 R2 .non⟩) (lW _ _)
 | _=>exact k1.elim
section
variable {b:Array UInt8} {t:Tok} {x:PySem.Str} {n:Nat}
theorem oW {id:String}:Builtin._codecs.decodeRoad id b (PySem.Str.ofString "ascii") none []=(Builtin._codecs.runDecoder id Builtin._codecs.asciiDecoder none true b 0 [] >>= fun r=>mkStr ⟨r.1⟩):=by kernel_rfl
theorem o6 {t1 t2:Tok} {d:PySem.Str} (hd:∀ id,Builtin._codecs.runDecoder id Builtin._codecs.asciiDecoder none true b 0 []=pure (x.cps,n)) :
  Meets (Builtin.«_codecs.decode.text» ⟨[.bytes b t,.str (PySem.Str.ofString "ascii") t1,.none,.str d t2],[]⟩) (fun _ R s=>x.length≤sizeLine∧R (.ok (.ret (.str x s.toks))) {s with toks:=s.toks+1}):=by
 refine .of_wp fun prog w A R s hS=>?_
 apply bc;intro z_
 obtain ⟨hsz,h⟩:=hS
 apply z_;clear z_
 show wpAny _ _ (Builtin.Bytes.bytesLike _ (.bytes b t) >>= fun r=>_) _ _ s
 refine LD (LI KBd.like_eq ?_)
 refine LD (LI KBd.held_eq ?_)
 show wpAny _ _ (Builtin._codecs.decodeRoad _ b (PySem.Str.ofString "ascii") none [] >>= fun v=>_) _ _ s
 rw [oW,hd]
 refine LD (LD (LE ?_))
 exact wpAny_mkStr (LE ⟨_,rfl,h⟩) hsz
theorem l5 (c:UInt8) (cs:List UInt8) (t u:Tok):Builtin.«bytes.decode» ⟨[.bytes (c::cs).toArray t,.str (PySem.Str.ofString "ascii") u],[]⟩=(mkStr (PySem.Str.ofString "utf-8") >>= fun _=>mkStr (PySem.Str.ofString "ascii") >>= fun e=>mkStr (PySem.Str.ofString "bytes.decode") >>= fun d=>
  call (.builtin "_codecs.decode.text") [.bytes (c::cs).toArray t,e,.none,d] >>= fun v=>ret v):=by kernel_rfl
theorem mw {c:UInt8} {cs:List UInt8} {u:Tok} (hd:∀ id,Builtin._codecs.runDecoder id Builtin._codecs.asciiDecoder none true (c::cs).toArray 0 []=pure (x.cps,n)) :
  Meets (Builtin.«bytes.decode» ⟨[.bytes (c::cs).toArray t,.str (PySem.Str.ofString "ascii") u],[]⟩) (fun _ R s=>x.length≤sizeLine∧∀ t' k,R (.ok (.ret (.str x t'))) {s with toks:=k}):=by
 refine .of_wp fun prog w A R s hS=>?_
 obtain ⟨hsz,h⟩:=hS
 rw [l5]
 refine LD (wpAny_mkStr ?_ (by decide))
 refine LD (wpAny_mkStr ?_ (by decide))
 refine LD (wpAny_mkStr ?_ (by decide))
 exact LD (call_function_meets KBd.kind_text KBd.plain_text KBd.entry_text (KBd.args_text _ _ _ _) (o6 hd) ⟨hsz,LE ⟨_,rfl,h _ _⟩⟩)
theorem kW (a b:Value):argsOk "bytes.decode" ⟨[a,b],[]⟩:=by unfold argsOk; kernel_rfl
end
noncomputable def lK:List (List UInt8):=[[65],[66],[67],[68],[69],[70],[71],[72],[66,65],[66,66],[66,67],[66,68],[66,69],[66,70],[66,71],[66,72],[66,73]]
noncomputable def jA:List UInt8→List Nat
 | []=>[]
 | c::r=>c.toNat::jA r
noncomputable def HY:List UInt8→List UInt8→Bool
 | [],[]=>true
 | a::r,b::t=>match Nat.beq a.toNat b.toNat with
  | true=>HY r t
  | false=>false
 | _,_=>false
theorem sW:∀ {x y:List UInt8},HY x y=true→x=y
 | [],[],_=>rfl
 | a::r,b::t,h=>by
  unfold HY at h
  cases q:Nat.beq a.toNat b.toNat with
  | false=>rw [q] at h; first | exact nS h | exact nB h | cases h
  | true=>
   rw [q] at h
   rw [sW h,UInt8.toNat_inj.mp (L8 q)]
 | [],_::_,h=>by cases h
 | _::_,[],h=>by cases h
noncomputable def l4 (x:List UInt8):List (List UInt8)→Bool
 | []=>false
 | y::r=>match HY x y with
  | true=>true
  | false=>l4 x r
theorem kh {x:List UInt8}:∀ {l:List (List UInt8)},l4 x l=true→x∈l
 | [],h=>by cases h
 | y::r,h=>by
  unfold l4 at h
  cases q:HY x y with
  | true=>rw [sW q]; exact LY ..
  | false=>rw [q] at h; exact LQ _ (kh h)
theorem rx:∀ x∈lK,∃ c cs n,x=c::cs∧(∀ id,Builtin._codecs.runDecoder id Builtin._codecs.asciiDecoder none true (c::cs).toArray 0 []=pure ((jA x).toArray,n))∧(jA x).length≤1000:=by
 intro x hx
 simp only [lK,List.mem_cons,List.not_mem_nil,or_false] at hx
 rcases hx with rfl | rfl | rfl | rfl | rfl | rfl | rfl | rfl | rfl | rfl | rfl | rfl | rfl | rfl | rfl | rfl | rfl
 ·exact ⟨_,_,1,rfl,fun id=>by kernel_rfl,by decide⟩
 ·exact ⟨_,_,1,rfl,fun id=>by kernel_rfl,by decide⟩
 ·exact ⟨_,_,1,rfl,fun id=>by kernel_rfl,by decide⟩
 ·exact ⟨_,_,1,rfl,fun id=>by kernel_rfl,by decide⟩
 ·exact ⟨_,_,1,rfl,fun id=>by kernel_rfl,by decide⟩
 ·exact ⟨_,_,1,rfl,fun id=>by kernel_rfl,by decide⟩
 ·exact ⟨_,_,1,rfl,fun id=>by kernel_rfl,by decide⟩
 ·exact ⟨_,_,1,rfl,fun id=>by kernel_rfl,by decide⟩
 ·exact ⟨_,_,2,rfl,fun id=>by kernel_rfl,by decide⟩
 ·exact ⟨_,_,2,rfl,fun id=>by kernel_rfl,by decide⟩
 ·exact ⟨_,_,2,rfl,fun id=>by kernel_rfl,by decide⟩
 ·exact ⟨_,_,2,rfl,fun id=>by kernel_rfl,by decide⟩
 ·exact ⟨_,_,2,rfl,fun id=>by kernel_rfl,by decide⟩
 ·exact ⟨_,_,2,rfl,fun id=>by kernel_rfl,by decide⟩
 ·exact ⟨_,_,2,rfl,fun id=>by kernel_rfl,by decide⟩
 ·exact ⟨_,_,2,rfl,fun id=>by kernel_rfl,by decide⟩
 ·exact ⟨_,_,2,rfl,fun id=>by kernel_rfl,by decide⟩
noncomputable def kY:List Nat:=[97,115,99,105,105]
noncomputable def pH (vs:List V) (σ:St) (Q:V→St→Prop):Prop:=D6 vs fun v w=>uI v fun b=>cE w fun e=>match kl e kY with
 | true=>(match l4 b lK with
  | true=>Q (.str (jA b)) σ
  | false=>False)
 | false=>False
theorem rC:CB G lv (.builtin "bytes.decode") [] (fun vs _=>pH vs):=CB.of (fun a w=>by cases w) fun vs σ Q hd A env X s vals ha R W=>by
 refine W.on2_ hd fun v w val val' Wv Ww hd=>Wv.byt_ hd fun b t hd=>Ww.str_ hd fun e u hd=>?_
 cases q1:kl e kY with
 | false=>simp only [q1] at hd
 | true=>
  simp only [q1] at hd
  cases q2:l4 b lK with
  | false=>simp only [q2] at hd
  | true=>
   simp only [q2] at hd
   have he:e=kY:=by rw [dG] at q1; exact Mx q1
   subst he
   apply bc;intro z_
   obtain ⟨c,cs,m,rfl,h1,h2⟩:=rx b (kh q2)
   apply z_;clear z_
   have hs:(⟨kY.toArray⟩:Str)=Str.ofString "ascii":=by decide +kernel
   rw [hs]
   refine call_meets FB.slot_bytes_decode (typeIs_bytes _ _ _) FB.entry_bytes_decode (kW _ _) (mw (x:=⟨(jA (c::cs)).toArray⟩) h1) ⟨by rw [bK,L6]; omega,fun t' k=>?_⟩
   exact Post.ret hd (R.toks _) (.str _ _)
noncomputable def B6 (v:V) (σ:St) (Q:List Nat→St→Prop):Prop:=cE v fun x=>fits x.length (Q x σ)
theorem AE {a x m:Nat} (h:a+1000000*(m+1)≤16000000) (hx:x≤1000000):a+x+1000000*m≤16000000:=by omega
theorem B7 {v:V} {val:Value} {Q:List Nat→St→Prop} (h:B6 v σ Q) (R:Rel G X env σ s) (W:RepV X σ.nx v val) :
  wpAny (model G.prog G.w) A (formatField val Str.empty) (fun r s'=>∃ x t,r=.str ⟨x.toArray⟩ t∧x.length≤1000000∧Q x σ∧Rel G X env σ s') bg s:=by
 refine W.str_ h fun x t h=>?_
 apply bc;intro z_
 obtain ⟨hz,h⟩:=fits.out h
 apply z_;clear z_
 exact wpAny_formatField_str ⟨x,t,rfl,hz,h,R⟩ ⟨x,_,rfl,hz,h,R.toks _⟩
noncomputable abbrev A1:=St→(List Nat→St→Prop)→Prop
noncomputable def wj (G:Glob) (lv:Nat) (sc:Sc) (es:List PySem.Expr) (d:A1):Prop:=∀ σ Q,d σ Q→∀ A env X s (acc:List Nat) (F:Str→Shared→Prop),AOk lv A→EOk sc env→Rel G X env σ s→acc.length+1000000*es.length≤16000000 →
 (∀ (x:List Nat) σ' X' s',Q x σ'→X.le σ.nx X'→σ.nx≤σ'.nx→Rel G X' env σ' s'→(acc++x).length≤acc.length+1000000*es.length→F ⟨(acc++x).toArray⟩ s')→Joins (model G.prog G.w) A bg (evalEach es env) ⟨acc.toArray⟩ F s
theorem j8:wj G lv sc [] (fun σ Q=>Q [] σ):=fun σ Q hd A env X s acc F ha he R hz k=>by
 have:=k [] σ X s hd .refl (LR _) R (by simp)
 rw [List.append_nil] at this
 exact this
theorem nr {e:PySem.Expr} {es:List PySem.Expr} {d:A1} {ds:A1}
  (h:∀ σ Q,d σ Q→∀ A env X s,AOk lv A→EOk sc env→Rel G X env σ s→wpAny (model G.prog G.w) A (eval e env) (fun v s1=>∃ x t σ1 X1,v=.str ⟨x.toArray⟩ t∧x.length≤1000000∧Q x σ1∧X.le σ.nx X1∧σ.nx≤σ1.nx∧Rel G X1 env σ1 s1) bg s)
  (hs:wj G lv sc es ds) (hev:∀ env,evalEach (e::es) env=eval e env::evalEach es env):wj G lv sc (e::es) (fun σ Q=>d σ fun x σ1=>ds σ1 fun y σ2=>Q (x++y) σ2):=fun σ Q hd A env X s acc F ha he R hz k=>by
 rw [hev]
 refine LF (h σ _ hd A env X s ha he R) (fun v s1 y_=>?_) fun _ _ z=>z
 apply bc;intro z_
 obtain ⟨x,t,σ1,X1,e1,hx,q1,L1,n1,R1⟩:=y_
 apply z_;clear z_
 refine ⟨⟨x.toArray⟩,t,e1,?_,?_⟩
 ·rw [gp,bK,List.length_append,L6]
  exact LN (LN (Nat.le_add_right ..) (AE hz hx)) (by decide)
 ·rw [gp]
  refine hs σ1 _ q1 A env X1 s1 (acc++x) F ha he R1 (by rw [List.length_append]; exact AE hz hx) fun y σ2 X2 s2 q2 L2 n2 R2 hl=>?_
  rw [List.append_assoc] at hl ⊢
  refine k (x++y) σ2 X2 s2 q2 (L1.trans L2 n1) (LN n1 n2) R2 (LN hl ?_)
  rw [List.length_append,List.length_cons,Nat.mul_succ,Nat.add_assoc,Nat.add_comm x.length]
  exact Nat.add_le_add_left (Nat.add_le_add_left hx _) _
theorem dD {x:Str} {cs:List Nat} {k:Nat} {p:Pos} {es:List PySem.Expr} {ds:A1} (hx:x=⟨cs.toArray⟩) (hz:Nat.ble cs.length 1000000=true) (hs:wj G lv sc es ds) (hev:∀ env,evalEach (.Constant (.str x) k p::es) env=eval (.Constant (.str x) k p) env::evalEach es env) :
  wj G lv sc (.Constant (.str x) k p::es) (fun σ Q=>ds σ fun y σ2=>Q (cs++y) σ2):=
 nr (d:=fun σ Q=>Q cs σ) (fun σ Q hd A env X s ha he R=>by
  subst hx
  have hz':cs.length≤1000000:=@LP cs.length 1000000 hz
  exact wpAny_Constant_str ⟨cs,_,σ,X,rfl,hz',hd,.refl,LR _,R.toks _⟩) hs hev
theorem gu {e:PySem.Expr} {d:DE} {p:Pos} {es:List PySem.Expr} {ds:A1} (h:SE G lv sc e d) (hs:wj G lv sc es ds) (hev:∀ env,evalEach (.FormattedValue e (-1) none p::es) env=eval (.FormattedValue e (-1) none p) env::evalEach es env) :
  wj G lv sc (.FormattedValue e (-1) none p::es) (fun σ Q=>d σ fun v σ1=>B6 v σ1 fun x σ2=>ds σ2 fun y σ3=>Q (x++y) σ3):=
 nr (d:=fun σ Q=>d σ fun v σ1=>B6 v σ1 Q) (fun σ Q hd A env X s ha he R=>by
  refine wpAny_FormattedValue_plain (h.run hd ha he R fun val s1 v σ1 X1 k1 L1 n1 R1 W1=>?_)
  exact LF (B7 k1 R1 W1) (fun r s2 ⟨x,t,e1,hz,q,R2⟩=>⟨x,t,σ1,X1,e1,hz,q,L1,n1,R2⟩) fun _ _ z=>z) hs hev
theorem en {es:List PySem.Expr} {d:A1} {p:Pos} (h:wj G lv sc es d) (h2:2≤es.length) (h3:es.length≤15):SE G lv sc (.JoinedStr es p) (fun σ Q=>d σ fun x σ1=>Q (.str x) σ1):=fun σ Q hd A env X s ha he R=>by
 match es,h2,h3,h with
 | v1::v2::rest,_,h3,h=>
  refine wpAny_JoinedStr ?_
  refine h σ _ hd A env X s [] _ ha he R (by simp only [List.length_cons,List.length_nil] at h3 ⊢; omega) fun x σ1 X1 s1 q1 L1 n1 R1 hl=>?_
  rw [List.nil_append] at hl ⊢
  rw [List.length_nil,Nat.zero_add,List.length_cons,List.length_cons] at hl
  rw [List.length_cons,List.length_cons] at h3
  have hz:x.length≤15000000:=LN hl (Nat.mul_le_mul_left 1000000 h3)
  refine ⟨by rw [bK,L6]; exact LN hz (by decide),?_⟩
  exact ⟨_,σ1,X1,q1,L1,n1,R1.toks _,.str x _⟩
noncomputable def Al (vs:List V) (σ:St) (Q:V→St→Prop):Prop:=D6 vs fun u v=>fW u fun l=>onS (hU l σ) fun kvs=>cE v fun k=>Q (match iD k kvs with | some v=>v | none=>.non) σ
theorem f9 {b:List PySem.Stmt}:iQ G lv sc b (fun _ _=>False):=fun σ Q hd=>hd.elim
theorem eU {e:PySem.Expr}:SE G lv sc e (fun _ _=>False):=fun σ Q hd=>hd.elim
theorem HA {e:PySem.Expr}:SB G lv sc e (fun _ _=>False):=fun σ Q hd=>hd.elim
theorem oF {k:List Nat} {kvs:List (List Nat×V)}:∀ {kvals:List (Str×Value)},PairsAre X n kvs kvals→iD k kvs=none→valueAt kvals ⟨k.toArray⟩=none:=by
 induction kvs with
 | nil=>intro kvals h e; cases kvals with | nil=>rfl | cons=>exact h.elim
 | cons p r ih=>
  intro kvals h e
  cases kvals with
  | nil=>exact h.elim
  | cons p' r'=>
   apply bc;intro z_
   obtain ⟨x,v⟩:=p
   obtain ⟨y,val⟩:=p'
   obtain ⟨rfl,hv,hr⟩:=h
   apply z_;clear z_
   have e:(match kl x k with | true=>some v | false=>iD k r)=none:=e
   rw [dG] at e
   by_cases q:x=k
   ·rw [Mb q] at e; cases e
   ·rw [Ma q] at e
    have:=ih hr e
    have q':¬ ((⟨x.toArray⟩:Str)=⟨k.toArray⟩):=fun w=>q (by simpa using w)
    unfold valueAt at this ⊢
    rw [List.find?_cons_of_neg (by simpa using q')]; exact this
theorem AW:CB G lv (.builtin "dict.get") [] (fun vs _=>Al vs):=CB.of (fun a w=>by cases w) fun vs σ Q hd A env X s vals ha R W=>by
 refine W.on2_ hd fun u v val val' Wl Wv hd=>Wl.loc_ hd fun l hd=>?_
 apply bc;intro z_
 obtain ⟨kvs,q,hd⟩:=onS.out hd
 apply z_;clear z_
 have q:=dq q
 refine Wv.str_ hd fun k t hd=>?_
 apply bc;intro z_
 obtain ⟨_,kvals,h1,h2⟩:=R.st l _ q
 apply z_;clear z_
 have hk:(PySem.strKind G.prog G.w).is ⟨k.toArray⟩ (.str ⟨k.toArray⟩ t)=true:=strKind_is _ _ _ _
 refine call_meetsIn F.slot_dict_get h1.typeIs F.entry_dict_get (F.args_dict_get_2 _ _) (meets_dict_get (PySem.strKind G.prog G.w) (X.ρ l) hk (eT R q)) ⟨_,h1.mapOf,?_⟩
 cases q2:iD k kvs with
 | some v=>
  rw [q2] at hd
  apply bc;intro z_
  obtain ⟨val,e1,Wv⟩:=kB h2 q2
  apply z_;clear z_
  rw [e1]
  exact Post.ret hd (R.toks _) Wv
 | none=>
  rw [q2] at hd
  rw [oF h2 q2]
  exact Post.ret hd (R.toks _) .non
theorem sa {target o:PySem.Expr} {body:List PySem.Stmt} {ap cp p:Pos} {do_:DE} (ok:G.Ok) (ho:SE G lv sc o do_) (hb:∀ env,attributeBase o (Str.ofString "items") env (eval o env)=eval o env) (hl:(ap.endLine==cp.line)=true)
  (hs:∀ env x,foldedSetIterable (.Call (.Attribute o (Str.ofString "items") ap) [] [] cp) env x=pure x) :
  SS G lv sc (.For target (.Call (.Attribute o (Str.ofString "items") ap) [] [] cp) body [] p) (fun σ Q=>do_ σ fun v σ1=>fW v fun l=>onS (hU l σ1) fun kvs=>onNil kvs (Q .next σ1)):=fun σ Q hd A env X s ha he R=>by
 refine wpAny_For ?_ (hs env)
 refine wpAny_Call_method (T:="dict") (id:="dict.items") (hb env) rfl hl F.plainAttrs_dict F.slot_dict_items F.type_dict_items (ho.run hd ha he R fun ov s1 v σ1 X1 k1 L1 n1 R1 W1=>?_)
 refine W1.loc_ k1 fun l k1=>?_
 apply bc;intro z_
 obtain ⟨kvs,q,k1⟩:=onS.out k1
 have q:=dq q
 obtain ⟨rfl,k1⟩:=onNil.out k1
 obtain ⟨_,kvals,h1,h2⟩:=R1.st l _ q
 apply z_;clear z_
 obtain rfl:kvals=[]:=by cases kvals with | nil=>rfl | cons=>exact h2.elim
 refine ⟨h1.typeIs,h1.mapOf.noDict,?_⟩
 show wpAny _ _ (callWith cp (.builtin "dict.items") [.ref (X1.ρ l)] [] []) _ _ s1
 refine method_meetsIn F.slot_dict_items F.entry_dict_items rfl (PySem.evalArgs_none ⟨rfl,h1.typeIs,F.args_dict_items_1 _,_,meets_dict_items (PySem.strKind G.prog G.w) (X1.ρ l) (eT R1 q),⟨[],h1⟩,?_⟩)
 apply bc;intro z_
 obtain ⟨ep,hat⟩:=h1.dictAt
 apply z_;clear z_
 refine wpAny_pyIter_items (knd:=PySem.strKind G.prog G.w) (d:=X1.ρ l) (kvs:=[]) (ep:=ep) ⟨_,LT _ rfl,rfl,rfl⟩ (hat.push _) ?_
 refine codeAny_forLoop_any (fun k s=>∃ h',s={s1 with heap:=h'}∧(∀ b o,s1.heap.get? b=some o→h'.get? b=some o)∧∃ it ok' ov',IsItemIter h' it (X1.ρ l) 0 0 ep ok' ov'∧it=(s1.heap.push {cls:=.type "dict_items",data:=.fields #[.ref (X1.ρ l)]}).objs.size∧h'.DictAt (PySem.strKind G.prog G.w) (X1.ρ l) [] ep) ?_ 0 ?_
 ·rintro k s2 ⟨h',rfl,hk,it,ok',ov',hit,rfl,hat'⟩
  refine wpAny_pyNext_items_end (kvs:=([]:List (Str×Value))) ha.handled hit hat' rfl fun h2 hk2=>?_
  refine wpAny_execs_nil ?_
  have hlt:s1.heap.objs.size<(s1.heap.push {cls:=.type "dict_items",data:=.fields #[.ref (X1.ρ l)]}).objs.size:=by rw [Heap.size_push]; exact LX _
  exact ⟨.next,σ1,X1,k1,L1,n1,R1.keeps (s':={s1 with heap:=h2}) (fun b o e=>hk2 b o (Ms (Nat.lt_trans (L7 e) hlt)) (hk b o e)) rfl rfl R1.gens,.next⟩
 ·exact ⟨_,rfl,fun b o e=>LM _ (LM _ e),_,.none,.none,LT _ rfl,rfl,(hat.push _).push _⟩
theorem ww {x y:Str} {i j:Nat} {np yp ap cp p:Pos} {d:Addr} {kvs:List (Str×Value)} {od:Obj} (ok:G.Ok) (hx:sc.names[i]?=some (x,.globalImplicit)) (hg:nsIn G.K mainGlobals x=some none) (hn:x≠"__name__") (hb:bootBuiltins x=some (.type "list"))
  (hdb:(x==("__debug__":Str))=false) (hy:sc.names[j]?=some (y,.globalImplicit)) (hgy:nsIn G.K mainGlobals y=some (some (.ref d))) (hdy:(y==("__debug__":Str))=false)
  (hd:∀ h:Heap,G.K.In h→h.DictOf (PySem.strKind G.prog G.w) d kvs) (hsys:(d==sysModules)=false) (hz:kvs.length≤1000) (hl:(ap.endLine==cp.line)=true) :
  SE G lv sc (.Call (.Name x np) [.Call (.Attribute (.Name y yp) (Str.ofString "items") ap) [] [] cp] [] p) (fun σ Q=>Q .junk σ):=fun σ Q hq A env X s ha he R=>by
 refine wpAny_Call_ofName (wpAny_Name (cZ ok he R hx hg hn hb ?_) hdb)
 refine bT (by rfl) (by rfl) ?_
 show wpAny _ _ (spliced [(false,eval (.Call (.Attribute (.Name y yp) (Str.ofString "items") ap) [] [] cp) env)]) _ _ _
 refine spliced_cons ?_
 refine wpAny_Call_method (T:="dict") (id:="dict.items") rfl rfl hl F.plainAttrs_dict F.slot_dict_items F.type_dict_items ((no (lv:=lv) ok hy hgy hdy).run (K:=fun v σ'=>v=.gl d∧Q .junk σ') ⟨rfl,hq⟩ ha he R fun ov s1 v σ1 X1 k1 L1 n1 R1 W1=>?_)
 apply bc;intro z_
 obtain ⟨rfl,k1⟩:=k1
 apply z_;clear z_
 cases W1
 have h1:=hd s1.heap (R1.K ok)
 refine ⟨h1.typeIs,h1.mapOf.noDict,?_⟩
 show wpAny _ _ (callWith cp (.builtin "dict.items") [.ref d] [] []) _ _ s1
 refine method_meetsIn F.slot_dict_items F.entry_dict_items rfl (PySem.evalArgs_none ⟨rfl,h1.typeIs,F.args_dict_items_1 _,_,meets_dict_items (PySem.strKind G.prog G.w) d hsys,⟨kvs,h1⟩,?_⟩)
 refine spliced_nil (LE ⟨fun Q' k=>LE (k _ (by decide)),?_⟩)
 apply bc;intro z_
 obtain ⟨ep,hat⟩:=h1.dictAt
 apply z_;clear z_
 show wpAny _ _ (call (.type "list") [.ref s1.heap.objs.size]) _ _ _
 refine kdx_call (knd:=PySem.strKind G.prog G.w) (d:=d) (kvs:=kvs) (ep:=ep) ha.handled ⟨_,LT _ rfl,rfl,rfl⟩ (hat.push _) (by rw [L6]; omega) fun h' tk acc c as hk hg' hlen hG hacc=>?_
 exact Post.lift L1 n1 (Post.ret k1 (R1.keeps (s':={s1 with heap:=h',toks:=tk}) (fun b o e=>hk b o (LM _ e)) rfl rfl R1.gens) (.junk _))
noncomputable def C5:List Nat→List V→List (Nat×V)
 | i::r,v::t=>(i,v)::C5 r t
 | _,_=>[]
theorem qp {fd:FuncData} {np ik:Nat} {is:List Nat} {xs:List Str} {kx:Str} (ok:G.Ok) (hl:is.length=np) (hl2:xs.length=np)
  (hx:∀ (j i:Nat) (x:Str),is[j]?=some i→xs[j]?=some x→sc.names[i]?=some (x,NameKind.local)∨sc.names[i]?=some (x,NameKind.cell)) (hk:sc.names[ik]?=some (kx,NameKind.local)) (nd:(xs++[kx]).Nodup)
  (hb:∀ vals:List Value,vals.length=np→bindArgs fd ⟨vals,[]⟩=(alloc {cls:=.type "dict",data:=.dict #[]} >>= fun d=>pure (xs.zip vals++[(kx,.ref d)]))) :
  J3 G fd sc [] (fun vs kvs σ K=>match Nat.beq vs.length np with
   | true=>K (C5 is vs++[(ik,.loc σ.nx)]) {σ with st:=(σ.nx,.dict [])::σ.st,nx:=σ.nx+1}
   | false=>False):=fun vs kvs σ K hd' A env X s vals kvals R W Wk=>by
 cases q1:Nat.beq vs.length np with
 | false=>simp only [q1] at hd'
 | true=>
  simp only [q1] at hd'
  have hv:=L8 q1
  show wpAny _ _ (bindArgs fd ⟨vals,[]⟩) _ _ _
  rw [hb vals (by rw [W.length]; exact hv)]
  refine LD (wpAny_alloc (LE ?_))
  apply bc;intro z_
  obtain ⟨R',L⟩:=R.anew (o:=.dict []) (s':={s with heap:=s.heap.push {cls:=.type "dict",data:=.dict #[]}}) aL (R.size ok) (fun _ _ e=>LM _ e)
   (fun X' L=>⟨[],Heap.DictOf.new s.heap,trivial⟩) rfl rfl R.gens
  apply z_;clear z_
  refine ⟨_,_,_,hd',L,Mj _,rfl,R',?_,?_,fun b o e=>LM _ e⟩
  ·have W':=W.mono L (Mj _)
   have Wl:RepV {X with ρ:=fun l=>if l=σ.nx then s.heap.objs.size else X.ρ l} (σ.nx+1) (.loc σ.nx) (.ref s.heap.objs.size):=by
    have:=RepV.loc (X:={X with ρ:=fun l=>if l=σ.nx then s.heap.objs.size else X.ρ l}) (n:=σ.nx+1) σ.nx (LX _)
    dsimp only at this
    rw [LV rfl] at this
    exact this
   generalize ({X with ρ:=fun l=>if l=σ.nx then s.heap.objs.size else X.ρ l}:Wd)=Y at W' Wl
   clear hd' hb nd R' L
   have:∀ (is:List Nat) (xs:List Str) (vs:List V) (vals:List Value),is.length=xs.length→vs.length=xs.length→RepVs Y (σ.nx+1) vs vals →
     (∀ (j i:Nat) (x:Str),is[j]?=some i→xs[j]?=some x→sc.names[i]?=some (x,NameKind.local)∨sc.names[i]?=some (x,NameKind.cell)) →
     BindsOk sc.names Y (σ.nx+1) (C5 is vs++[(ik,.loc σ.nx)]) (xs.zip vals++[(kx,.ref s.heap.objs.size)]):=by
    intro is
    induction is with
    | nil=>
     intro xs vs vals h1 h2 W hx
     cases xs with
     | cons=>simp at h1
     | nil=>
      cases vs with
      | cons=>simp at h2
      | nil=>cases W; exact .cons hk (.inl rfl) Wl .nil
    | cons i is ih=>
     intro xs vs vals h1 h2 W hx
     cases xs with
     | nil=>simp at h1
     | cons x xs=>
      cases vs with
      | nil=>simp at h2
      | cons v vs=>
       cases W with
       | cons a b=>
        have r:=ih xs vs _ (by simpa using h1) (by simpa using h2) b (fun j i x a b=>hx (j+1) i x (by simpa using a) (by simpa using b))
        rcases hx 0 i x rfl rfl with h | h
        ·exact .cons h (.inl rfl) a r
        ·exact .cons h (.inr rfl) a r
   exact this is xs vs vals (by rw [hl,hl2]) (by rw [hv,hl2]) W' hx
  ·rw [List.map_append,List.map_fst_zip (by rw [hl2,W.length,hv]; exact LR _)]
   exact nd
noncomputable def tT (k:NameKind):Bool:=match k with
 | .globalImplicit=>true
 | _=>false
noncomputable def NamesOk (sc:Sc):Prop:=(sc.names.all fun p=>tT p.2 || (!(p.1==("__debug__":Str)) && !(p.1==("__classdict__":Str))))=true
theorem NamesOk.at_ (h:NamesOk sc) {i:Nat} {x:Str} {k:NameKind} (hx:sc.names[i]?=some (x,k)) (hk:tT k=false):(x==("__debug__":Str))=false∧(x==("__classdict__":Str))=false:=by
 have:=List.all_eq_true.mp h (x,k) (Mh hx)
 dsimp only at this
 rw [hk,Bool.false_or,Bool.and_eq_true] at this
 obtain ⟨a,b⟩:=this
 exact ⟨by simpa using a,by simpa using b⟩
noncomputable abbrev cS (x:Str):Prop:=(x==("__debug__":Str))=false
theorem aa {i:Nat} {x:Str} {k:NameKind} {p:Pos} (hN:NamesOk sc) (hx:sc.names[i]?=some (x,k)) (hk:tT k=false):SE G lv sc (.Name x p) (gi i):=rS hx (hN.at_ hx hk).1 (hN.at_ hx hk).2
theorem r3 {i:Nat} {x:Str} {p:Pos} {a:Addr} (ok:G.Ok) (hdb:cS x) (hx:sc.names[i]?=some (x,.globalImplicit)) (hg:nsIn G.K mainGlobals x=some (some (.ref a))) :
  SE G lv sc (.Name x p) (fun σ Q=>Q (.gl a) σ):=no ok hx hg hdb
structure Bltin (G:Glob) (x:Str) (v:Value):Prop where
 hg:nsIn G.K mainGlobals x=some none
 hn:x≠"__name__"
 hb:bootBuiltins x=some v
 hdb:cS x
theorem Hs {i:Nat} {x:Str} {p:Pos} {T:String} (ok:G.Ok) (hx:sc.names[i]?=some (x,.globalImplicit)) (b:Bltin G x (.type T)):SE G lv sc (.Name x p) (fun σ Q=>Q (.ty T) σ):=
 J0 ok hx b.hg b.hn b.hb b.hdb
theorem aJ {x:Str} {i:Nat} {np:Pos} {f:Value} {ks:List Str} {D:List V→List V→DE} (ok:G.Ok) (hx:sc.names[i]?=some (x,.globalImplicit)) (b:Bltin G x f) (hc:CB G lv f ks D):SC G lv sc (.Name x np) ks D:=
 qr ok hx b.hg b.hn b.hb b.hdb hc
theorem bA {x:Str} {i:Nat} {np:Pos} {a:Addr} {ks:List Str} {D:List V→List V→DE} (ok:G.Ok) (hdb:cS x) (hx:sc.names[i]?=some (x,.globalImplicit)) (hg:nsIn G.K mainGlobals x=some (some (.ref a)))
  (hc:CB G lv (.ref a) ks D):SC G lv sc (.Name x np) ks D:=rL ok hx hg hdb hc
noncomputable def wC (i:Nat) (d:DE):DS:=fun σ Q=>gi i σ fun old σ0=>d σ0 fun v σ1=>Bj old v σ1 fun r σ2=>Q .next (c9 i r σ2)
theorem z9 {i:Nat} {x:Str} {k:NameKind} {e:PySem.Expr} {d:DE} {p q:Pos} (ok:G.Ok) (hN:NamesOk sc) (hx:sc.names[i]?=some (x,k)) (hk:k=.local∨(k=.cell∧sc.fn=true)) (h:SE G lv sc e d):SS G lv sc (.AugAssign (.Name x p) .Add e q) (wC i d):=Hw ok hx hk (hN.at_ hx (by rcases hk with h | ⟨h,_⟩ <;> subst h <;> rfl)).2 h
theorem J2 {x:Str} {i:Nat} {k:NameKind} {np:Pos} {f:Nat} {ks:List Str} {D:List V→List V→DE} (ok:G.Ok) (hN:NamesOk sc) (hx:sc.names[i]?=some (x,k)) (hk:tT k=false) (h:FN G lv f ks D) :
  Hv G lv sc (.Name x np) ks (fun σ K=>gi i σ fun v σ1=>D7 v fun f' C' l=>onT (Nat.beq f' f) (K (fun vs kvs=>D (.obj C' l::vs) kvs) σ1)):=JX (C:=0) ok hx (hN.at_ hx hk).1 (hN.at_ hx hk).2 h
theorem wD {x:Str} {i:Nat} {k:NameKind} {np:Pos} (hN:NamesOk sc) (hx:sc.names[i]?=some (x,k)) (hk:tT k=false) :
  Hv G lv sc (.Name x np) [] (fun σ K=>gi i σ fun v σ1=>xC v fun l=>K (fun vs _=>wO l vs) σ1):=JW hx (hN.at_ hx hk).1 (hN.at_ hx hk).2
theorem po {x name:Str} {np p:Pos} {C:Addr} {i:Nat} {mc:Value} {cs:List Nat} {t:Tok} (ok:G.Ok) (hdb:cS x) (hx:sc.names[i]?=some (x,.globalImplicit)) (hg:nsIn G.K mainGlobals x=some (some (.ref C)))
  (hr:readsIn G.K C mc=true) (e:findCls G.K (.ref C) mc name=some (.val (.str ⟨cs.toArray⟩ t))):SE G lv sc (.Attribute (.Name x np) name p) (fun σ Q=>Q (.str cs) σ):=wr ok hx hg hdb hr e
theorem cW {x:Str} {i:Nat} {np p:Pos} {args:List PySem.Expr} {f:Value} {D:List V→DI} {da:DA} (ok:G.Ok) (hx:sc.names[i]?=some (x,.globalImplicit)) (b:Bltin G x f)
  (hf:∀ a,f≠.ref a) (hc:CI G lv tg f D) (ha:SA G lv sc args da)
  (h1:∀ env pos,(backTo pos (starEach args env)).any (·.1)=false) :
  SI G lv sc tg (.Call (.Name x np) args [] p) (fun σ K=>da σ fun vs σ1=>D vs σ1 K):=wF ok hx b.hg b.hn b.hb b.hdb hf hc ha h1
theorem wE {x y:Str} {i j:Nat} {np yp ap cp p:Pos} {d:Addr} {kvs:List (Str×Value)} (ok:G.Ok) (hx:sc.names[i]?=some (x,.globalImplicit)) (b:Bltin G x (.type "list")) (hy:sc.names[j]?=some (y,.globalImplicit)) (hgy:nsIn G.K mainGlobals y=some (some (.ref d)))
  (hdy:cS y) (hd:∀ h:Heap,G.K.In h→h.DictOf (PySem.strKind G.prog G.w) d kvs) (hsys:(d==sysModules)=false) (hz:kvs.length≤1000) (hl:(ap.endLine==cp.line)=true) :
  SE G lv sc (.Call (.Name x np) [.Call (.Attribute (.Name y yp) (Str.ofString "items") ap) [] [] cp] [] p) (fun σ Q=>Q .junk σ):=ww (od:=default) ok hx b.hg b.hn b.hb b.hdb hy hgy hdy hd hsys hz hl
theorem AOk.down (h:AOk lv' A) (l:Nat.ble lv lv'=true):AOk lv A:=by
 have l:=LP l
 have up:∀ {d k c:Nat},d+k*lv+c≤d+k*lv'+c:=Nat.add_le_add_right (Nat.add_le_add_left (Nat.mul_le_mul_left _ l) _) _
 exact ⟨h.handled,Mv up h.depth,Mv up h.units⟩
theorem FN.up {f:Addr} {ks:List Str} {D:List V→List V→DE} (h:FN G lv f ks D) (l:Nat.ble lv lv'=true):FN G lv' f ks D:=
 ⟨h.1,fun vs kvs σ Q hd A env X s vals kvals ha R W Wk=>h.2 vs kvs σ Q hd A env X s vals kvals (ha.down l) R W Wk⟩
theorem CB.up {f:Value} {ks:List Str} {D:List V→List V→DE} (h:CB G lv f ks D) (l:Nat.ble lv lv'=true):CB G lv' f ks D:=
 fun vs kvs σ Q hd A env X s vals kvals ha R W Wk=>h vs kvs σ Q hd A env X s vals kvals (ha.down l) R W Wk
theorem bJ {o:PySem.Expr} {do_:DE} (ho:SE G lv sc o do_):SM G lv sc o "append" [] (jF .list (fun vs _=>gw vs) do_):=ci (T:=.list) ho PySem.F.plainAttrs_list PySem.F.slot_list_append (by show builtinType _=_; rw [Md]; kernel_rfl) lP
theorem rY {o:PySem.Expr} {do_:DE} (ho:SE G lv sc o do_):SM G lv sc o "pop" [] (jF .list (fun vs _=>IP vs) do_):=ci (T:=.list) ho PySem.F.plainAttrs_list PySem.F.slot_list_pop (by show builtinType _=_; rw [Md]; kernel_rfl) Hg
theorem rW {o:PySem.Expr} {do_:DE} (ho:SE G lv sc o do_):SM G lv sc o "add" [] (jF .set (fun vs _=>HC vs) do_):=ci (T:=.set) ho PySem.F.plainAttrs_set PySem.F.slot_set_add (by show builtinType _=_; rw [Md]; kernel_rfl) Hf
theorem kR {o:PySem.Expr} {do_:DE} (ho:SE G lv sc o do_):SM G lv sc o "lower" [] (jF .str (fun vs _=>Iu vs) do_):=ci (T:=.str) ho PySem.F.plainAttrs_str PySem.F.slot_str_lower (by show builtinType _=_; rw [Md]; kernel_rfl) wl
theorem pn {o:PySem.Expr} {do_:DE} (ok:G.Ok) (ho:SE G lv sc o do_):SM G lv sc o "split" [] (jF .str (fun vs _=>vS vs) do_):=ci (T:=.str) ho PySem.F.plainAttrs_str PySem.F.slot_str_split (by show builtinType _=_; rw [Md]; kernel_rfl) (wn ok)
theorem kQ {o:PySem.Expr} {do_:DE} (ho:SE G lv sc o do_):SM G lv sc o "join" [] (jF .str (fun vs _=>tW vs) do_):=ci (T:=.str) ho PySem.F.plainAttrs_str PySem.F.slot_str_join (by show builtinType _=_; rw [Md]; kernel_rfl) AX
theorem A8 {o:PySem.Expr} {do_:DE} (ho:SE G lv sc o do_):SM G lv sc o "get" [] (jF .dict (fun vs _=>Al vs) do_):=ci (T:=.dict) ho PySem.F.plainAttrs_dict PySem.F.slot_dict_get (by show builtinType _=_; rw [Md]; kernel_rfl) AW
theorem rX {o:PySem.Expr} {do_:DE} (ho:SE G lv sc o do_):SM G lv sc o "decode" [] (jF .bytes (fun vs _=>pH vs) do_):=ci (T:=.bytes) ho FB.plainAttrs_bytes FB.slot_bytes_decode (by show builtinType _=_; rw [Md]; kernel_rfl) rC
noncomputable def pR (names:List (Str×NameKind)) (i:Nat) (x:Str):Bool:=match names[i]? with
 | some (y,.local)=>y==x
 | some (y,.cell)=>y==x
 | _=>false
set_option tactic.hygienic true in
theorem mi {names:List (Str×NameKind)} {i:Nat} {x:Str} (h:pR names i x=true):names[i]?=some (x,NameKind.local)∨names[i]?=some (x,NameKind.cell):=by
 unfold pR at h
 split at h
 ·rename_i y hy; rw [hy,beq_iff_eq.mp h]; exact .inl rfl
 ·rename_i y hy; rw [hy,beq_iff_eq.mp h]; exact .inr rfl
 ·first | exact nS h | exact nB h | cases h
noncomputable def jY {α β:Type} (f:α→β→Bool):List α→List β→Bool
 | a::r,x::t=>and (f a x) (jY f r t)
 | [],[]=>true
 | _,_=>false
theorem ix {α β:Type} {f:α→β→Bool} {l:List α}:∀ {xs:List β},jY f l xs=true→∀ (j:Nat) (a:α) (x:β),l[j]?=some a→xs[j]?=some x→f a x=true:=by
 induction l with
 | nil=>intro xs h j a x h1 _; cases h1
 | cons b r ih=>
  intro xs h j a x h1 h2
  cases xs with
  | nil=>cases h2
  | cons y t=>
   obtain ⟨q1,q2⟩:=Bool.and_eq_true_iff.mp h
   cases j with
   | zero=>cases h1; cases h2; exact q1
   | succ j=>exact ih q2 j a x h1 h2
noncomputable def IQ (names:List (Str×NameKind)):List (Nat×PS)→List Str→Bool:=jY fun p x=>pR names p.1 x
theorem bp {ps:List (Nat×PS)} {xs:List Str} (h:IQ sc.names ps xs=true) (j i:Nat) (p:PS) (x:Str) (h1:ps[j]?=some (i,p)) (h2:xs[j]?=some x):sc.names[i]?=some (x,NameKind.local)∨sc.names[i]?=some (x,NameKind.cell):=mi (ix h j (i,p) x h1 h2)
noncomputable def Io (names:List (Str×NameKind)):List Nat→List Str→Bool:=jY (pR names)
theorem xi {is:List Nat} {xs:List Str} (h:Io sc.names is xs=true) (j i:Nat) (x:Str) (h1:is[j]?=some i) (h2:xs[j]?=some x):sc.names[i]?=some (x,NameKind.local)∨sc.names[i]?=some (x,NameKind.cell):=mi (ix h j i x h1 h2)
noncomputable def It (names:List (Str×NameKind)) (i:Nat) (x:Str):Bool:=match names[i]? with
 | some (y,.local)=>y==x
 | _=>false
noncomputable def zF (names:List (Str×NameKind)):List Nat→List Str→Bool:=jY (It names)
set_option tactic.hygienic true in
theorem cj {is:List Nat} {xs:List Str} (h:zF sc.names is xs=true) (j i:Nat) (x:Str) (h1:is[j]?=some i) (h2:xs[j]?=some x):sc.names[i]?=some (x,NameKind.local):=by
 have h:=ix h j i x h1 h2
 unfold It at h
 split at h
 ·rename_i y hy; rw [hy,beq_iff_eq.mp h]
 ·first | exact nS h | exact nB h | cases h
noncomputable def HV (v:V) (val:Value):Bool:=match v with
 | .non=>(match val with | .none=>true | _=>false)
 | .boo a=>(match val with | .bool b=>a==b | _=>false)
 | .int a=>(match val with | .int b _=>a==b | _=>false)
 | _=>false
theorem wT {v:V} {val:Value} {X:Wd} {n:Nat} (h:HV v val=true):RepV X n v val:=by
 cases v with
 | non=>cases val with | none=>exact .non | _=>first | exact nS h | exact nB h | cases h
 | boo a=>cases val with | bool b=>rw [beq_iff_eq.mp h]; exact .boo _ | _=>first | exact nS h | exact nB h | cases h
 | int a=>cases val with | int b t=>rw [beq_iff_eq.mp h]; exact .int _ _ | _=>first | exact nS h | exact nB h | cases h
 | _=>first | exact nS h | exact nB h | cases h
noncomputable def Ec (ps:List (Nat×PS)):Bool:=ps.all fun p=>match p.2 with | .dfl v val=>HV v val | _=>true
theorem bV {ps:List (Nat×PS)} (h:Ec ps=true) (i:Nat) (v:V) (val:Value) (hm:(i,PS.dfl v val)∈ps) (X:Wd) (n:Nat):RepV X n v val:=wT (List.all_eq_true.mp h _ hm)
noncomputable def wX (sc:Sc):Env:={scope:=⟨.function,sc.names,false,false,[]⟩,locals:=0,globals:=0,cells:=[]}
theorem k8 (he:EOk sc env):env.blockKind=.function:=by
 unfold Env.blockKind; rw [he.kind]; rfl
theorem jr (he:EOk sc env):env.kindOf=(wX sc).kindOf:=by
 funext x; unfold Env.kindOf; rw [he.names]; rfl
theorem fQ (he:EOk sc env):env.blockKind=(wX sc).blockKind:=by rw [k8 he]; rfl
theorem cK {ts:List PySem.Expr} {e:PySem.Expr} (he:EOk sc env):swappedStores ts e env=swappedStores ts e (wX sc):=by
 unfold swappedStores; rw [jr he,fQ he]
theorem lH {e:PySem.Expr} {t:PySem.Str} {py:Pos} {line:Nat} (he:EOk sc env):swapsWith e (some (.Name t py)) line env=swapsWith e (some (.Name t py)) line (wX sc):=by
 unfold swapsWith; rw [jr he,fQ he]
noncomputable def sP {α:Type} (n:Nat) (l:List (Nat×α)):List (Nat×α):=@List.rec (Nat×α) (fun _=>List (Nat×α)) [] (fun p _ ih=>@Bool.rec (fun _=>List (Nat×α)) (p::ih) ih (Nat.beq n p.1)) l
theorem gR {α:Type} {n:Nat}:∀ {l:List (Nat×α)} {k:Nat},aq k (sP n l)=if k=n then none else aq k l
 | [],k=>by show aq k []=_; rw [ub]; simp
 | (m,b)::r,k=>by
  show aq k (@Bool.rec (fun _=>List (Nat×α)) ((m,b)::sP n r) (sP n r) (Nat.beq n m))=_
  rw [d4]
  by_cases h:n=m
  ·subst h; simp only [decide_true]; rw [gR,ax]; by_cases q:k=n <;> simp [q]
  ·simp only [h,decide_false]; rw [ax,ax,gR]
   by_cases q:k=m
   ·subst q; simp [Ne.symm h]
   ·simp [q]
theorem Rel.freeze {l:Nat} {o:AO} (ok:G.Ok) (R:Rel G X env σ s) (hl:aq l σ.st=some o) :
  Rel G {X with F:=fun a=>if a=X.ρ l then s.heap.get? a else X.F a,P:=fun a=>if a=X.ρ l then true else X.P a} env {σ with st:=sP l σ.st} s∧X.le σ.nx {X with F:=fun a=>if a=X.ρ l then s.heap.get? a else X.F a,P:=fun a=>if a=X.ρ l then true else X.P a}:=by
 have L:X.le σ.nx {X with F:=fun a=>if a=X.ρ l then s.heap.get? a else X.F a,P:=fun a=>if a=X.ρ l then true else X.P a}:=by
  refine ⟨fun _ _=>rfl,fun a o' e=>?_,fun a o' e=>?_⟩
  ·show (if a=X.ρ l then s.heap.get? a else X.F a)=some o'
   have:a≠X.ρ l:=fun q=>by rw [q,(R.own l _ hl).1] at e; cases e
   rw [LU this]; exact e
  ·show (if a=X.ρ l then true else X.P a)=X.P a
   have:a≠X.ρ l:=fun q=>by rw [q,(R.own l _ hl).1] at e; cases e
   rw [LU this]
 have hd:∀ k o',aq k (sP l σ.st)=some o'→k≠l∧aq k σ.st=some o':=fun k o' e=>by
  rw [gR] at e
  by_cases q:k=l
  ·rw [LV q] at e; cases e
  ·rw [LU q] at e; exact ⟨q,e⟩
 have hne:∀ k o',aq k (sP l σ.st)=some o'→X.ρ k≠X.ρ l:=fun k o' e q=>(hd k o' e).1 (R.inj k l _ _ (hd k o' e).2 hl q)
 refine ⟨⟨?_,?_,?_,?_,?_,?_,?_,?_,R.os,R.drawn,R.gens,fun a o' e=>let ⟨z1,z2,z3,r⟩:=R.hp a o' e; ⟨z1,(LU (z3 l _ hl).symm).trans z2,fun k o2 e2=>z3 k o2 (hd k o2 e2).2,r⟩⟩,L⟩
 ·intro a o' e
  dsimp only at e
  by_cases q:a=X.ρ l
  ·rw [LV q] at e; exact e
  ·rw [LU q] at e; exact R.sub a o' e
 ·exact fun a o' e h=>L.F a o' (R.base a o' e h)
 ·intro k o' e
  refine ⟨?_,(R.own k o' (hd k o' e).2).2⟩
  show (if X.ρ k=X.ρ l then _ else _)=none
  rw [LU (hne k o' e)]; exact (R.own k o' (hd k o' e).2).1
 ·exact fun k k' o1 o2 e1 e2 q=>R.inj k k' o1 o2 (hd _ _ e1).2 (hd _ _ e2).2 q
 ·exact fun k o' e=>R.big k o' (hd _ _ e).2
 ·exact fun k o' e=>⟨(R.st k o' (hd _ _ e).2).1,(R.st k o' (hd _ _ e).2).2.go L (LR _) rfl⟩
 ·refine ⟨R.tab.1,?_,ok.tbmono _ _ _ (fun a o' e _=>L.F a o' e) R.tab.2.2⟩
  show (if G.T=X.ρ l then _ else _)=none
  rw [LU (fun q=>(R.own l _ hl).2 q.symm)]; exact R.tab.2.1
 ·refine R.loc.go L (LR _) rfl (fun _ _ _=>rfl) ⟨?_,fun k o' e=>R.loc.freeL.2.1 k o' (hd _ _ e).2⟩ fun hf x c hc=>⟨?_,fun k o' e=>(R.loc.freeC hf x c hc).2.1 k o' (hd _ _ e).2⟩
  ·show (if env.locals=X.ρ l then _ else _)=none
   rw [LU (fun q=>R.loc.freeL.2.1 l _ hl q.symm)]; exact R.loc.freeL.1
  ·show (if c=X.ρ l then _ else _)=none
   rw [LU (fun q=>(R.loc.freeC hf x c hc).2.1 l _ hl q.symm)]; exact (R.loc.freeC hf x c hc).1
noncomputable def Ia (o:Option AO) (l:Nat) (σ:St) (Q:V→St→Prop):Prop:=match o with
 | some (.list vs)=>Q (.fro vs) {σ with st:=sP l σ.st}
 | some (.wds ss)=>Q (.fro (ss.map V.str)) {σ with st:=sP l σ.st}
 | _=>False
noncomputable def xb (v:V) (σ:St) (Q:V→St→Prop):Prop:=match v with
 | .fro vs=>Q (.fro vs) σ
 | .loc l=>Ia (aq l σ.st) l σ Q
 | _=>False
theorem iy {e:PySem.Expr} {d:DE} (ok:G.Ok) (h:SE G lv sc e d):SE G lv sc e (fun σ Q=>d σ fun v σ1=>xb v σ1 Q):=fun σ Q hd A env X s ha he R=>by
 refine h.run hd ha he R fun val s1 v σ1 X1 k L1 n1 R1 W1=>?_
 cases v with
 | fro vs=>exact ⟨_,σ1,X1,k,L1,n1,R1,W1⟩
 | loc l=>
  cases (W1.inv:val=.ref (X1.ρ l))
  have k:Ia (aq l σ1.st) l σ1 Q:=k
  have go:∀ {vs:List V} {ao:AO},aq l σ1.st=some ao→(∃ o vals,s1.heap.get? (X1.ρ l)=some o∧LObj "list" o vals∧RepVs X1 σ1.nx vs vals)→Q (.fro vs) {σ1 with st:=sP l σ1.st}→Post G X env σ.nx Q (.ref (X1.ρ l)) s1:=fun hv ⟨o,vals,hg,ho,hs⟩ k=>by
   apply bc;intro z_
   obtain ⟨R2,L2⟩:=R1.freeze ok hv
   apply z_;clear z_
   exact ⟨_,_,_,k,L1.trans L2 n1,n1,R2,.fro _ vals _ o ((LV rfl).trans hg) ho (hs.mono L2 (LR _))⟩
  cases q:aq l σ1.st with
  | none=>rw [q] at k; exact k.elim
  | some ao=>
   rw [q] at k
   cases ao with
   | list vs=>exact go q (R1.st l _ q).2 k
   | wds ss=>exact go q (R1.st l _ q).2 k
   | _=>exact k.elim
 | _=>exact k.elim
noncomputable def HO (a b:V) (σ:St) (Q:V→St→Prop):Prop:=b9 a σ fun xs=>b9 b σ fun ys=>fits (xs.length+ys.length) (jB (.list (xs++ys)) σ Q)
theorem Bl {a b:V} {va vb:Value} {Q:V→St→Prop} (ok:G.Ok) (R:Rel G X env σ s) (Wa:RepV X σ.nx a va) (Wb:RepV X σ.nx b vb)
  (h:HO a b σ Q):wpAny (model G.prog G.w) A (binaryOp .Add va vb) (Post G X env σ.nx Q) bg s:=by
 apply bc;intro z_
 obtain ⟨l,o,vs,xs,rfl,ho,hl,W1,h⟩:=cr R Wa h
 obtain ⟨l2,o2,ws,ys,rfl,ho2,hl2,W2,h⟩:=cr R Wb h
 obtain ⟨hz,q⟩:=h.out
 obtain ⟨cls,dd,data,sl⟩:=o
 obtain ⟨cls2,dd2,data2,sl2⟩:=o2
 obtain ⟨hc,hdd,⟨n,hd⟩,hsl⟩:=hl
 obtain ⟨hc2,hdd2,⟨n2,hd2⟩,hsl2⟩:=hl2
 apply z_;clear z_
 dsimp only at hc hd hc2 hd2
 subst hc hd hc2 hd2
 refine concat_meets ⟨_,ho,rfl⟩ ⟨_,ho2,rfl⟩ noFill_list_add seq_list_add PySem.F.slot_list_add PySem.F.entry_list_add (PySem.F.args_list_add_2 _ _) (list_addW l l2 vs.toArray ws.toArray n n2 dd dd2 sl sl2 ?_) ⟨ho,ho2,?_⟩
 ·simp only [LW,W1.length,W2.length,L6]; omega
 ·have e:vs.toArray++ws.toArray=(vs++ws).toArray:=by simp
  rw [e]
  exact Post.newLocList ok q R (W1.append W2)
theorem A3 {l r:PySem.Expr} {dl dr:DE} {p:Pos} (ok:G.Ok) (hl:SE G lv sc l dl) (hr:SE G lv sc r dr) :
  SE G lv sc (.BinOp l .Add r p) (fun σ Q=>dl σ fun a σ1=>dr σ1 fun b σ2=>HO a b σ2 Q):=fun σ Q hd A env X s ha he R=>by
 refine wpAny_BinOp (hl.run hd ha he R fun va s1 a σ1 X1 k1 L1 n1 R1 W1=>hr.run k1 ha he R1 fun vb s2 b σ2 X2 k2 L2 n2 R2 W2=>?_)
 exact LF (Bl ok R2 (W1.mono L2 n2) W2 k2) (fun _ _ z=>Post.lift (L1.trans L2 n1) (LN n1 n2) z) fun _ _ z=>z
noncomputable def iA:Nat→(Nat→Prop)→Prop
 | 0,_=>True
 | n+1,P=>iA n P∧P n
theorem sB {P:Nat→Prop} {n:Nat} (h:iA n P):∀ i,i<n→P i:=by
 induction n with
 | zero=>intro i h; exact absurd h (Nat.not_lt_zero _)
 | succ n ih=>
  intro i hi
  rcases Nat.lt_succ_iff_lt_or_eq.mp hi with hi | hi
  ·exact ih h.1 i hi
  ·subst hi; exact h.2
noncomputable def Iy (a b:V) (σ:St) (Q:V→St→Prop):Prop:=bD a fun _=>bD b fun j=>posI j fun n=>iA (n+1) fun i=>Q (.int (.ofNat i)) σ
theorem pZ {i:Int} {m:Nat} {t u:Tok} {Q:V→St→Prop} (ok:G.Ok) (ha:AOk lv A) (R:Rel G X env σ s) (h:iA (m+1) fun i=>Q (.int (.ofNat i)) σ) :
  wpAny (model G.prog G.w) A (binaryOp .Mod (.int i t) (.int (.ofNat (m+1)) u)) (Post G X env σ.nx Q) bg s:=by
 refine k7 (Q:=fun v σ'=>Q v σ') ok ha (op:=.Mod) (a:=.int i) (b:=.int (.ofNat (m+1))) ?_ R (.int i t) (.int _ u)
 show Q (.int (Int.fmod i (.ofNat (m+1)))) σ
 have hp:(0:Int)<(.ofNat (m+1)):=Int.ofNat_lt.mpr (Nat.succ_pos m)
 have h1:Int.fmod i (.ofNat (m+1))<(.ofNat (m+1):Int):=Int.fmod_lt_of_pos _ hp
 obtain ⟨k,hk⟩:=Int.eq_ofNat_of_zero_le (Int.fmod_nonneg_of_pos i hp)
 rw [hk] at h1 ⊢
 exact sB h k (Int.ofNat_lt.mp h1)
theorem A4 {l r:PySem.Expr} {dl dr:DE} {p:Pos} (ok:G.Ok) (hl:SE G lv sc l dl) (hr:SE G lv sc r dr) :
  SE G lv sc (.BinOp l .Mod r p) (fun σ Q=>dl σ fun a σ1=>dr σ1 fun b σ2=>Iy a b σ2 Q):=fun σ Q hd A env X s ha he R=>by
 refine wpAny_BinOp (hl.run hd ha he R fun va s1 a σ1 X1 k1 L1 n1 R1 W1=>hr.run k1 ha he R1 fun vb s2 b σ2 X2 k2 L2 n2 R2 W2=>?_)
 refine W1.int_ k2 fun i t k2=>W2.int_ k2 fun j u k2=>?_
 apply bc;intro z_
 obtain ⟨m,rfl,k2⟩:=posI.out k2
 apply z_;clear z_
 exact LF (pZ ok ha R2 k2) (fun _ _ z=>Post.lift (L1.trans L2 n1) (LN n1 n2) z) fun _ _ z=>z
noncomputable def IM (n:Nat) (v:V) (σ:St) (Q:V→St→Prop):Prop:=bD v fun i=>bk i=true∧iA n fun k=>Q (.int (.ofNat k)) σ
theorem A5 {l:PySem.Expr} {dl:DE} {p p' p2 p3:Pos} {k2 k3:Nat} (n:Nat) (ok:G.Ok) (hl:SE G lv sc l dl) :
  SE G lv sc (.BinOp (.BinOp l .FloorDiv (.Constant (.int 8) k2 p2) p') .Mod (.Constant (.int (.ofNat (n+1))) k3 p3) p) (fun σ Q=>dl σ fun a σ1=>IM (n+1) a σ1 Q):=fun σ Q hd A env X s ha he R=>by
 refine wpAny_BinOp (wpAny_BinOp (hl.run hd ha he R fun va s1 a σ1 X1 k1 L1 n1 R1 W1=>?_))
 refine W1.int_ k1 fun i t y_=>?_
 apply bc;intro z_
 obtain ⟨_,hb⟩:=y_
 apply z_;clear z_
 refine SE.run (K:=fun v σ'=>v=.int 8∧σ'=σ1) ay (σ:=σ1) ⟨rfl,rfl⟩ ha he R1 fun vb s2 b σ2 X2 k2 L2 n2 R2 W2=>?_
 apply bc;intro z_
 obtain ⟨rfl,rfl⟩:=k2
 obtain ⟨u,rfl⟩:=W2.inv
 apply z_;clear z_
 refine LF (k7 (Q:=fun v σ'=>v=.int (Int.fdiv i 8)∧σ'=σ2) ok ha (op:=.FloorDiv) (a:=.int i) (b:=.int 8) ⟨rfl,rfl⟩ R2 (.int i t) (.int _ u)) (fun vc s3 y_=>?_) fun _ _ z=>z.elim
 apply bc;intro z_
 obtain ⟨v,σ3,X3,e,L3,n3,R3,W3⟩:=y_
 obtain ⟨rfl,rfl⟩:=e
 obtain ⟨u3,rfl⟩:=W3.inv
 apply z_;clear z_
 refine SE.run (K:=fun v σ'=>v=.int (.ofNat (n+1))∧σ'=σ3) ay (σ:=σ3) ⟨rfl,rfl⟩ ha he R3 fun vd s4 b4 σ4 X4 k4 L4 n4 R4 W4=>?_
 apply bc;intro z_
 obtain ⟨rfl,rfl⟩:=k4
 obtain ⟨u4,rfl⟩:=W4.inv
 apply z_;clear z_
 exact LF (pZ ok ha R4 hb) (fun _ _ z=>Post.lift (((L1.trans L2 n1).trans L3 n1).trans L4 n1) n1 z) fun _ _ z=>z
noncomputable def re {α:Type}:Nat→α→List α→List α
 | _,_,[]=>[]
 | 0,a,_::r=>a::r
 | n+1,a,b::r=>b::re n a r
theorem qg {α:Type}:∀ {n:Nat} {a:α} {l:List α},re n a l=l.set n a
 | n,a,[]=>by cases n <;> simp [re]
 | 0,a,b::r=>by simp [re]
 | n+1,a,b::r=>by simp [re,qg]
theorem RepVs.setN {v:V} {val:Value}:∀ {vs:List V} {vals:List Value} {k:Nat},RepVs X n vs vals→RepV X n v val→RepVs X n (Mine.re k v vs) (Mine.re k val vals)
 | [],_,k,W,_=>by cases W; cases k <;> exact .nil
 | u::r,_,0,W,w=>by cases W with | cons a b=>exact .cons w b
 | u::r,_,k+1,W,w=>by cases W with | cons a b=>exact .cons a (RepVs.setN b w)
theorem vF {l:Addr} {o:Obj} {items:List Value} {k:Int} {t:Tok} {v:Value} {Q:Unit→Shared→Prop} (ho:s.heap.get? l=some o) (hl:LObj "list" o items)
  (h0:0≤k) (hfit:k<2 ^ 63) (hn:k<items.length) (q:Q () {s with heap:=s.heap.update l (Obj.mapSeq (·.setIfInBounds k.toNat v))}) :
  wpAny (model G.prog G.w) A (setItem (.ref l) (.int k t) v) Q bg s:=by
 have hL:=LObj.isList ho hl
 apply bc;intro z_
 obtain ⟨hc,hdd,⟨ep,hd⟩,hsl⟩:=hl
 apply z_;clear z_
 unfold setItem
 refine LG ?_
 refine LD (wpAny_sequenceKey hL.typeIs (by decide) ?_)
 refine LD (wpAny_callSpecial?_slot (name:=Str.ofString "__setitem__") hL.typeIs PySem.F.slot_list_setitem
  (LJ PySem.F.slot_list_setitem hL.typeIs PySem.F.entry_list_setitem ?_ (PySem.F.args_list_setitem_3 _ _ _)))
 show wpAny _ _ (Builtin.List.listSubscript? (.int k t) >>= _) _ _ s
 refine LD (wpAny_listSubscript_int (fitsIndex_of h0 hfit) ?_)
 clear hfit
 apply bc;intro z_
 obtain ⟨j,rfl⟩:=Int.eq_ofNat_of_zero_le h0
 apply z_;clear z_
 have hj:j<items.length:=by omega
 have hx':items.toArray[j]?=some items[j]:=by rw [My]; exact List.getElem?_eq_getElem hj
 show wpAny _ _ ((seqItemAt l j >>= fun r=>pure (r.map (j,·))) >>= _) _ _ s
 refine LD (LD (wpAny_seqItemAt ho hd (LE ?_)))
 rw [hx']
 show wpAny _ _ (setSeqItemAt l j v >>= _) _ _ s
 refine LD (wpAny_setSeqItemAt ho hd ?_)
 first
  | exact LD (LE (LE ⟨.none,rfl,LE q⟩))
  | exact LE ⟨.none,rfl,LE q⟩
noncomputable def Kq (i:Int) (k:Nat→Prop):Prop:=match i with | .ofNat n=>k n | _=>False
noncomputable def ql (o i v:V) (σ:St) (Q:St→Prop):Prop:=il o σ fun l xs=>bD i fun i=>Kq i fun k=>onT (Nat.blt k xs.length) (fits xs.length (Q (f0 l (.list (re k v xs)) σ)))
theorem rp {o i v:V} {ov iv val:Value} {Q:St→Prop} {Q':Unit→Shared→Prop} (h:ql o i v σ Q) (R:Rel G X env σ s) (Wo:RepV X σ.nx o ov) (Wi:RepV X σ.nx i iv) (W:RepV X σ.nx v val)
  (k:∀ σ' s',Q σ'→σ'.nx=σ.nx→Rel G X env σ' s'→Q' () s'):wpAny (model G.prog G.w) A (setItem ov iv val) Q' bg s:=by
 refine gU R Wo h fun l xs ob vals hl hx hg ho hs h=>Wi.int_ h fun i t h=>?_
 cases i with
 | negSucc m=>exact h.elim
 | ofNat m=>
  apply bc;intro z_
  obtain ⟨hb,h⟩:=onT.out h
  obtain ⟨hz,q⟩:=fits.out h
  apply z_;clear z_
  have hm:m<vals.length:=hs.length ▸ LP hb
  exact vF hg ho (Int.natCast_nonneg m) (Int.lt_of_lt_of_le (Int.ofNat_lt.mpr hm) (Int.le_trans (Int.ofNat_le.mpr (hs.length ▸ hz)) (by decide))) (Int.ofNat_lt.mpr hm) (k _ _ q rfl (R.setList (t:=s.toks) hx hg ho (by rw [qg]; simp) (hs.setN W)))
theorem Hq {o i:PySem.Expr} {p:Pos} {do_ di:DE} (ok:G.Ok) (ho:SE G lv sc o do_) (hi:SE G lv sc i di) :
  ST G lv sc (.Subscript o i p) (fun v σ Q=>do_ σ fun ov σ1=>di σ1 fun iv σ2=>ql ov iv v σ2 Q):=fun v σ Q hd A env X s val ha he R W=>by
 refine kas_sub (ho.run hd ha he R fun ov s1 o1 σ1 X1 k1 L1 n1 R1 W1=>hi.run k1 ha he R1 fun iv s2 i2 σ2 X2 k2 L2 n2 R2 W2=>?_)
 exact rp k2 R2 (W1.mono L2 n2) W2 (W.mono (L1.trans L2 n1) (LN n1 n2)) fun σ' s' q e R'=>⟨σ',X2,q,L1.trans L2 n1,by rw [e]; exact LN n1 n2,R'⟩
noncomputable def fG:List DictEntry→List (Str×Value)
 | []=>[]
 | e::r=>(match e.key with | .str x _=>x | _=>Str.empty,e.val)::fG r
noncomputable def nK (K:Frag) (a:Nat):List DictEntry:=match K.lookup a with
 | some o=>(match o.data with
  | .dict es _=>es.toList
  | _=>[])
 | none=>[]
noncomputable def HX (K:Frag) (a:Nat):Nat:=match K.lookup a with
 | some o=>(match o.data with
  | .dict _ n=>n
  | _=>0)
 | none=>0
theorem jG {prog:Program} {w:World}:∀ {l:List DictEntry},KeysLit w.params l→Pairs (PySem.strKind prog w) l (fG l)
 | [],_=>.nil
 | e::r,⟨⟨x,t,e1,e2⟩,h⟩=>by
  refine .cons ?_ rfl (jG h)
  dsimp only
  rw [e1]
  exact strKind_is prog w x t
theorem sQ {prog:Program} {w:World} {K:Frag} {h:Heap} {a:Nat} (X:K.In h) (hl:K.lookup a=some ⟨.type "dict",none,.dict (nK K a).toArray (HX K a),#[]⟩) (hk:KeysLit w.params (nK K a)) (nd:((fG (nK K a)).map (·.1)).Nodup) :
  h.DictOf (PySem.strKind prog w) a (fG (nK K a)):=
 ⟨_,_,_,X _ _ hl,⟨rfl,rfl,rfl⟩,rfl,fun e he=>by
  apply bc;intro z_
  obtain ⟨x,t,e1,e2⟩:=hk.all e (by simpa using he)
  apply z_;clear z_
  exact ⟨x,by rw [e1]; exact strKind_is prog w x t,e2⟩,jG hk,nd⟩
noncomputable def At (K:Frag) (a:Nat):Bool:=match K.lookup a with
 | some o=>(match o.cls with | .type T=>T=="re.Pattern" | _=>false) && o.dict.isNone
 | none=>false
set_option tactic.hygienic true in
theorem mm {K:Frag} {a:Nat} (h:At K a=true):∃ o,K.lookup a=some o∧o.cls=.type "re.Pattern"∧o.dict=none:=by
 unfold At at h
 split at h
 ·rename_i o ho
  rw [Bool.and_eq_true] at h
  obtain ⟨h1,h2⟩:=h
  split at h1
  ·rename_i T hT; exact ⟨o,ho,by rw [hT,beq_iff_eq.mp h1],Option.isNone_iff_eq_none.mp h2⟩
  ·first | exact nS h1 | exact nB h1 | cases h1
 ·first | exact nS h | exact nB h | cases h
theorem j4 {t:SetTable} {k:Nat}:(t.orStandIn k).led=t.led:=by unfold SetTable.orStandIn; split <;> rfl
theorem oE {t:SetTable} {es:Array (Int×Value)} {h:Int} {x:Value}:(layNew t es h x).2.1.led=t.led:=by
 unfold layNew
 split
 ·exact j4
 ·rfl
set_option tactic.hygienic true in
set_option tactic.hygienic true in
theorem mo {led:Bool} {h:Int} {x:Value}:(layNew (.fresh 0 0 led) #[] h x).2.1.tooFull=false:=by
 unfold layNew
 split
 ·rename_i slot wd e
  dsimp only
  have hp:(SetTable.put (.fresh 0 0 led) slot).1.place.size=1:=by
   show (SetTable.insertAt #[] 0 slot).size=1
   rfl
  have hd:(SetTable.put (.fresh 0 0 led) slot).1.dummies=#[]:=by
   have hh:SetTable.has (#[]:Array Nat) slot=false:=by unfold SetTable.has; simp
   simp only [SetTable.put,SetTable.fresh,hh]
   rfl
  unfold SetTable.orStandIn
  split
  ·unfold SetTable.tooFull SetTable.fill
   rw [hp,hd]
   rfl
  ·unfold SetTable.tooFull SetTable.fill SetTable.standIn SetTable.insertAt
   rfl
 ·rfl
noncomputable def jd (h:Heap) (a:Addr) (x:Str) (tk:Tok) (led:Bool):Prop:=∃ o hs ep t,h.get? a=some o∧o.ExactSet∧o.data=.set #[(hs,.str x tk)] ep t∧t.fits 1=true∧t.led=led∧t.tooFull=false
theorem wN {a:Addr} {led:Bool} {x:Str} {tk:Tok} {Q:Bool→Shared→Prop} (ho:s.heap.get? a=some {cls:=.type "set",dict:=none,data:=.set #[] 0 (.fresh 0 0 led)})
  (q:∀ h' k,Heap.SameBut a s.heap h'→jd h' a x tk led→∀ b,Q b {s with heap:=h',toks:=k}):wpAny (model G.prog G.w) A (setAdd a (.str x tk)) Q bg s:=by
 have hk:(PySem.strKind G.prog G.w).is x (.str x tk)=true:=strKind_is _ _ _ _
 unfold setAdd
 refine LG (LD ((PySem.strKind G.prog G.w).pyHash hk ?_))
 unfold setAddHashed setAddHashedIn
 refine LG (LD (wpAny_setState_of ho rfl (by rfl) ?_))
 dsimp only
 rw [byScan_of (knd:=PySem.strKind G.prog G.w) (x:=.str x tk) rfl (by decide) (fun e he=>by simp at he)]
 simp only [↓reduceIte]
 unfold setAddByScan
 refine LD (LD (Mu ?_))
 refine LD (wpAny_setScan_of (knd:=PySem.strKind G.prog G.w) hk ho rfl (by rfl) (fun e he=>by simp at he) ?_)
 dsimp only [List.findIdx?_nil]
 have hperm:=layNew_perm (.fresh 0 0 led) #[] ((PySem.strKind G.prog G.w).hash x) (.str x tk)
 have hfits:=layNew_fits (.fresh 0 0 led) #[] ((PySem.strKind G.prog G.w).hash x) (.str x tk)
 have hled:=oE (t:=.fresh 0 0 led) (es:=#[]) (h:=(PySem.strKind G.prog G.w).hash x) (x:=.str x tk)
 have hgw:∀ (b:Bool) {s₁:Shared} {Q':Unit→Shared→Prop},Q' () s₁→wpAny (model G.prog G.w) A (match b with | true=>rule "set.scan.the-table-gave-way" | false=>pure ()) Q' bg s₁:=
  fun b s₁ Q' hq=>by cases b <;> first | exact LE hq | exact Mu hq
 generalize hL:layNew (.fresh 0 0 led) #[] ((PySem.strKind G.prog G.w).hash x) (.str x tk)=L at hperm hfits hled ⊢
 apply bc;intro z_
 obtain ⟨es1,t1,wasDummy,gave⟩:=L
 apply z_;clear z_
 dsimp only at hperm hfits hled ⊢
 have hes:es1=#[((PySem.strKind G.prog G.w).hash x,.str x tk)]:=by
  apply bc;intro z_
  obtain ⟨l⟩:=es1
  apply z_;clear z_
  have:l=[((PySem.strKind G.prog G.w).hash x,.str x tk)]:=List.perm_singleton.mp (by simpa using hperm)
  rw [this]
 subst hes
 refine LD (hgw _ ?_)
 have hroom:=mo (led:=led) (h:=(PySem.strKind G.prog G.w).hash x) (x:=.str x tk)
 rw [hL] at hroom
 dsimp only at hroom
 have fin:∀ (g:Bool→Sem Unit) (k:Nat) (t2:SetTable),t2.fits 1=true→t2.led=led→t2.tooFull=false→wpAny (model G.prog G.w) A (do
    storeSet a #[((PySem.strKind G.prog G.w).hash x,Value.str x tk)] t2
    if (!wasDummy && t2.tooFull)=true then do
      g (relayAll t2 #[((PySem.strKind G.prog G.w).hash x,Value.str x tk)] (SetTable.grown 1)).2.2
      storeSet a (relayAll t2 #[((PySem.strKind G.prog G.w).hash x,Value.str x tk)] (SetTable.grown 1)).1 (relayAll t2 #[((PySem.strKind G.prog G.w).hash x,Value.str x tk)] (SetTable.grown 1)).2.1
      pure (some true)
     else pure (some true)) (fun o s'=>∃ h',o=some true∧s'={s with heap:=h',toks:=k}∧Heap.SameBut a s.heap h'∧jd h' a x tk led) bg {s with toks:=k}:=by
  intro g k t2 f2 l2 r2
  have hsb1:=Heap.SameBut.update s.heap a (Obj.putSet #[((PySem.strKind G.prog G.w).hash x,Value.str x tk)] t2)
  have hu:(s.heap.update a (Obj.putSet #[((PySem.strKind G.prog G.w).hash x,Value.str x tk)] t2)).get? a=some {cls:=.type "set",dict:=none,data:=.set #[((PySem.strKind G.prog G.w).hash x,Value.str x tk)] 1 t2}:=by
   rw [Heap.get?_update_self _ ho (by rfl)]; rfl
  refine LD (wpAny_storeSet_of (s:={s with toks:=k}) ho rfl ?_ (by rw [L6]; simp))
  rw [r2,Bool.and_false,LU LZ]
  exact LE ⟨_,rfl,rfl,hsb1,⟨_,_,_,t2,hu,⟨rfl,rfl,rfl⟩,rfl,f2,l2,r2⟩⟩
 have done_:∀ (o:Option Bool) (s':Shared),(∃ h' k,o=some true∧s'={s with heap:=h',toks:=k}∧Heap.SameBut a s.heap h'∧jd h' a x tk led)→wpAny (model G.prog G.w) A (match o with | some added=>pure added | none=>setAddHashedIn a (.str x tk) ((PySem.strKind G.prog G.w).hash x) 99999) Q bg s':=by
  rintro o s' ⟨h',k,rfl,rfl,h1,h2⟩
  exact LE (q h' k h1 h2 true)
 by_cases hp:t1.plain=true
 ·rw [LV hp]
  refine LD ?_
  rw [hashByValue_scannable 8 (by rfl)]
  refine LE ?_
  refine LF (fin _ _ (if plainKind (.str x tk)=true then t1 else {t1 with plain:=false}) ?_ ?_ ?_) (fun o s' ⟨h',z⟩=>done_ o s' ⟨h',_,z⟩) fun _ _ z=>z
  ·exact SetTable.fits_plain_off hfits
  ·exact hled
  ·exact hroom
 ·rw [LU hp]
  refine LD (LE ?_)
  exact LF (fin _ _ t1 hfits hled hroom) (fun o s' ⟨h',z⟩=>done_ o s' ⟨h',_,z⟩) fun _ _ z=>z
theorem oM {Q:Value→Shared→Prop} (q:Q (.ref s.heap.objs.size) {s with heap:=s.heap.push {cls:=.type "set",dict:=none,data:=.set #[] 0 (.fresh 0 0 (!G.w.params.followText "set-order"))}}) :
  wpAny (model G.prog G.w) A (newSet (.type "set")) Q bg s:=by
 unfold newSet setsByText
 refine LD (LD (wpAny_askSetting (LE ?_)))
 dsimp only
 simp only [newObj]
 exact LD (wpAny_alloc (LE q))
theorem rh {b:Bool} {t1 t2:Sem Value} {Q:Value→Shared→Prop}
  (h:wpAny (model G.prog G.w) A t1 (fun v1 s1=>wpAny (model G.prog G.w) A (setAdd s.heap.objs.size v1) (fun _ s2=>wpAny (model G.prog G.w) A t2 (fun v2 s3=>wpAny (model G.prog G.w) A (setDisplayStar s.heap.objs.size v2) (fun _ s4=>Q (.ref s.heap.objs.size) s4) bg s3) bg s2) bg s1) bg
   {s with heap:=s.heap.push {cls:=.type "set",dict:=none,data:=.set #[] 0 (.fresh 0 0 (!G.w.params.followText "set-order"))}}) :
  wpAny (model G.prog G.w) A (setDisplay .oneByOne b [(false,t1),(true,t2)]) Q bg s:=by
 unfold setDisplay
 rw [LU (by decide)]
 refine LD (oM ?_)
 dsimp only
 have hn:(if [(false,t1),(true,t2)].length > 30 then 0 else ([(false,t1),(true,t2)].findIdx? (·.1)).getD [(false,t1),(true,t2)].length)=1:=rfl
 rw [hn]
 refine LD (LG ?_)
 have he:evalAll (([(false,t1),(true,t2)].take 1).map (·.2))=(do let v ← t1; let r ← holding [v] (pure []); pure (v::r)):=rfl
 rw [he]
 refine LD (LD (LF h (fun v1 s1 h1=>?_) fun _ _ z=>z))
 refine LD (LG (LE (LE ?_)))
 refine LD (LG ?_)
 rw [List.forIn_cons]
 refine LD (LD (LD (LF h1 (fun _ s2 h2=>LE ?_) fun _ _ z=>z)))
 dsimp only
 rw [List.forIn_nil]
 refine LE ?_
 rw [LU (by decide)]
 refine LE ?_
 show wpAny _ _ (forIn [(true,t2)] PUnit.unit _ >>= _) _ _ _
 rw [List.forIn_cons]
 refine LD (LD (LD (LF h2 (fun v2 s3 h3=>?_) fun _ _ z=>z)))
 rw [LV rfl]
 refine LD (LG (LF h3 (fun _ s4 h4=>LE ?_) fun _ _ z=>z))
 dsimp only
 rw [List.forIn_nil]
 exact LE (LE (LE h4))
theorem Jl {a d:Addr} {Q:Unit→Shared→Prop} (hh:A.handled=none) (hset:∃ o es ep t,s.heap.get? a=some o∧o.data=.set es ep t∧t.fits es.size=true∧t.tooFull=false) (hd:s.heap.DictOf (PySem.strKind G.prog G.w) d []) (hsys:(d==sysModules)=false)
  (q:∀ h',(∀ b o,s.heap.get? b=some o→h'.get? b=some o)→Q () {s with heap:=h'}):wpAny (model G.prog G.w) A (setDisplayStar a (.ref d)) Q bg s:=by
 apply bc;intro z_
 obtain ⟨o,es,ep,t,ho,hdat,hf,hr⟩:=hset
 have hT:s.TypeIs (.ref d) "dict":=hd.typeIs
 obtain ⟨od,eds,epd,hod,hex,hdd,hk,hp,hn⟩:=id hd
 apply z_;clear z_
 have hz:eds.size=0:=by
  have:eds.toList=[]:=by cases hq:eds.toList with | nil=>rfl | cons _ _=>rw [hq] at hp; cases hp
  rw [← Array.length_toList,this]; rfl
 unfold setDisplayStar
 refine LD (wpAny_isInstance hT PySem.F.sub_dict_set ?_)
 rw [LU LZ]
 refine LD (wpAny_isInstance hT PySem.F.sub_dict_frozenset ?_)
 refine LD (wpAny_askSetting ?_)
 dsimp only
 cases hb:G.w.params.followText "set-display-star-reads-storage" with
 | false=>
  have hb':(model G.prog G.w).w.params.followText "set-display-star-reads-storage"=false:=hb
  rw [hb',LU LZ]
  dsimp only
  rw [LU LZ]
  refine LD (wpAny_typeOf hT ?_)
  rw [LV (by rfl)]
  refine LD (Mu ?_)
  rw [LU (by rw [hsys]; exact LZ)]
  refine LD (wpAny_dictEpoch hod hdd ?_)
  refine LD (wpAny_dictEntries hod hdd ?_)
  rw [hz]
  unfold setRoomFor
  have hrf:t.roomFor 0=none:=by
   unfold SetTable.roomFor
   unfold SetTable.tooFull at hr
   rw [Nat.add_zero,LU (of_decide_eq_false hr)]
  refine LD (LD (wpAny_setState_of ho hdat hf ?_))
  dsimp only
  rw [hrf]
  refine LE ?_
  refine LD ?_
  rw [Std.Legacy.Range.forIn_eq_forIn_range']
  show wpAny _ _ (forIn ([]:List Nat) PUnit.unit _) _ _ _
  rw [List.forIn_nil]
  exact LE (LE (q s.heap fun _ _ e=>e))
 | true=>
  have hb':(model G.prog G.w).w.params.followText "set-display-star-reads-storage"=true:=hb
  rw [hb',LV rfl]
  dsimp only
  apply bc;intro z_
  obtain ⟨epd',hm⟩:=hd.dictAt
  apply z_;clear z_
  refine LD (wpAny_pyIter_dict hsys hm ?_)
  refine LD (wpAny_runValue (Ml PyProof.Rows.F.entry_set_update_loop ?_))
  rw [Around.under_plainId PyProof.Rows.F.plain_set_update_loop _]
  show wpAny _ A.in1 (pyNext (.ref s.heap.objs.size) >>= _) _ _ _
  have hne:d≠s.heap.objs.size:=Ms (L7 hod)
  refine LD (wpAny_pyNext_dict_end (i:=0) (kvs:=[]) hh ⟨_,LT _ rfl,rfl,rfl⟩ (hm.push _) rfl fun h' hx=>?_)
  show wpAny _ A.in1 (ret Value.none) _ _ _
  refine LE ?_
  refine LE (q h' fun b o e=>hx b o (Ms (L7 e)) (LM _ e))
noncomputable def jR (l:Nat) (σ:St):Option (Option (List Nat)):=match aq l σ.st with | some (.set1 k)=>some k | _=>none
theorem fx {l:Nat} {k:Option (List Nat)} (h:jR l σ=some k):aq l σ.st=some (.set1 k):=by
 unfold jR at h
 split at h
 ·cases h; assumption
 ·first | exact nS h | exact nB h | cases h
noncomputable def Ji (d1 d2:DE) (σ:St) (Q:V→St→Prop):Prop:=d1 ⟨σ.lo,(σ.nx,.set1 none)::σ.st,σ.nx+1⟩ fun v σ1=>cE v fun x=>onS (jR σ.nx σ1) fun k=>noS k
 (d2 {σ1 with st:=fq σ.nx (.set1 (some x)) σ1.st} fun u σ2=>fW u fun l=>onS (hU l σ2) fun kvs=>onNil kvs (onS (jR σ.nx σ2) fun k=>onS k fun _=>Q (.loc σ.nx) σ2))
theorem A6 {e1 e2:PySem.Expr} {q1 pos:Pos} {d1 d2:DE} (ok:G.Ok) (hc0:sc.code≠0) (hc:kdsCode G.K (.ref sc.code)=true) (h1:SE G lv sc e1 d1) (h2:SE G lv sc e2 d2)
  (hst:∀ env,starEach [e1,.Starred e2 q1] env=[(false,eval e1 env),(true,eval e2 env)]) (hr:displayRoad 0 [e1,.Starred e2 q1]=.oneByOne) :
  SE G lv sc (.Set [e1,.Starred e2 q1] 0 pos) (Ji d1 d2):=fun σ Q hd A env X s ha he R=>by
 rw [arm_eval_Set]
 refine LD (LH ?_)
 refine LD (kds_main (R.K ok) (by rw [(he.code hc0).1]; exact hc) fun b=>?_)
 rw [hst,hr]
 dsimp only [List.map_cons,List.map_nil]
 refine rh ?_
 apply bc;intro z_
 obtain ⟨R1,L1⟩:=R.anew (o:=.set1 none) (s':={s with heap:=s.heap.push {cls:=.type "set",dict:=none,data:=.set #[] 0 (.fresh 0 0 (!G.w.params.followText "set-order"))}}) aL (R.size ok) (fun _ _ e=>LM _ e)
  (fun X' L=>⟨_,LT _ rfl,rfl⟩) rfl rfl R.gens
 apply z_;clear z_
 refine LD (h1.run (K:=_) hd ha he R1 fun v1 s1 a1 σ1 X1 k1 L2 n2 R2 W2=>?_)
 refine LD (LH (LE ?_))
 have hρ:X1.ρ σ.nx=s.heap.objs.size:=by
  rw [L2.ρ σ.nx (LX _)]
  exact LV rfl
 refine W2.str_ k1 fun x tk k1=>?_
 apply bc;intro z_
 obtain ⟨ks,hl,k1⟩:=onS.out k1
 obtain ⟨rfl,k1⟩:=noS.out k1
 have hl:=fx hl
 obtain ⟨_,ob,hob,rfl⟩:=R2.st _ _ hl
 apply z_;clear z_
 rw [hρ] at hob
 refine wN hob fun h' k hsb hse b=>?_
 apply bc;intro z_
 obtain ⟨o',hs,ep,t,e1,e2,e3,e4,e5,e6⟩:=hse
 apply z_;clear z_
 have R3:=R2.upd (s':={s1 with heap:=h',toks:=k}) (o:=.set1 (some x)) hl (fun b hb o e=>by rw [hsb.2 b (by rw [hρ] at hb; exact hb)]; exact e) (by
  rw [hρ]; exact ⟨o',e1,e2,hs,tk,ep,t,e3,e4,e5,e6⟩) rfl rfl R2.gens
 refine LD (h2.run (K:=_) k1 ha he R3 fun v2 s3 a2 σ3 X3 k3 L3 n3 R4 W4=>?_)
 refine LD (LH (LE (W4.loc_ k3 fun l k3=>?_)))
 apply bc;intro z_
 obtain ⟨kvs,hdct,k3⟩:=onS.out k3
 have hdct:=dq hdct
 obtain ⟨rfl,k3⟩:=onNil.out k3
 obtain ⟨y',hy,k3⟩:=onS.out k3
 obtain ⟨y,rfl,k3⟩:=onS.out k3
 obtain ⟨_,kvals,hD,hP⟩:=R4.st _ _ hdct
 apply z_;clear z_
 cases kvals with
 | cons _ _=>exact hP.elim
 | nil=>
  apply bc;intro z_
  obtain ⟨_,ob2,hob2,g1,hs2,tk2,ep2,t2,g2,g3,g4,g5⟩:=R4.st _ _ (fx hy)
  apply z_;clear z_
  have n02:=Mi (LX σ.nx) n2
  have hρ3:X3.ρ σ.nx=s.heap.objs.size:=(L3.ρ σ.nx n02).trans hρ
  rw [hρ3] at hob2
  exact Jl ha.handled ⟨ob2,_,ep2,t2,hob2,g2,g3,g5⟩ hD (eT R4 hdct) fun h4 hk4=>⟨_,σ3,X3,k3,(L1.trans L2 (Mj _)).trans L3 (Nat.le_of_lt n02),LN (Nat.le_of_lt n02) n3,R4.heap hk4,.loc_at (Mi n02 n3) hρ3⟩
theorem mH:Manifest.owners.lookup (String.ofList ['r','o','t','a','r','e','t','i','_','t','e','s'].reverse)=some Manifest.sig_set_iterator:=by kernel_rfl
theorem cC:Slot "set_iterator" "__next__" "set_iterator.__next__":=
 .of (owner:="set_iterator") (n:="__next__") (by rw [typeLookup_type,builtinLookup_eq_fast]; kernel_rfl) (by decide +kernel) (by decide +kernel) (by decide +kernel)
  (by first | exact .inl (by decide +kernel) | exact .inr (by decide +kernel)) (by rw [isSubtype_type]; kernel_rfl)
theorem fR:entryFor table "set_iterator.__next__"=some Builtin.«set_iterator.__next__»:=entryFor_of_tree (by kernel_rfl)
theorem gx (a:Value):argsOk "set_iterator.__next__" ⟨[a],[]⟩:=by
 unfold argsOk; rw [signature?_of (id:="set_iterator.__next__") (n:=['_','_','t','x','e','n','_','_']) (o:=['r','o','t','a','r','e','t','i','_','t','e','s']) (by kernel_rfl) mH]; kernel_rfl
theorem jj:entryFor table "set.__iter__"=some Builtin.«frozenset.__iter__»:=
 entryFor_alias (id':="frozenset.__iter__") (by rw [fastTable_eq_tree]; kernel_rfl) (by first | rfl | decide +kernel | (unfold String.splitOn; simp +decide [String.splitOnAux])) (by decide +kernel) (by rw [fastTable_eq_tree]; kernel_rfl)
theorem gV:Slot "set_iterator" "__iter__" "set_iterator.__iter__":=
 .of (owner:="set_iterator") (n:="__iter__") (by rw [typeLookup_type,builtinLookup_eq_fast]; kernel_rfl) (by decide +kernel) (by decide +kernel) (by decide +kernel)
  (by first | exact .inl (by decide +kernel) | exact .inr (by decide +kernel)) (by rw [isSubtype_type]; kernel_rfl)
theorem kX (a:Value):argsOk "set_iterator.__iter__" ⟨[a],[]⟩:=by
 unfold argsOk; rw [signature?_of (id:="set_iterator.__iter__") (n:=['_','_','r','e','t','i','_','_']) (o:=['r','o','t','a','r','e','t','i','_','t','e','s']) (by kernel_rfl) mH]; kernel_rfl
theorem j1:entryFor table "set_iterator.__iter__"=some Builtin.«dict_keyiterator.__iter__»:=
 entryFor_alias (id':="dict_keyiterator.__iter__") (by rw [fastTable_eq_tree]; kernel_rfl) (by first | rfl | decide +kernel | (unfold String.splitOn; simp +decide [String.splitOnAux])) (by decide +kernel) (by rw [fastTable_eq_tree]; kernel_rfl)
noncomputable def Set1 (w:World) (h:Heap) (a:Addr) (x:Str) (tk:Tok) (hs:Int) (ep:Nat) (t:SetTable):Prop:=∃ o,h.get? a=some o∧o.cls=.type "set"∧o.data=.set #[(hs,.str x tk)] ep t∧t.fits 1=true∧t.led=!w.params.followText "set-order"
noncomputable def IsSetIter (h:Heap) (it a:Addr) (slot i ep:Nat):Prop:=∃ o,h.get? it=some o∧o.cls=.type "set_iterator"∧o.data=.fields #[rawInt slot,rawInt i,.ref a,rawInt 1,rawInt ep]
section
variable {prog:Program} {w:World} {A:Around} {E:Value→Shared→Prop} {s:Shared} {a it:Addr} {x:Str} {tk:Tok} {hs:Int} {ep:Nat} {t:SetTable}
theorem Set1.typeIs (h:Set1 w s.heap a x tk hs ep t):s.TypeIs (.ref a) "set":=let ⟨o,ho,hc,_⟩:=h; ⟨o,ho,hc⟩
theorem IsSetIter.typeIs {slot i:Nat} (h:IsSetIter s.heap it a slot i ep):s.TypeIs (.ref it) "set_iterator":=let ⟨o,ho,hc,_⟩:=h; ⟨o,ho,hc⟩
theorem kH (hf:t.fits 1=true):∃ j,t.place=#[j]:=by
 have h:t.place.size=1:=by
  simp only [SetTable.fits,Bool.and_eq_true,beq_iff_eq] at hf
  exact hf.1
 cases ht:t.place with
 | mk l=>
  rw [ht] at h
  match l,h with | [j],_=>exact ⟨j,rfl⟩
theorem tV {Q:Value→Shared→Prop} (h:Set1 w s.heap a x tk hs ep t)
  (q:Q (.ref s.heap.objs.size) {s with heap:=s.heap.push {cls:=.type "set_iterator",data:=.fields #[rawInt 0,rawInt 0,.ref a,rawInt 1,rawInt ep]}}):wpAny (model prog w) A (pyIter (.ref a)) Q E s:=by
 obtain ⟨o,ho,hc,hd,hf,hl⟩:=id h
 refine wpAny_pyIter_slot h.typeIs PySem.F.slot_set_iter (LJ PySem.F.slot_set_iter h.typeIs jj ?_ (PySem.F.args_set_iter_1 _))
 unfold Builtin.«frozenset.__iter__»
 refine LD (LI (a:=a) rfl ?_)
 unfold Builtin.Frozenset.sizeOf
 refine LD (LD (wpAny_setEntries_of ho hd hf (LE ?_)))
 unfold setDrawn
 refine LD (LD (wpAny_setState_of ho hd hf ?_))
 unfold setsByText
 refine LD (LD (wpAny_askSetting (LE (LE ?_))))
 obtain ⟨mask,place,dummies,finger,led,moves,plain⟩:=t
 refine wpAny_ite_split (fun hh=>?_) fun _=>LD (LE ?_)
 ·have:=(Bool.and_eq_true_iff.mp hh).2
  cases plain <;> exact absurd this LZ
 ·unfold setEpoch
  refine LD (LD (wpAny_setState_of ho hd hf (LE ?_)))
  refine LD ?_
  unfold newFields
  refine wpAny_newObj_type ?_ (by size_fits)
  exact LE ⟨_,rfl,"set_iterator",_,⟨_,LT _ rfl,rfl⟩,cC.lookup,q⟩
theorem uN (f:Nat→Nat) (e:Int×Value):pickOrder f #[e]=#[e]:=by
 unfold pickOrder
 simp [pickOrder.go,Nat.mod_one]
theorem kc {j k:Nat}:SetTable.below #[j] k=if j<k then 1 else 0:=by
 unfold SetTable.below SetTable.below.go
 simp only [LW,List.length_cons,List.length_nil]
 by_cases h:j<k
 ·simp [h,SetTable.below.go]
 ·simp [h,SetTable.below.go]
theorem nh {Q:Array (Int×Value)→Shared→Prop} (h:Set1 w s.heap a x tk hs ep t) (ht:w.params.followText "set-order"=true) (q:Q #[(hs,.str x tk)] s):wpAny (model prog w) A (setWalk a) Q E s:=by
 apply bc;intro z_
 obtain ⟨o,ho,hc,hd,hf,hl⟩:=h
 apply z_;clear z_
 unfold setWalk
 refine LD (wpAny_setState_of ho hd hf ?_)
 dsimp only
 unfold setsByText
 refine LD (LD (wpAny_askSetting (LE ?_)))
 refine wpAny_ite_split (fun _=>?_) fun hh=>absurd ht hh
 refine LD (wpAny_askSetting ?_)
 rw [uN]
 exact LE q
theorem rf {Q:Option (Value×Nat)→Shared→Prop} (h:Set1 w s.heap a x tk hs ep t) (q:∀ sl,(w.params.followText "set-order"=false→SetTable.below t.place sl=1)→Q (some (.str x tk,sl)) s) :
  wpAny (model prog w) A (setNext a 0 0 ep) Q E s:=by
 apply bc;intro z_
 obtain ⟨o,ho,hc,hd,hf,hl⟩:=id h
 obtain ⟨j,hj⟩:=kH hf
 apply z_;clear z_
 unfold setNext
 refine LD (wpAny_setState_of ho hd hf ?_)
 dsimp only
 unfold setsByText
 refine LD (LD (wpAny_askSetting (LE ?_)))
 refine wpAny_ite_split (fun hb=>?_) fun hb=>?_
 ·refine wpAny_ite_split (fun hh=>absurd hh (by simp)) fun _=>?_
  refine LD (nh h hb ?_)
  exact LE (q 0 fun hh=>absurd ((show w.params.followText "set-order"=true from hb).symm.trans hh) (by decide))
 ·have hb':w.params.followText "set-order"=false:=(Bool.not_eq_true _).mp hb
  have hled:t.led=true:=by rw [hl,hb']; rfl
  apply bc;intro z_
  obtain ⟨mask,place,dummies,finger,led,moves,plain⟩:=t
  apply z_;clear z_
  dsimp only at hj hled
  subst hj hled
  refine wpAny_ite_split (fun hh=>?_) fun _=>?_
  ·cases plain <;> exact absurd hh LZ
  ·refine LD (wpAny_ite_split (fun hh=>absurd hh LZ) fun _=>LE ?_)
   have hb0:SetTable.below #[j] 0=0:=by rw [kc]; rfl
   rw [hb0]
   exact LE (q (j+1) fun _=>by rw [kc,LV (LX _)])
theorem rg {Q:Option (Value×Nat)→Shared→Prop} {sl:Nat} (h:Set1 w s.heap a x tk hs ep t) (hsl:w.params.followText "set-order"=false→SetTable.below t.place sl=1) (q:Q none s) :
  wpAny (model prog w) A (setNext a sl 1 ep) Q E s:=by
 apply bc;intro z_
 obtain ⟨o,ho,hc,hd,hf,hl⟩:=id h
 obtain ⟨j,hj⟩:=kH hf
 apply z_;clear z_
 unfold setNext
 refine LD (wpAny_setState_of ho hd hf ?_)
 dsimp only
 unfold setsByText
 refine LD (LD (wpAny_askSetting (LE ?_)))
 refine wpAny_ite_split (fun hb=>?_) fun hb=>?_
 ·refine wpAny_ite_split (fun hh=>absurd hh (by simp)) fun _=>?_
  refine LD (nh h hb ?_)
  exact LE q
 ·have hb':w.params.followText "set-order"=false:=(Bool.not_eq_true _).mp hb
  have hled:t.led=true:=by rw [hl,hb']; rfl
  have hs1:=hsl hb'
  apply bc;intro z_
  obtain ⟨mask,place,dummies,finger,led,moves,plain⟩:=t
  apply z_;clear z_
  dsimp only at hj hled hs1
  subst hj hled
  refine wpAny_ite_split (fun hh=>?_) fun _=>?_
  ·cases plain <;> exact absurd hh LZ
  ·refine LD (wpAny_ite_split (fun hh=>absurd hh LZ) fun _=>LE ?_)
   rw [hs1]
   exact LE q
theorem qW {Q:Option Value→Shared→Prop} (h:Set1 w s.heap a x tk hs ep t) (hi:IsSetIter s.heap it a 0 0 ep)
  (q:∀ h' sl,IsSetIter h' it a sl 1 ep→(w.params.followText "set-order"=false→SetTable.below t.place sl=1)→Heap.SameBut it s.heap h'→Q (some (.str x tk)) {s with heap:=h'}):wpAny (model prog w) A (pyNext (.ref it)) Q E s:=by
 apply bc;intro z_
 obtain ⟨o,ho,hc,hd,hf,hl⟩:=id h
 obtain ⟨oi,hoi,hci,hdi⟩:=id hi
 apply z_;clear z_
 unfold pyNext
 refine LD (wpAny_attempt (wpAny_callSpecial?_slot (name:=Str.ofString "__next__") hi.typeIs cC
  (LJ cC hi.typeIs fR ?_ (gx _))))
 unfold Builtin.«set_iterator.__next__»
 refine LD (LI (a:=(Value.ref it,[])) rfl ?_)
 try dsimp only
 refine LD (wpAny_fieldsOf hoi hdi ?_)
 dsimp only [rawInt]
 refine LD (wpAny_setEntries_of ho hd hf ?_)
 refine wpAny_ite_split (fun hh=>absurd hh (by show ¬ (((1:Int) != 1)=true); decide)) fun _=>?_
 try dsimp only
 refine LD (m:=setNext a 0 0 ep) (rf h fun sl hsl=>?_)
 dsimp only
 have e1:=Heap.get?_update_self (h:=s.heap) (Obj.mapFields (·.setIfInBounds 0 (Value.int (sl:Int) 0))) hoi (Obj.isFreed_of_fields (Obj.data_mapFields hdi _))
 have d1:=Obj.data_mapFields hdi (·.setIfInBounds 0 (Value.int (sl:Int) 0))
 refine LD (wpAny_setField hoi hdi (by simp) ?_)
 refine LD (wpAny_setField e1 d1 (by simp) ?_)
 refine LE ⟨_,rfl,LE (q _ sl ?_ hsl ((Heap.SameBut.update ..).trans (Heap.SameBut.update ..)))⟩
 refine ⟨_,Heap.get?_update_self _ e1 (Obj.isFreed_of_fields (Obj.data_mapFields d1 _)),(Obj.cls_mapFields ..).trans ((Obj.cls_mapFields ..).trans hci),?_⟩
 rw [Obj.data_mapFields d1]
 simp [rawInt]
theorem qX {Q:Option Value→Shared→Prop} {sl:Nat} (hh:A.handled=none) (h:Set1 w s.heap a x tk hs ep t) (hi:IsSetIter s.heap it a sl 1 ep) (hsl:w.params.followText "set-order"=false→SetTable.below t.place sl=1)
  (q:∀ h',Heap.ExtBut it s.heap h'→Q none {s with heap:=h'}):wpAny (model prog w) A (pyNext (.ref it)) Q E s:=by
 apply bc;intro z_
 obtain ⟨o,ho,hc,hd,hf,hl⟩:=id h
 obtain ⟨oi,hoi,hci,hdi⟩:=id hi
 apply z_;clear z_
 unfold pyNext
 refine LD (wpAny_attempt (wpAny_callSpecial?_slot (name:=Str.ofString "__next__") hi.typeIs cC
  (LJ cC hi.typeIs fR ?_ (gx _))))
 unfold Builtin.«set_iterator.__next__»
 refine LD (LI (a:=(Value.ref it,[])) rfl ?_)
 try dsimp only
 refine LD (wpAny_fieldsOf hoi hdi ?_)
 dsimp only [rawInt]
 refine LD (wpAny_setEntries_of ho hd hf ?_)
 refine wpAny_ite_split (fun hh=>absurd hh (by show ¬ (((1:Int) != 1)=true); decide)) fun _=>?_
 try dsimp only
 refine LD (m:=setNext a sl 1 ep) (rg h hsl ?_)
 dsimp only
 refine LD (wpAny_setField hoi hdi (by simp) ?_)
 refine LD ?_
 simp only [newExc,newTuple]
 refine LD (wpAny_newObj_type ?_ (by size_fits))
 refine LD (m:=firstArgMember _ _) (LI (a:=Value.none) (by first | rfl | (simp only [firstArgMember]; rfl)) ?_)
 refine wpAny_newObj_type ?_ (by size_fits)
 simp only [raiseNew]
 refine LD (wpAny_handled ?_)
 first | rw [show A.in1.handled=none from hh] | rw [hh]
 refine LD (LE (wpAny_throw ?_))
 refine LD (wpAny_isInstance (T:="StopIteration") (b:=true) ⟨_,LT _ rfl,rfl⟩ isSubtype_stop ?_)
 exact LE (q _ (((Heap.SameBut.update ..).extBut.push _).push _))
end
section
variable {prog:Program} {w:World} {A:Around} {E:Value→Shared→Prop} {s:Shared} {a it:Addr} {x:Str} {tk:Tok} {hs:Int} {ep:Nat} {t:SetTable}
theorem tL {Q:Bool→Shared→Prop} (hT:s.TypeIs (.ref a) "set") (h:Q false s):wpAny (model prog w) A (Builtin.List.listLengthHint (.ref a)) Q E s:=by
 unfold Builtin.List.listLengthHint
 refine LD (wpAny_specialOf hT PySem.F.slot_set_len.lookup ?_)
 generalize hid:("set.__len__":String)=id0
 wp_delta
 rw [show splitId id0=some ("set","__len__") from by subst hid; decide +kernel]
 subst hid
 refine LD (wpAny_isInstance (T:="set") (b:=true) hT (by rw [isSubtype_type]; kernel_rfl) ?_)
 refine wpAny_ite_split (fun hab=>absurd hab (by decide)) (fun _=>?_)
 refine wpAny_ite_split (fun _=>?_) (fun hab=>absurd (by decide +kernel) hab)
 refine LD (wpAny_typeOf hT ?_)
 exact LE h
theorem Set1.at_ {h h':Heap} (x':Set1 w h a x tk hs ep t) (k:∀ o,h.get? a=some o→h'.get? a=some o):Set1 w h' a x tk hs ep t:=let ⟨o,ho,r⟩:=x'; ⟨o,k o ho,r⟩
theorem IsSetIter.at_ {h h':Heap} {sl i:Nat} (x':IsSetIter h it a sl i ep) (k:∀ o,h.get? it=some o→h'.get? it=some o):IsSetIter h' it a sl i ep:=let ⟨o,ho,r⟩:=x'; ⟨o,k o ho,r⟩
noncomputable def Hy (w:World) (a it:Addr) (x:Str) (tk:Tok) (hs:Int) (ep:Nat) (t:SetTable) (i:Nat) (h:Heap):Prop:=Set1 w h a x tk hs ep t∧∃ sl,IsSetIter h it a sl i ep∧(i=0→sl=0)∧(i=1→w.params.followText "set-order"=false→SetTable.below t.place sl=1)
theorem ru (hh:A.handled=none) (hne:a≠it):Walks prog w A it [it,a] [it] 1 (fun _ v=>v=.str x tk) (Hy w a it x tk hs ep t) where
 sub:=fun b hb=>by simp at hb; simp [hb]
 frame:=fun i h h' st k=>⟨st.1.at_ fun o e=>k a (by simp) o e,let ⟨sl,q,r⟩:=st.2; ⟨sl,q.at_ fun o e=>k it (by simp) o e,r⟩⟩
 item:=fun i s Q E hi st hQ=>by
  have:i=0:=by omega
  subst this
  apply bc;intro z_
  obtain ⟨h1,sl,h2,h3,_⟩:=st
  apply z_;clear z_
  have:=h3 rfl
  subst this
  refine qW h1 h2 fun h' sl' g1 g2 g3=>?_
  exact hQ _ h' s.toks rfl ⟨h1.at_ fun o e=>(g3.2 a hne).trans e,sl',g1,⟨fun e=>absurd e (by decide),fun _=>g2⟩⟩ fun b o hb e=>(g3.2 b (fun z=>hb (by simp [z]))).trans e
 done:=fun s Q E st hQ=>by
  apply bc;intro z_
  obtain ⟨h1,sl,h2,_,h4⟩:=st
  apply z_;clear z_
  exact qX hh h1 h2 (h4 rfl) fun h' he=>hQ h' s.toks fun b o hb e=>he b o (fun z=>hb (by simp [z])) e
 self:=fun i s Q E st hQ=>by
  apply bc;intro z_
  obtain ⟨h1,sl,h2,_⟩:=st
  apply z_;clear z_
  refine wpAny_pyIter_slot h2.typeIs gV (LJ gV h2.typeIs j1 ?_ (kX _))
  show wpAny _ _ (ret (.ref it)) _ _ s
  exact LE ⟨_,rfl,"set_iterator",_,h2.typeIs,cC.lookup,hQ⟩
theorem zE:KdlSrc prog w "set" a a 1 (fun _ v=>v=.str x tk) (fun h=>Set1 w h a x tk hs ep t) where
 type:=fun s hm=>hm.typeIs
 there:=fun _ hm=>let ⟨o,ho,_⟩:=hm; ⟨L7 ho,L7 ho⟩
 keep:=fun _ _ hm hk=>hm.at_ fun o e=>hk a (.inl rfl) o e
 notList:=by decide
 notTuple:=by decide
 hint:=fun _ _ _ _ hm hq=>tL hm.typeIs hq
 iter:=fun A s hh hm=>⟨_,_,(fun _ _ hq=>tV hm hq),ru hh (let ⟨o,ho,_⟩:=hm; Ms (L7 ho)),⟨hm.at_ fun o e=>LM _ e,0,⟨_,LT _ rfl,rfl,rfl⟩,⟨fun _=>rfl,fun e=>absurd e (by decide)⟩⟩⟩
theorem lZ {Q:List Value→Shared→Prop} (hh:A.handled=none) (h:Set1 w s.heap a x tk hs ep t)
  (q:∀ h' k,(∀ b o,s.heap.get? b=some o→h'.get? b=some o)→Q [.str x tk] {s with heap:=h',toks:=k}):wpAny (model prog w) A (collect (.ref a)) Q E s:=by
 unfold collect
 refine LD (wpAny_runValue (Ml entry_proto_collect' ?_))
 show wpAny _ _ (do again (.builtin "list.__iadd__" ⟨[← newList [],.ref a],[]⟩)) _ _ s
 refine LD (wpAny_newList (LE ⟨Code.quiet_builtin _ (by decide +kernel),Ml entry_list_iadd' ?_⟩))
 show wpAny _ _ (Builtin.List.listExtendWith (.ref s.heap.objs.size) (.ref a) (.ref s.heap.objs.size)) _ _ {s with heap:=s.heap.push (seqObj "list" #[] 0)}
 have hlt:a<s.heap.objs.size:=let ⟨o,ho,_⟩:=h; L7 ho
 rw [Around.under_plainId (by decide +kernel) _]
 let R:Result→Shared→Prop:=fun r s'=>match r with
  | .ok (.ret v)=>wpAny (model prog w) A (match v with
   | .ref a=>(do
    let o ← load a
    match o.data with
    | .seq xs _=>pure xs.toList
    | _=>unsupported "internal:collect")
   | _=>unsupported "internal:collect") Q E s'
  | .ok _=>False
  | .error e=>E e s'
 refine LF (kdl_extend (R:=R) (s:={s with heap:=s.heap.push (seqObj "list" #[] 0)}) (zE (prog:=prog) (x:=x) (tk:=tk) (hs:=hs) (ep:=ep) (t:=t)) hh (h.at_ fun o e=>LM _ e) s.heap.objs.size (Mr hlt) (Mr hlt) (.ref s.heap.objs.size) 0 (LT _ rfl) (fun h' k acc c hk hS hacc=>?_) (by rw [L6]; omega)) (fun fin s' z=>z) fun _ _ z=>z
 show wpAny (model prog w) A (do
   let o ← load s.heap.objs.size
   match o.data with
   | .seq xs _=>pure xs.toList
   | _=>unsupported "internal:collect") Q E _
 refine LD (LK hS ?_)
 have e1:acc.toList=[.str x tk]:=by
  apply bc;intro z_
  obtain ⟨l1,l2⟩:=hacc
  obtain ⟨l⟩:=acc
  apply z_;clear z_
  have l1:l.length=1:=l1
  cases l with
  | nil=>cases l1
  | cons v r=>
   cases r with
   | nil=>have:=l2 0 v rfl; rw [this]
   | cons u r=>cases l1
 show wpAny _ _ (pure acc.toList) Q E _
 rw [e1]
 exact LE (q h' k fun b o e=>hk b o (Ms (L7 e)) (LM _ e))
end
theorem Rel.retab {c':Addr} {oc:Obj} {ps':Array Value} (R:Rel G X env σ s) (ha:s.heap.get? c'=none) (k:∀ b,b≠G.T→∀ o,s.heap.get? b=some o→s'.heap.get? b=some o) (ho:s'.heap.get? c'=some oc)
  (hT:s'.heap.get? G.T=some (zG ps')) (hok:∀ F:Addr→Option Obj,F c'=some oc→G.TbOk F ps') (hos:s'.os=s.os) (hd:s'.drawn=s.drawn) (hg:G.Gn s'.gens) :
  Rel G {X with F:=fun b=>if b=c' then some oc else X.F b,tb:=ps'} env σ s'∧X.le σ.nx {X with F:=fun b=>if b=c' then some oc else X.F b,tb:=ps'}:=by
 have ne:∀ {b:Addr} {ob:Obj},s.heap.get? b=some ob→b≠c':=fun e q=>by rw [q,ha] at e; cases e
 have L:X.le σ.nx {X with F:=fun b=>if b=c' then some oc else X.F b,tb:=ps'}:=⟨fun _ _=>rfl,fun b ob e=>by
  show (if b=c' then some oc else X.F b)=_
  rw [LU (ne (R.sub _ _ e))]; exact e,fun _ _ _=>rfl⟩
 have Fo:∀ {b:Addr},b≠c'→X.F b=none→({X with F:=fun b=>if b=c' then some oc else X.F b,tb:=ps'}:Wd).F b=none:=fun {b} q e=>by
  show (if b=c' then some oc else X.F b)=_
  rw [LU q]; exact e
 have nT:∀ {b:Addr} {ob:Obj},X.F b=some ob→b≠G.T:=fun e q=>by rw [q,R.tab.2.1] at e; cases e
 apply bc;intro z_
 obtain ⟨oL,zL⟩:=R.loc.ltL
 apply z_;clear z_
 refine ⟨⟨fun b ob e=>?_,fun b ob e q=>L.F _ _ (R.base b ob e q),fun l o e=>⟨?_,(R.own l o e).2⟩,R.inj,R.big,fun l o e=>⟨(R.st l o e).1,?_⟩,⟨hT,?_,hok _ (LV rfl)⟩,?_,hos.trans R.os,hd.trans R.drawn,hg,fun a o e=>let ⟨z1,z2,z3,z4,z5,z6⟩:=R.hp a o e; ⟨k a z6 _ z1,Fo (ne z1) z2,z3,z4,z5,z6⟩⟩,L⟩
 ·have e:(if b=c' then some oc else X.F b)=some ob:=e
  by_cases q:b=c'
  ·rw [LV q] at e; cases e; rw [q]; exact ho
  ·rw [LU q] at e; exact k b (nT e) _ (R.sub _ _ e)
 ·apply bc;intro z_
  obtain ⟨ob,z⟩:=R.there e
  apply z_;clear z_
  exact Fo (ne z) (R.own l o e).1
 ·apply bc;intro z_
  obtain ⟨ob,z⟩:=(R.st l o e).2.there
  apply z_;clear z_
  exact (R.st l o e).2.go L (LR _) ((k _ (R.own l o e).2 _ z).trans z.symm)
 ·exact Fo (ne R.tab.1) R.tab.2.1
 ·refine R.loc.go L (LR _) ((k _ R.loc.freeL.2.2 _ zL).trans zL.symm) (fun x c e=>?_) ⟨Fo (ne zL) R.loc.freeL.1,R.loc.freeL.2.1⟩ fun w x c e=>⟨?_,(R.loc.freeC w x c e).2.1⟩
  ·apply bc;intro z_
   obtain ⟨oc',zc⟩:=R.loc.ltC e
   apply z_;clear z_
   refine (k _ (fun w=>?_) _ zc).trans zc.symm
   by_cases q:env.frame=some env.locals
   ·exact (R.loc.freeC q x c e).2.2.2 w
   ·apply bc;intro z_
    obtain ⟨o',z⟩:=R.loc.frzC q x c e
    apply z_;clear z_
    exact nT z w
  ·apply bc;intro z_
   obtain ⟨oc',zc⟩:=R.loc.ltC e
   apply z_;clear z_
   exact Fo (ne zc) (R.loc.freeC w x c e).1
structure LamOk (G:Glob) (c:Nat) (pos:Pos) (qual:Str):Prop where
 hC:∀ h:Heap,G.K.In h→CodeHd h c G.T
 out:∀ (F:Addr→Option Obj) (ps:Array Value),G.TbOk F ps→ps=#[]∨∃ c' o vs t,ps=#[rawInt pos.line,rawInt pos.col,.ref c']∧F c'=some o∧o.cls=.type "code"∧o.data=.fields vs∧vs[1]?=some (.str qual t)
 in_:∀ (F:Addr→Option Obj) (c':Addr) (o:Obj) (vs:Array Value) (t:Tok),F c'=some o→o.cls=.type "code"→o.data=.fields vs→vs[1]?=some (.str qual t)→G.TbOk F #[rawInt pos.line,rawInt pos.col,.ref c']
noncomputable abbrev js (qual:Str) (params:Arguments) (body:PySem.Expr) (scope:Scope) (pm cv:Value):Obj:={cls:=.type "function",data:=.func (kla_fn "<lambda>" qual params body scope [] pm cv .none)}
noncomputable def LamAt (G:Glob) (X:Wd) (f:Addr) (qual:Str) (params:Arguments) (body:PySem.Expr) (scope:Scope):Prop:=∃ pm c' oc vs t,X.F f=some (js qual params body scope pm (.ref c'))∧X.F c'=some oc∧oc.data=.fields vs∧vs[1]?=some (.str qual t)
theorem tZ {params:Arguments} {body:PySem.Expr} {scope:Scope} {pos:Pos} {Q:Value→Shared→Prop} (ok:G.Ok) (hc:sc.code≠0) (L:LamOk G sc.code pos (sc.qual++"<lambda>")) (hdef:∀ env,defaultsOf params env=([],[])) (hcl:∀ env,closureFor scope env=pure [])
  (he:EOk sc env) (R:Rel G X env σ s) (q:∀ f s' X',Rel G X' env σ s'→X.le σ.nx X'→LamAt G X' f (sc.qual++"<lambda>") params body scope→Q (.ref f) s') :
  wpAny (model G.prog G.w) A (eval (.Lambda params body scope pos) env) Q bg s:=by
 apply bc;intro z_
 obtain ⟨ec,eq⟩:=he.code hc
 apply z_;clear z_
 refine kla_eval (hdef env) ?_
 rw [eq]
 apply bc;intro z_
 obtain ⟨mg,hmg,hb⟩:=ok.lam
 have keep:∀ b o,G.hb.get? b=some o→b≠G.T→s.heap.get? b=some o:=fun b o e h=>R.sub _ _ (R.base b o e h)
 have hgs:s.heap.Ns mainGlobals mg:=by
  obtain ⟨o,es,ep,e,r⟩:=hmg
  exact ⟨o,es,ep,keep _ _ e ok.T3.symm,r⟩
 obtain ⟨bm,ob,b1,b2,b3,b4,b5,b6⟩:=hb
 apply z_;clear z_
 have hbs:=keep _ _ b5 b4
 have C:=L.hC s.heap (R.K ok)
 have hP:=R.tab.1
 rw [makeFunction_eq]
 simp only [List.zip_nil_right,List.filterMap_nil,List.isEmpty_nil,if_true,pure_bind]
 unfold makeTail
 rw [hcl,he.globals]
 refine LD (LE ?_)
 simp only [List.isEmpty_nil,if_true]
 refine LD (LE ?_)
 rcases L.out _ _ R.tab.2.2 with e0 | ⟨c',oc,vs,t,e0,e1,e2,e3,e4⟩
 ·rw [e0] at hP
  refine LD (wpAny_functionCodeX ec (C.code hP trivial) (C.tab hP) rfl fun c' h' tk hx hge hlt _ hrec htb hnew=>?_)
  apply bc;intro z_
  obtain ⟨c₂,oc,vs,t,e2,g1,g2,g3⟩:=hrec
  cases e2
  obtain ⟨P',_,_,⟨oc',vs',z1,z2,_⟩,_⟩:=hnew
  apply z_;clear z_
  rw [g1] at z1; cases z1
  have hg':=hgs.extBut hx ok.T3.symm
  refine LD (wpAny_builtinsFor hg' b1 b2 (hx _ _ b4 hbs) b6.1 b6.2.1 b6.2.2 ?_)
  refine LD (wpAny_nsGet hg' ?_)
  refine LD (LE (wpAny_newObj_type ?_ (by size_fits)))
  apply bc;intro z_
  obtain ⟨R1,L1⟩:=R.retab (s':={s with heap:=h',toks:=tk}) (c':=c') (oc:=oc) (ps':=#[rawInt pos.line,rawInt pos.col,.ref c']) (Heap.get?_none_of_le hge) (fun b hb o e=>hx b o hb e) g1 (by
   have:=htb.2; simpa [zG] using this) (fun F hF=>L.in_ F c' oc vs t hF z2 g2 g3) rfl rfl R.gens
  obtain ⟨R2,L2⟩:=R1.still (s':={s with heap:=h'.push (js (sc.qual++"<lambda>") params body scope ((mg "__name__").getD .none) (.ref c')),toks:=tk}) (o:=js (sc.qual++"<lambda>") params body scope ((mg "__name__").getD .none) (.ref c')) (aL (h:=h')) (fun _ _ e=>LM _ e) (LT _ rfl) rfl rfl R.gens ok
  apply z_;clear z_
  exact q _ _ _ R2 (L1.trans L2 (LR _)) ⟨_,c',oc,vs,t,LV rfl,L2.F _ _ (LV rfl),g2,g3⟩
 ·rw [e0] at hP
  refine LD (wpAny_functionCode_hit (c':=.ref c') ec (C.code hP trivial) (by simp [codeAmong,rawInt]) ?_)
  refine LD (wpAny_builtinsFor hgs b1 b2 hbs b6.1 b6.2.1 b6.2.2 ?_)
  refine LD (wpAny_nsGet hgs ?_)
  refine LD (LE (wpAny_newObj_type ?_ (by size_fits)))
  apply bc;intro z_
  obtain ⟨R2,L2⟩:=R.still (s':={s with heap:=s.heap.push (js (sc.qual++"<lambda>") params body scope ((mg "__name__").getD .none) (.ref c'))}) (o:=js (sc.qual++"<lambda>") params body scope ((mg "__name__").getD .none) (.ref c')) aL (fun _ _ e=>LM _ e) (LT _ rfl) rfl rfl R.gens ok
  apply z_;clear z_
  exact q _ _ _ R2 L2 ⟨_,c',oc,vs,t,LV rfl,L2.F _ _ e1,e3,e4⟩
theorem tY {qual:Str} {params:Arguments} {body:PySem.Expr} {scope:Scope} {f:Addr} {d:DE} {x:Str} {v:V} {val:Value} {K:V→St→Prop} (ok:G.Ok) (h:SE G lv sc' body d) (hcode:sc'.code=0) (hfn:sc'.fn=true) (hnm:sc'.names=scope.names) (hnd:(sc'.names.map (·.1)).Nodup)
  (hk:scope.kind=.function) (hgen:scope.isGenerator=false) (hco:scope.isCoroutine=false) (hcell:∀ p∈scope.names,p.2≠.cell) (hx:sc'.names[0]?=some (x,.local))
  (hbind:∀ pm c' val,bindArgs (kla_fn "<lambda>" qual params body scope [] pm c' .none) ⟨[val],[]⟩=pure [(x,val)])
  (F:LamAt G X f qual params body scope) (hd:d ⟨[(0,v)],σ.st,σ.nx⟩ K) (ha:AOk (lv+1) A) (R:Rel G X env σ s) (W:RepV X σ.nx v val) :
  wpAny (model G.prog G.w) A (call (.ref f) [val]) (Post G X env σ.nx (fun u σ'=>∃ lo',K u ⟨lo',σ'.st,σ'.nx⟩∧σ'.lo=σ.lo)) bg s:=by
 apply bc;intro z_
 obtain ⟨pm,c',oc,vs,t,hf,hc',hdat,hv1⟩:=F
 apply z_;clear z_
 refine wpAny_call ?_
 have hroom:A.depth<recursionLimit:=by have:=ha.depth; omega
 refine kla_callFunE hroom (R.sub _ _ hf) rfl hco hgen rfl ⟨c',oc,vs,t,rfl,R.sub _ _ hc',hdat,hv1⟩ ?_
 rw [hbind]
 refine LE ?_
 refine wpAny_newFunctionEnv_cells hk (fun p hp=>?_) fun env' he' s2 y=>?_
 ·simp only [List.mem_singleton] at hp
  subst hp
  have:=dg hnd hx
  rw [hnm] at this
  exact .inl this
 ·apply bc;intro z_
  obtain ⟨⟨hsame,hns,hkeep,hfresh⟩,hcl,hapart,habove⟩:=y
  apply z_;clear z_
  have R2:=R.enter (s1:=s2) (env':=env') (lo:=[(0,v)]) ok hsame hkeep hns hfresh hcl hapart habove (by rw [he']; rfl) (fun i u e=>by
   rw [ax] at e
   by_cases q:i=0
   ·rw [LV q] at e; cases e
    subst q
    refine ⟨x,.local,val,by rw [he']; show scope.names[0]?=_; rw [← hnm]; exact hx,W,.inl ⟨rfl,?_⟩⟩
    have hkd:env'.kindOf x=some .local:=by rw [he']; show scope.names.lookup x=_; rw [← hnm]; exact dg hnd hx
    exact eu hkd (by simp) (by simp)
   ·rw [LU q] at e; cases e)
  have hE:EOk sc' env':=by
   refine ⟨by rw [he']; exact hnm.symm,by rw [he']; exact hk,by rw [he']; rfl,by rw [he']; rfl,hnd,fun _=>by rw [he']; rfl,fun z hz=>?_,fun w=>absurd hcode w⟩
   exact absurd (iF hz) (by rw [hnm]; exact fun m=>hcell _ m rfl)
  have hA:AOk lv (A.deeper env'):=ha.up 1 3 rfl rfl rfl (by decide) (by decide)
  refine ⟨(R.nolimit ok).keeps hkeep,kla_codeExpr ?_⟩
  refine LF (h ⟨[(0,v)],σ.st,σ.nx⟩ _ hd (A.deeper env') env' _ s2 hA hE R2) (fun u s3 y_=>?_) fun _ _ z=>z.elim
  apply bc;intro z_
  obtain ⟨fv,σ3,X3,q3,L3,n3,R3,W3⟩:=y_
  obtain ⟨R4,L4,hS⟩:=R.leave ok R3 L3 n3
  apply z_;clear z_
  exact ⟨fv,⟨σ.lo,σ3.st,σ3.nx⟩,_,⟨σ3.lo,q3,rfl⟩,L4,n3,R4,W3.drop hS⟩
theorem AOk.in1 (h:AOk (lv+1) A):AOk lv A.in1:=h.up 0 1 rfl rfl rfl (by decide) (by decide)
theorem LamAt.up {f:Addr} {qual:Str} {params:Arguments} {body:PySem.Expr} {scope:Scope} (F:LamAt G X f qual params body scope) (L:X.le n X'):LamAt G X' f qual params body scope:=by
 apply bc;intro z_
 obtain ⟨pm,c',oc,vs,t,e1,e2,r⟩:=F
 apply z_;clear z_
 exact ⟨pm,c',oc,vs,t,L.F _ _ e1,L.F _ _ e2,r⟩
noncomputable def nD (l:Nat) (σ:St):Bool:=match aq l σ.st with | some .cold=>true | _=>false
theorem lY {l:Nat} (h:nD l σ=true):aq l σ.st=some .cold:=by
 unfold nD at h
 split at h
 ·assumption
 ·first | exact nS h | exact nB h | cases h
noncomputable def vK (σ:St) (k:List Nat) (σ2:St) (Q:V→St→Prop):Prop:=onS (dw (σ.nx+1) σ2) fun xs=>onNil xs (onT (nD σ.nx σ2) (Q (.loc σ.nx) ⟨σ.lo,fq σ.nx (.list [.str k]) (fq (σ.nx+1) (.list []) σ2.st),σ2.nx⟩))
theorem kM {k:List Nat} {Q:V→St→Prop} (h:vK σ k σ2 Q):(aq (σ.nx+1) σ2.st=some (.list [])∧aq σ.nx σ2.st=some .cold)∧Q (.loc σ.nx) ⟨σ.lo,fq σ.nx (.list [.str k]) (fq (σ.nx+1) (.list []) σ2.st),σ2.nx⟩:=by
 apply bc;intro z_
 obtain ⟨xs,h1,h⟩:=onS.out h
 obtain ⟨rfl,h⟩:=onNil.out h
 obtain ⟨h2,h⟩:=onT.out h
 apply z_;clear z_
 exact ⟨⟨bG h1,lY h2⟩,h⟩
noncomputable def AM (dl:DE) (v:V) (σ:St) (Q:V→St→Prop):Prop:=fW v fun l=>onS (jR l σ) fun k=>onS k fun k=>dl ⟨[(0,.str k)],(σ.nx+1,.list [])::(σ.nx,.cold)::σ.st,σ.nx+2⟩ fun _ σ2=>vK σ k σ2 Q
theorem vM {f D:Addr} {x:List Nat} {tk:Tok} {qual:Str} {params:Arguments} {body:PySem.Expr} {scope:Scope} {d:DE} {y:Str} {K:V→St→Prop} {Q:PySem.Fin→Shared→Prop} (ok:G.Ok) (h:SE G lv sc' body d) (hcode:sc'.code=0) (hfn:sc'.fn=true) (hnm:sc'.names=scope.names) (hnd:(sc'.names.map (·.1)).Nodup)
  (hk:scope.kind=.function) (hgen:scope.isGenerator=false) (hco:scope.isCoroutine=false) (hcell:∀ p∈scope.names,p.2≠.cell) (hx:sc'.names[0]?=some (y,.local))
  (hbind:∀ pm c' val,bindArgs (kla_fn "<lambda>" qual params body scope [] pm c' .none) ⟨[val],[]⟩=pure [(y,val)])
  (F:LamAt G X f qual params body scope) (ha:AOk (lv+1) A) (R:Rel G X env σ s) (hD0:s.heap.get? D=none) (hbig:mainGlobals<D)
  (hd:d ⟨[(0,.str x)],(σ.nx+1,.list [])::(σ.nx,.cold)::σ.st,σ.nx+2⟩ K)
  {h1:Heap} (hD:h1.get? D=some (seqObj "list" #[.str ⟨x.toArray⟩ tk] 0)) (keep:∀ b o,s.heap.get? b=some o→h1.get? b=some o)
  (q:∀ (s':Shared) (u:V) (σ2:St) (X':Wd),K u σ2→aq (σ.nx+1) σ2.st=some (.list [])→aq σ.nx σ2.st=some .cold→X.le σ.nx X'→σ.nx+2≤σ2.nx→X'.ρ σ.nx=D→Rel G X' env ⟨σ.lo,fq σ.nx (.list [.str x]) (fq (σ.nx+1) (.list []) σ2.st),σ2.nx⟩ s'→Q (.done (.ret .none)) s')
  (hK:∀ (u:V) (σ2:St),K u σ2→aq (σ.nx+1) σ2.st=some (.list [])∧aq σ.nx σ2.st=some .cold) :
  wpAny (model G.prog G.w) A (ksk_tree D (.ref f) false) Q bg {s with heap:=h1}:=by
 have u1:(h1.update D (Obj.mapSeq fun _=>(#[]:Array Value))).get? D=some (seqObj "list" #[] 1):=by
  rw [Heap.get?_update_self _ hD (by rfl)]; rfl
 have ot:∀ b o,s.heap.get? b=some o→(h1.update D (Obj.mapSeq fun _=>(#[]:Array Value))).get? b=some o:=fun b o e=>by
  have hb:b≠D:=fun z=>by rw [z,hD0] at e; cases e
  rw [Mg _ _ (Ne.symm hb)]; exact keep b o e
 unfold ksk_tree
 refine LD (listItems_at hD rfl ?_)
 refine LD (listUpdate_at hD rfl ?_ (by rw [L6]; simp) (Mm _))
 generalize h1.update D (Obj.mapSeq fun _=>(#[]:Array Value))=hA at u1 ot ⊢
 refine LD (seqEpoch_at u1 rfl ?_)
 refine LD (wpAny_newTuple ?_ (by rw [L6]; simp))
 refine LD (wpAny_newList ?_ (Mm _))
 refine LG ?_
 apply bc;intro z_
 obtain ⟨R1,L1⟩:=R.anew (o:=.cold) (a:=D) (s':={s with heap:=hA}) hD0 hbig ot (fun _ _=>u1) rfl rfl R.gens
 apply z_;clear z_
 have R1':=R1.push (seqObj "tuple" #[.str ⟨x.toArray⟩ tk] 0) s.toks
 dsimp only at R1'
 generalize hA.push (seqObj "tuple" #[.str ⟨x.toArray⟩ tk] 0)=hB at R1' ⊢
 apply bc;intro z_
 obtain ⟨R2,L2⟩:=R1'.anew (o:=.list []) (a:=hB.objs.size) (s':={s with heap:=hB.push (seqObj "list" #[] 0)}) (aL (h:=hB)) (R1'.size ok) (fun _ _ e=>LM _ e)
  (fun X' _=>⟨_,[],LT _ rfl,⟨rfl,rfl,⟨0,rfl⟩,rfl⟩,.nil⟩) rfl rfl R.gens
 apply z_;clear z_
 generalize hB.push (seqObj "list" #[] 0)=hC at R2 ⊢
 generalize hB.objs.size=kS at R2 L2 ⊢
 have L12:=L1.trans L2 (Mj _)
 have F2:=F.up L12
 unfold ksk_rest
 refine LD (Mu ?_)
 rw [← Array.forIn_toList]
 show wpAny _ _ (forIn [Value.str ⟨x.toArray⟩ tk] PUnit.unit _ >>= _) _ _ _
 rw [List.forIn_cons]
 refine LD (LD (LD (wpAny_attempt (LF (tY (v:=.str x) (K:=K) ok h hcode hfn hnm hnd hk hgen hco hcell hx hbind F2 hd ha R2 (.str x tk)) (fun kv s3 z=>?_) fun _ _ z=>z.elim))))
 apply bc;intro z_
 obtain ⟨u,σ3,X3,⟨lo',hKu,hlo⟩,L3,n3,R3,W3⟩:=z
 obtain ⟨hk1,hk2⟩:=hK _ _ hKu
 dsimp only at hk1 hk2
 have hρ1:X3.ρ (σ.nx+1)=kS:=(L3.ρ (σ.nx+1) (LX _)).trans (LV rfl)
 have hρ0:X3.ρ σ.nx=D:=by
  rw [L3.ρ σ.nx (Mn (LX _))]
  show (if σ.nx=σ.nx+1 then _ else if σ.nx=σ.nx then D else _)=D
  rw [LU (Ms (LX _)),LV rfl]
 obtain ⟨_,ok1,vals1,g1,l1,w1⟩:=R3.st _ _ hk1
 obtain ⟨_,gD⟩:=R3.st _ _ hk2
 cases w1
 rw [hρ1] at g1
 rw [hρ0] at gD
 have L13:=L12.trans L3 (LN (Mj _) (Mj _))
 have hne:D≠kS:=fun z=>by
  exact absurd (R3.inj _ _ _ _ hk2 hk1 (by rw [hρ0,hρ1,z])) (Ms (LX _))
 obtain ⟨c1,d1,dt1,sl1⟩:=ok1
 obtain ⟨a1,a2,⟨ep,a3⟩,a4⟩:=l1
 apply z_;clear z_
 dsimp only at a1 a2 a3 a4
 subst a1 a2 a3 a4
 have g1:s3.heap.get? kS=some (seqObj "list" #[] ep):=g1
 have g2:=get?_update_seq g1 (·.push kv)
 have g3:=get?_update_seq g2 (fun _=>(#[]:Array Value))
 have gD1:((s3.heap.update kS (Obj.mapSeq (·.push kv))).update kS (Obj.mapSeq fun _=>(#[]:Array Value))).get? D=some (seqObj "list" #[] 1):=by
  rw [Mg _ _ (Ne.symm hne),Mg _ _ (Ne.symm hne)]; exact gD
 have gD2:=get?_update_seq gD1 (fun _=>(#[.str ⟨x.toArray⟩ tk]:Array Value))
 refine LD (listUpdate_at g1 rfl ?_ (Mm _) (by rw [L6]; simp))
 refine LE ?_
 dsimp only
 rw [List.forIn_nil]
 refine LE ?_
 refine LD (listItems_at g2 rfl ?_)
 unfold ksk_end
 dsimp only
 rw [LU LZ]
 have hz:((#[]:Array Value).push kv).zip #[Value.str ⟨x.toArray⟩ tk]=#[(kv,Value.str ⟨x.toArray⟩ tk)]:=by simp
 rw [hz]
 simp only [Bool.false_eq_true,if_false]
 have hlt2:#[Value.str ⟨x.toArray⟩ tk].size<2:=by show 1<2; omega
 rw [LV hlt2]
 refine LD (LE ?_)
 rw [LV hlt2,StateT.run_pure]
 refine LD (LE ?_)
 dsimp only
 unfold ksk_tail
 have hm:Array.map (fun p:Value×Value=>p.2) (arrOf (SortSt.mk' general' #[(kv,Value.str ⟨x.toArray⟩ tk)] #[] 7 none))=#[Value.str ⟨x.toArray⟩ tk]:=by
  show Array.map _ #[(kv,Value.str ⟨x.toArray⟩ tk)]=_
  simp
 rw [hm]
 dsimp only
 simp only [Bool.false_eq_true,if_false]
 refine LD (listUpdate_at g2 rfl ?_ (by rw [L6]; simp) (Mm _))
 refine LD (wpAny_letGo ?_)
 refine LD (seqEpoch_at gD1 rfl ?_)
 refine LD (listUpdate_at gD1 rfl ?_ (Mm _) (by rw [L6]; simp))
 rw [LU (by simp)]
 refine LE ?_
 have R4:=R3.upd (σ:=⟨σ3.lo,σ3.st,σ3.nx⟩) (o:=.list []) (s':={s3 with heap:=(s3.heap.update kS (Obj.mapSeq (·.push kv))).update kS (Obj.mapSeq fun _=>(#[]:Array Value))}) hk1 (fun b hb o e=>by
  rw [hρ1] at hb
  rw [Mg _ _ (Ne.symm hb),Mg _ _ (Ne.symm hb)]; exact e) (by rw [hρ1]; exact ⟨_,[],g3,⟨rfl,rfl,⟨_,rfl⟩,rfl⟩,.nil⟩) rfl rfl R3.gens
 have hk2':aq σ.nx (fq (σ.nx+1) (.list []) σ3.st)=some .cold:=by rw [dN,LU (Ms (LX _))]; exact hk2
 have R5:=R4.upd (o:=.list [.str x]) (s':={s3 with heap:=((s3.heap.update kS (Obj.mapSeq (·.push kv))).update kS (Obj.mapSeq fun _=>(#[]:Array Value))).update D (Obj.mapSeq fun _=>(#[Value.str ⟨x.toArray⟩ tk]:Array Value))}) hk2' (fun b hb o e=>by
  rw [hρ0] at hb
  rw [Mg _ _ (Ne.symm hb)]; exact e) (by rw [hρ0]; exact ⟨_,[.str ⟨x.toArray⟩ tk],gD2,⟨rfl,rfl,⟨_,rfl⟩,rfl⟩,.cons (.str _ _) .nil⟩) rfl rfl R3.gens
 have hlo':σ3.lo=σ.lo:=hlo
 exact q _ u ⟨lo',σ3.st,σ3.nx⟩ X3 hKu hk1 hk2 L13 n3 hρ0 (by rw [← hlo']; exact R5)
structure LamSc (sc':Sc) (params:Arguments) (scope:Scope) (y:Str):Prop where
 code:sc'.code=0
 fn:sc'.fn=true
 names:sc'.names=scope.names
 nd:(sc'.names.map (·.1)).Nodup
 kind:scope.kind=.function
 gen:scope.isGenerator=false
 co:scope.isCoroutine=false
 cell:∀ p∈scope.names,p.2≠.cell
 x:sc'.names[0]?=some (y,.local)
 bind:∀ (qual:Str) (body:PySem.Expr) (pm c' val:Value),bindArgs (kla_fn "<lambda>" qual params body scope [] pm c' .none) ⟨[val],[]⟩=pure [(y,val)]
 dfl:∀ env,defaultsOf params env=([],[])
 clo:∀ env,closureFor scope env=pure []
theorem qw {x:Str} {i:Nat} {np p kp lpos:Pos} {a:PySem.Expr} {params:Arguments} {body:PySem.Expr} {scope:Scope} {y:Str} {d dl:DE} (ok:G.Ok) (hx:sc.names[i]?=some (x,.globalImplicit)) (b:Bltin G x (.builtin "sorted"))
  (hc:sc.code≠0) (LO:LamOk G sc.code lpos (sc.qual++"<lambda>")) (LS:LamSc sc' params scope y) (h:SE G (lv+3) sc a d) (hb:SE G lv sc' body dl)
  (h1:∀ env pos,(backTo pos (starEach [a] env)).any (·.1)=false) (h2:∀ env pos,(backToKw pos (keywordEach [⟨some (Str.ofString "key"),.Lambda params body scope lpos,kp⟩] env)).all (·.1.isSome)=true)
  (h3:∀ env pos,(backToKw pos (keywordEach [⟨some (Str.ofString "key"),.Lambda params body scope lpos,kp⟩] env)).filterMap (·.1)=[Str.ofString "key"]) (hst:∀ env r,starEach (a::r) env=(false,eval a env)::starEach r env) :
  SE G (lv+3) sc (.Call (.Name x np) [a] [⟨some (Str.ofString "key"),.Lambda params body scope lpos,kp⟩] p) (fun σ Q=>d σ fun v σ1=>AM dl v σ1 Q):=fun σ Q hd A env X s ha he R=>by
 refine wpAny_Call_ofName (wpAny_Name (cZ ok he R hx b.hg b.hn b.hb ?_) b.hdb)
 refine bT (h1 env _) (h2 env _) ?_
 refine LF (ac h ae hst σ (fun vs σ2=>mE vs fun v=>AM dl v σ2 Q) hd A env X s p ha he R) (fun vals s1 y_=>?_) fun _ _ z=>z
 apply bc;intro z_
 obtain ⟨vs,σ1,X1,q1,L1,n1,R1,W1⟩:=y_
 apply z_;clear z_
 refine W1.on1_ q1 fun v val W q1=>?_
 refine kws_cons (tZ ok hc LO LS.dfl LS.clo he R1 fun f s2 X2 R2 L2 F=>?_)
 refine LE ?_
 rw [h3,List.nil_append]
 refine ⟨fun Q' k=>LE (k _ (by decide)),(W.mono L2 (LR _)).loc_ q1 fun l q1=>?_⟩
 apply bc;intro z_
 obtain ⟨k',hk,q1⟩:=onS.out q1
 obtain ⟨k,rfl,q1⟩:=onS.out q1
 apply z_;clear z_
 show wpAny _ _ (call (.builtin "sorted") [.ref (X2.ρ l)] [(Str.ofString "key",.ref f)]) _ _ _
 apply bc;intro z_
 obtain ⟨_,ob,hob,g1,hs2,tk2,ep2,t2,g2,g3,g4,g5⟩:=R2.st _ _ (fx hk)
 apply z_;clear z_
 refine call_function_entry_kw kind_sorted plain_sorted entry_sorted (ksk_s1 _ _) ?_
 unfold Builtin.«sorted»
 refine LD (m:=checkCount "sorted" 1 1 _) (LE ?_)
 refine LD (lZ (s:=s2) ha.handled (⟨ob,hob,g1.1,g2,g3,g4⟩:Set1 G.w s2.heap (X2.ρ l) ⟨k.toArray⟩ tk2 hs2 ep2 t2) fun h' tk' hk'=>?_)
 have R3:=R2.heap (t:=tk') hk'
 refine LD (wpAny_newList ?_ (by rw [L6]; simp))
 refine LD (LG (wpAny_call_entry_kw slot_list_sort ⟨_,LT _ rfl,rfl⟩ entry_list_sort ?body (ksk_l1 _ _)))
 case body=>
  rw [ksk_t1]
  refine vM (s:={s2 with heap:=h',toks:=tk'}) (lv:=lv) (K:=fun _ σ2=>vK σ1 k σ2 Q) ok hb LS.code LS.fn LS.names LS.nd LS.kind LS.gen LS.co LS.cell LS.x (LS.bind _ _) F (AOk.in1 (AOk.in1 ha)) R3 (aL (h:=h')) (R3.size ok) q1 (LT _ rfl) (fun _ _ e=>LM _ e) (fun s' u σ2 X' hK hk1 hk2 L' n' hρ R'=>?_) (fun u σ2 hK=>(kM hK).1)
  have n':σ1.nx<σ2.nx:=Mi (Mn (LX _)) n'
  exact ⟨_,rfl,LE ⟨_,rfl,_,_,X',(kM hK).2,(L1.trans L2 n1).trans L' n1,LN n1 (Nat.le_of_lt n'),R',.loc_at n' hρ⟩⟩
noncomputable def nI (k:List Nat) (v:V):List (List Nat×V)→List (List Nat×V)
 | []=>[(k,v)]
 | (x,u)::r=>match kl x k with
  | true=>(x,v)::r
  | false=>(x,u)::nI k v r
theorem mu {k:Str} {v:Value}:∀ {kvs:List (Str×Value)},k ∉ kvs.map (·.1)→kvs.map (fun kv=>if kv.1=k then (kv.1,v) else kv)=kvs
 | [],_=>rfl
 | (x,u)::r,h=>by
  simp only [List.map_cons,List.mem_cons,not_or] at h
  rw [List.map_cons,LU (Ne.symm h.1),mu h.2]
theorem PairsAre.store {k:List Nat} {v:V} {val:Value} (W:RepV X n v val):∀ {kvs:List (List Nat×V)} {kvals:List (Str×Value)},PairsAre X n kvs kvals→(kvals.map (·.1)).Nodup→PairsAre X n (nI k v kvs) (stored kvals ⟨k.toArray⟩ val)
 | [],[],h,_=>⟨rfl,W,trivial⟩
 | (x,u)::r,(y,uval)::r',h,nd=>by
  apply bc;intro z_
  obtain ⟨rfl,hu,hr⟩:=h
  apply z_;clear z_
  simp only [List.map_cons,List.nodup_cons] at nd
  by_cases e:x=k
  ·subst e
   have e1:kl x x=true:=by rw [dG]; simp
   have e2:stored (((⟨x.toArray⟩:Str),uval)::r') ⟨x.toArray⟩ val=(⟨x.toArray⟩,val)::r':=by
    unfold stored
    rw [LV (by simp)]
    rw [List.map_cons,LV rfl,mu nd.1]
   rw [e2]
   show PairsAre X n (match kl x x with | true=>(x,v)::r | false=>(x,u)::nI x v r) _
   rw [e1]
   exact ⟨rfl,W,hr⟩
  ·have e1:kl x k=false:=by rw [dG]; simp [e]
   have ne:(⟨x.toArray⟩:Str)≠⟨k.toArray⟩:=fun h=>e (by simpa using congrArg (fun z:Str=>z.cps.toList) h)
   have e2:stored (((⟨x.toArray⟩:Str),uval)::r') ⟨k.toArray⟩ val=(⟨x.toArray⟩,uval)::stored r' ⟨k.toArray⟩ val:=by
    unfold stored
    rw [List.any_cons,List.map_cons,LU ne,Ma ne,Bool.false_or]
    split <;> rfl
   rw [e2]
   show PairsAre X n (match kl x k with | true=>(x,v)::r | false=>(x,u)::nI k v r) _
   rw [e1]
   exact ⟨rfl,hu,PairsAre.store W hr nd.2⟩
 | [],_::_,h,_=>h.elim
 | _::_,[],h,_=>h.elim
noncomputable def pI (l:Nat) (k v:V) (σ:St) (Q:St→Prop):Prop:=onS (hU l σ) fun kvs=>cE k fun x=>onT (Nat.ble kvs.length 1000) (Q (f0 l (.dict (nI x v kvs)) σ))
theorem wW {l:Nat} {k v:V} {kval val:Value} {Q:St→Prop} {Q':Unit→Shared→Prop} (h:pI l k v σ Q) (R:Rel G X env σ s) (Wk:RepV X σ.nx k kval) (W:RepV X σ.nx v val)
  (q:∀ σ' s',Q σ'→σ'.nx=σ.nx→Rel G X env σ' s'→Q' () s'):wpAny (model G.prog G.w) A (dictSet (X.ρ l) kval val) Q' bg s:=by
 apply bc;intro z_
 obtain ⟨kvs,hl,h⟩:=onS.out h
 apply z_;clear z_
 have hl:=dq hl
 refine Wk.str_ h fun x t h=>?_
 apply bc;intro z_
 obtain ⟨hz,h⟩:=onT.out h
 obtain ⟨_,kvals,hD,hP⟩:=R.st l _ hl
 apply z_;clear z_
 have hnd:(kvals.map (·.1)).Nodup:=let ⟨_,_,_,_,_,_,_,_,z⟩:=hD; z
 refine wpAny_dictSet_pairs (knd:=PySem.strKind G.prog G.w) (k:=⟨x.toArray⟩) (strKind_is _ _ _ _) hD (fun h' hD' hs=>?_) (by rw [fH hP,L6]; have:=LP hz; omega)
 exact q _ _ h rfl (R.upd (o:=.dict (nI x v kvs)) (s':={s with heap:=h',toks:=s.toks+1}) hl (fun b hb o e=>(hs.2 b hb).trans e) ⟨_,hD',hP.store W hnd⟩ rfl rfl R.gens)
theorem wy {kx vx:PySem.Expr} {pk:Pos} {l:Nat} {dk dv:DE} (hk:SE G lv sc kx dk) (hv:SE G lv sc vx dv):r4 G lv sc (fun acc env=>(match acc with
   | .ref D=>(do
      let kv ← eval kx env
      let vv ← holding [kv] (eval vx env)
      standAt pk
      holding [kv,vv] (dictSet D kv vv))
   | _=>pure ())) l (fun σ Q=>dk σ fun k σ1=>dv σ1 fun v σ2=>pI l k v σ2 Q):=fun σ Q hd A env X s ha he R hl=>by
 refine LD (hk.run hd ha he R fun kval s1 k σ1 X1 k1 L1 n1 R1 W1=>?_)
 refine LD (LG (hv.run k1 ha he R1 fun val s2 v σ2 X2 k2 L2 n2 R2 W2=>?_))
 refine LD (LH (LG ?_))
 have hρ:X2.ρ l=X.ρ l:=(L2.ρ l (Mi hl n1)).trans (L1.ρ l hl)
 rw [← hρ]
 exact wW k2 R2 (W1.mono L2 n2) W2 fun σ' s' q e R'=>⟨σ',X2,q,L1.trans L2 n1,by rw [e]; exact LN n1 n2,R'⟩
theorem rJ {kx vx target iter:PySem.Expr} {ifs:List PySem.Expr} {scope:Scope} {pos:Pos} {dt:DT} {dif:DB} {dk dv:DE} (N:Nat) (htg:tg=true→ez target=true) (ht:ST G lv sc' target dt) (hif:lS G lv sc' ifs dif) (hk:SE G lv sc' kx dk) (hv:SE G lv sc' vx dv) :
  j6 G lv sc' (.DictComp kx vx [⟨target,iter,ifs,0⟩] scope pos) tg (fun l cur=>e9 cur dt dif (fun σ Q=>dk σ fun k σ1=>dv σ1 fun v σ2=>pI l k v σ2 Q) N 0):=by
 intro A env X0 Xb X S it n0 nb l cur I σ s Q R' acc ha he T hX hN hbS hl hacc hQ hd L hn R f i
 subst hacc
 have loop:codeAny (model G.prog G.w) A (.compLoop (.DictComp kx vx [⟨target,iter,ifs,0⟩] scope pos) 0 it (.ref (Xb.ρ l)) env) R' s:=
  fB (e:=.DictComp kx vx [⟨target,iter,ifs,0⟩] scope pos) (depth:=0) (q:=iter.pos) (t:=fun acc env=>(match acc with
   | .ref D=>(do
      let kv ← eval kx env
      let vv ← holding [kv] (eval vx env)
      standAt {kx.pos with endLine:=vx.pos.endLine,endCol:=vx.pos.endCol}
      holding [kv,vv] (dictSet D kv vv))
   | _=>pure ())) ha he T htg ht hif (wy hk hv) (lI (by rfl)) (fun Q E s h=>h) (by rfl) hX hN hbS hl rfl hQ N 0 σ X s hd L hn R f i
 exact codeAny_compStart_dict loop (LF (T.self A 0 s _ ha.handled i loop) (fun _ _ z=>z) fun _ _ z=>z.elim)
theorem nu {kx vx target iter:PySem.Expr} {ifs:List PySem.Expr} {rest:List Comprehension} {scope:Scope} {pos p:Pos} {fv:List (Nat×Nat)} {di:DI} {loop:Nat→(Nat→St→Option (Option V))→DM} {i:Nat} {y:Str} {py:Pos} (ok:G.Ok) (C:CompOk sc sc' scope fv) (hi:SI G lv sc tg iter di)
  (hs:∀ env x,foldedSetIterable iter env x=pure x) (hl:j6 G lv sc' (.DictComp kx vx (⟨target,iter,ifs,0⟩::rest) scope pos) tg loop) (hy:sc.names[i]?=some (y,NameKind.local))
  (hsw:∀ env,EOk sc env→swapsWith (.DictComp kx vx (⟨target,iter,ifs,0⟩::rest) scope pos) (some (.Name y py)) p.line env=pure true) :
  SS G lv sc (.Assign [.Name y py] (.DictComp kx vx (⟨target,iter,ifs,0⟩::rest) scope pos) p) (fun σ Q=>di σ fun cur σ1=>t8 fv loop cur (.dict []) σ1 fun v σ2=>Q .next (c9 i v σ2)):=fun σ Q hd A env X s ha he R=>by
 apply bc;intro z_
 obtain ⟨cl,e0,c1,c2,c3⟩:=lb C he R
 apply z_;clear z_
 rw [exec_Assign_Name_used _ _ _ _ (hsw env he)]
 refine LD (LH (LD ?_))
 show wpAny _ _ (do let _ ← comprehension _ scope env _ newDict _ _ (some (assign (.Name y py) env))) _ _ _
 refine LD ?_
 refine wpAny_comprehension_free rfl (hs env) e0 C.kind C.locals (LF (hi σ _ hd A env X s ha he R) (fun x s1 h1=>LF h1 (fun it s2 h2=>?_) fun _ _ z=>z) fun _ _ z=>z)
 apply bc;intro z_
 obtain ⟨cur,σ1,X0,X1,S,I,k1,L0,L1,n1,R1,f1,i1,T⟩:=h2
 apply z_;clear z_
 unfold newDict
 refine wpAny_newObj_type ?_ (by size_fits)
 refine hO (o:=.dict []) (tk:=s2.toks) ok C ha he R1 f1 i1 T L1 rfl (fun X' h L hg=>⟨[],⟨_,#[],0,hg,⟨rfl,rfl,rfl⟩,rfl,fun e he=>by simp at he,.nil,List.nodup_nil⟩,trivial⟩) c1 c2 c3 fun cenv s4 Xb X4 hE R4 f4 i4 L04 hbS Lb hρ back=>?_
 refine hl A _ X0 Xb X4 S it σ1.nx (σ1.nx+1) σ1.nx cur I _ s4 _ _ _ ha hE T L04 (Mj _) hbS (LX _) (by rw [hρ]) (fun σ' X' s' q L' n' R'=>?_) k1 Lb (LR _) R4 f4 i4
 apply bc;intro z_
 obtain ⟨X5,L5,R5,W5,hm,hne,chg⟩:=back σ' X' s' L' n' R'
 obtain ⟨m,hm⟩:=hm
 apply z_;clear z_
 refine wpAny_assign_Name (gY hy he R5 W5 fun s6 R6 hk=>?_)
 refine ⟨m,ij hm (hk _ hne),fun h' hs'=>?_⟩
 refine LE (LE ?_)
 exact ⟨.next,_,X5,q,L0.trans L5 n1,LN n1 (LN (Mj _) n'),chg _ s6 h' rfl R6 hs',.next⟩
theorem nq {o i:PySem.Expr} {p:Pos} {do_ di:DE} (ok:G.Ok) (ho:SE G lv sc o do_) (hi:SE G lv sc i di) :
  ST G lv sc (.Subscript o i p) (fun v σ Q=>do_ σ fun ov σ1=>di σ1 fun iv σ2=>fW ov fun l=>pI l iv v σ2 Q):=fun v σ Q hd A env X s val ha he R W=>by
 refine kas_sub (ho.run hd ha he R fun ov s1 o1 σ1 X1 k1 L1 n1 R1 W1=>hi.run k1 ha he R1 fun iv s2 i2 σ2 X2 k2 L2 n2 R2 W2=>?_)
 refine (W1.mono L2 n2).loc_ k2 fun l k2=>?_
 apply bc;intro z_
 obtain ⟨kvs,hl,k2⟩:=onS.out k2
 apply z_;clear z_
 have hl:=dq hl
 refine W2.str_ k2 fun x t k2=>?_
 apply bc;intro z_
 obtain ⟨hz,k2⟩:=onT.out k2
 obtain ⟨_,kvals,hD,hP⟩:=R2.st l _ hl
 apply z_;clear z_
 have hnd:(kvals.map (·.1)).Nodup:=let ⟨_,_,_,_,_,_,_,_,z⟩:=hD; z
 refine wpAny_setItem_pairs (knd:=PySem.strKind G.prog G.w) (k:=⟨x.toArray⟩) (strKind_is _ _ _ _) hD (fun h' hD' hs=>?_) (by rw [fH hP,L6]; have:=LP hz; omega)
 exact ⟨_,X2,k2,L1.trans L2 n1,LN n1 n2,R2.upd (o:=.dict (nI x v kvs)) (s':={s2 with heap:=h',toks:=s2.toks+1}) hl (fun b hb o e=>(hs.2 b hb).trans e) ⟨_,hD',hP.store (W.mono (L1.trans L2 n1) (LN n1 n2)) hnd⟩ rfl rfl R2.gens⟩
noncomputable def bE (M:Model) (A:Around) (Φ:End→Shared→Prop) (c:Code) (t:Sem PySem.Fin) (fs:List Frame) (s:Shared):Prop:=
 ∀ Γ p,Γ.code=c→Γ.Woken A→∃ e s',Runs M Γ p t fs s e s'∧Φ e s'
section
variable {M:Model} {A:Around} {Φ:End→Shared→Prop} {c:Code} {fs:List Frame} {s:Shared}
theorem eS {α:Type} {m:Sem α} {K:α→Sem PySem.Fin} {H:Value→Sem PySem.Fin} {gd:Bool→Bool} {lv:List Value→List Value}
  (h:wpAny M (A.over c fs) m (fun a s'=>bE M A Φ c (K a) fs s') (fun x s'=>bE M A Φ c (H x) fs s') s):bE M A Φ c (m.wrap K H gd lv) fs s:=by
 rintro Γ p rfl hΓ
 exact runs_wrap_of_wp K H gd lv m (h (Γ.over fs) p (hΓ.over fs)) (fun a p' s' h'=>h' Γ p' rfl hΓ) (fun x p' s' h'=>h' Γ p' rfl hΓ)
theorem eW {α β:Type} {m:Sem α} {K:α→Sem β} {K':β→Sem PySem.Fin} {H':Value→Sem PySem.Fin} {gd:Bool→Bool} {lv:List Value→List Value}
  (h:wpAny M (A.over c fs) m (fun a s'=>bE M A Φ c ((K a).wrap K' H' gd lv) fs s') (fun x s'=>bE M A Φ c (H' x) fs s') s):bE M A Φ c ((m >>= K).wrap K' H' gd lv) fs s:=by
 rw [Sem.bind_eq_wrap',Sem.wrap_wrap]; exact eS h
theorem cc {α:Type} {m:Sem α} {K:α→Sem PySem.Fin}
  (h:wpAny M (A.over c fs) m (fun a s'=>bE M A Φ c (K a) fs s') (fun x s'=>bE M A Φ c (.raise x) fs s') s):bE M A Φ c (m >>= K) fs s:=by
 rw [Sem.bind_eq_wrap']; exact eS h
theorem vO {l:List Value} {k:Unit→Sem PySem.Fin} (h:bE M A Φ c (k ()) fs s):bE M A Φ c (.point l k) fs s:=
 eS (m:=point) (K:=k) (H:=.raise) (gd:=id) (lv:=fun _=>l) (wpAny_point h)
theorem qj {c':Code} {h:Option Value} {g:Bool} {l:List Value} {k:Result→Sem PySem.Fin} (hc:∀ p,bE M A Φ c' (M.den c') (.ret k h g l c p []::fs) s) :
  bE M A Φ c (.call c' h g l k) fs s:=by
 rintro Γ p rfl hΓ
 apply bc;intro z_
 obtain ⟨e,s',hr,he⟩:=hc p (Γ.goto c') p rfl (hΓ.goto c')
 apply z_;clear z_
 exact ⟨e,s',runs_call_seg hr,he⟩
theorem qk {k:Result→Sem PySem.Fin} {h:Option Value} {g:Bool} {l:List Value} {c₁:Code} {p₁:Pos} {kp:List Value} (r:Result) (hk:bE M A Φ c₁ (k r) fs s):bE M A Φ c (leafOf r) (.ret k h g l c₁ p₁ kp::fs) s:=by
 rintro Γ p rfl hΓ
 apply bc;intro z_
 obtain ⟨e,s',hr,he⟩:=hk (Γ.goto c₁) p₁ rfl (hΓ.goto c₁)
 apply z_;clear z_
 exact ⟨e,s',Runs.pop r hr,he⟩
theorem gW {c':Code} (hq:c'.quiet=true) (hc:bE M A Φ c' (M.den c') fs s):bE M A Φ c (.pure (.again c')) fs s:=by
 rintro Γ p rfl hΓ
 apply bc;intro z_
 obtain ⟨e,s',hr,he⟩:=hc (Γ.goto c') p rfl (hΓ.goto c')
 apply z_;clear z_
 exact ⟨e,s',Runs.head (c₁:=c') (fun _ _ x=>.again hq x) hr,he⟩
theorem GM (r:Result) (h:Φ (.ret r) s):bE M A Φ c (leafOf r) [] s:=by
 rintro Γ p rfl _
 exact ⟨.ret r,s,Runs.leaf r,h⟩
theorem vP {v:Value} {g:Bool} {l:List Value} {k:Resume→Sem PySem.Fin} (hfs:splitAtGen fs=none) (h:∀ p,Φ (.susp v g l k c p fs) s):bE M A Φ c (.yield v g l k) fs s:=by
 rintro Γ p rfl _
 exact ⟨_,s,Runs.yield' fs hfs,h p⟩
end
noncomputable def lR (M:Model) (A:Around) (gs:GenState) (s:Shared) (Φ:End→Shared→Prop):Prop:=match gs with
 | .fresh c=>bE M A Φ c (M.den c) [] s
 | .suspended k _ c _ fs _=>bE M A Φ c (k (.send .none)) fs s
 | _=>False
section
variable {M:Model} {A:Around} {E:Value→Shared→Prop} {s:Shared}
theorem yN {Φ:End→Shared→Prop} {g:Nat} {gs:GenState} {l:List Value} {α:Type} {k:GenResult→Sem α} {Q:α→Shared→Prop} (hg:s.gens[g]?=some gs) (hgo:lR M A gs (s.setGen g .running) Φ)
  (hq:∀ e s₁,Φ e s₁→e.quiet=true) (hQ:∀ e s₁,Φ e s₁→wpAny M A (k e.result) Q E (s₁.setGen g e.genState)):wpAny M A (.resume g (.send .none) l k) Q E s:=by
 intro Γ p hΓ
 rw [Sem.wp_resume]
 have hB:∀ c,(Γ.wake c p).Woken A:=fun c=>hΓ.wake c p
 cases gs with
 | fresh c=>
  apply bc;intro z_
  obtain ⟨e₁,s₁,hr,he⟩:=hgo (Γ.wake c p) p rfl (hB c)
  apply z_;clear z_
  exact ⟨_,_,by unfold Wakes; rw [hg]; exact ⟨e₁,s₁,hr,hq e₁ s₁ he,rfl,rfl⟩,hQ e₁ s₁ he Γ p hΓ⟩
 | suspended k₀ l₀ c₀ p₀ fs₀ cl=>
  apply bc;intro z_
  obtain ⟨e₁,s₁,hr,he⟩:=hgo (Γ.wake c₀ p) p₀ rfl (hB c₀)
  apply z_;clear z_
  exact ⟨_,_,by unfold Wakes; rw [hg]; exact ⟨e₁,s₁,hr,hq e₁ s₁ he,rfl,rfl⟩,hQ e₁ s₁ he Γ p hΓ⟩
 | running=>exact hgo.elim
 | finished=>exact hgo.elim
end
section
variable {prog:Program} {w:World} {A:Around} {E:Value→Shared→Prop} {s:Shared}
theorem uo {a:Addr} {g:Nat} {gs:GenState} {Φ:End→Shared→Prop} {Q:Option Value→Shared→Prop} (hh:A.handled=none) (hl:s.heap.NoLimit) (hroom:A.depth<recursionLimit)
  (hg:s.heap.IsGen a g) (hgs:s.gens[g]?=some gs) (hgo:lR (model prog w) A.in1 gs (s.setGen g .running) Φ) (hΦ:∀ e s₁,Φ e s₁→(e=.ret (.ok (.ret .none)))∨∃ v l k c p fs,e=.susp v false l k c p fs∧e.quiet=true)
  (hY:∀ v l k c p fs s₁,Φ (.susp v false l k c p fs) s₁→Q (some v) (s₁.setGen g (End.susp v false l k c p fs).genState))
  (hP:∀ s₁,Φ (.ret (.ok (.ret .none))) s₁→∀ h',(∀ b o,s₁.heap.get? b=some o→h'.get? b=some o)→Q none {s₁.setGen g .finished with heap:=h'}) :
  wpAny (model prog w) A (pyNext (.ref a)) Q E s:=by
 unfold pyNext
 refine LD (wpAny_attempt (wpAny_callSpecial?_slot (name:=Str.ofString "__next__") hg.typeIs slot_gen_next
  (LJ slot_gen_next hg.typeIs entry_gen_next ?_ (args_gen_next _))))
 show wpAny _ _ (Builtin.Generator.genWake (.ref a) (.send .none)) _ _ s
 unfold Builtin.Generator.genWake
 refine LD (LG (wpAny_genNumber hg (LD (wpAny_genState hgs ?_))))
 cases gs with
 | running=>exact hgo.elim
 | finished=>exact hgo.elim
 | _=>
  refine LD (wpAny_roomToWake hl hroom ?_)
  show wpAny _ _ (.resume g (.send .none) [] _) _ _ s
  refine yN hgs hgo (fun e s₁ he=>?_) (fun e s₁ he=>?_)
  ·rcases hΦ e s₁ he with rfl | ⟨v,l,k,c,p,fs,rfl,hq⟩
   ·rfl
   ·exact hq
  ·rcases hΦ e s₁ he with rfl | ⟨v,l,k,c,p,fs,rfl,hq⟩
   ·show wpAny _ _ (newExc (.type "StopIteration") [] >>= _) _ _ _
    refine LD ?_
    simp only [newExc,newTuple]
    refine LD (wpAny_newObj_type ?_ (by size_fits))
    refine LD (m:=firstArgMember _ _) (LI (a:=Value.none) (by first | rfl | (simp only [firstArgMember]; rfl)) ?_)
    refine wpAny_newObj_type ?_ (by size_fits)
    simp only [raiseNew]
    refine LD (LD (wpAny_handled ?_))
    rw [show A.in1.handled=none from hh]
    refine wpAny_throw ?_
    refine LD (wpAny_isInstance (T:="StopIteration") (b:=true) ⟨_,LT _ rfl,rfl⟩ isSubtype_stop ?_)
    exact LE (hP s₁ he _ fun b o hb=>LM _ (LM _ hb))
   ·exact LE ⟨v,rfl,LE (hY v l k c p fs s₁ he)⟩
end
theorem sV:entryFor table "proto.yield_from"=some Builtin.«proto.yield_from»:=entryFor_of_tree (by kernel_rfl)
theorem sK:typeLookup (.type "list_iterator") (Str.ofString "close")=pure none:=by rw [typeLookup_type,builtinLookup_eq_fast]; kernel_rfl
noncomputable abbrev lO (it:Addr):Code:=.builtin "proto.yield_from" ⟨[.ref it,.bool false,.none],[]⟩
section
variable {prog:Program} {w:World} {A:Around} {E:Value→Shared→Prop} {s:Shared} {Φ:End→Shared→Prop} {fs:List Frame} {it l:Addr}
theorem HU {id:String} {args:Args} {b:Builtin} (hb:entryFor table id=some b):(model prog w).den (.builtin id args)=b args:=by
 show (match entryFor table id with | some b=>b args | none=>unsupported ((withoutEnding? id "#data").getD id))=_
 rw [hb]
theorem wi:(model prog w).den (lO it)=Builtin.«proto.yield_from» ⟨[.ref it,.bool false,.none],[]⟩:=HU sV
theorem m5 {b:Bool} {Q:Unit→Shared→Prop} {i:Nat} (h:s.heap.IsListIter it l i) (q:Q () s):wpAny (model prog w) A (Builtin.Generator.sleptOver (.ref it) b) Q E s:=by
 apply bc;intro z_
 obtain ⟨o,ho,hc,hd⟩:=h
 apply z_;clear z_
 unfold Builtin.Generator.sleptOver
 refine LD (LK ho ?_)
 rw [LV (by rw [hc]; decide)]
 exact LE q
theorem qo {i:Nat} {items:Array Value} {x:Value} (hit:s.heap.IsListIter it l i) (hl:s.heap.IsList l items) (hx:items[i]?=some x)
  (h:∀ h' tk l0 k p,h'.IsListIter it l (i+1)→Heap.SameBut it s.heap h'→(∀ (Φ':End→Shared→Prop) (s'':Shared) (j:Nat),s''.heap.IsListIter it l j→bE (model prog w) A Φ' (lO it) ((model prog w).den (lO it)) fs s''→bE (model prog w) A Φ' (lO it) (k (.send .none)) fs s'') →
   Φ (.susp x false l0 k (lO it) p fs) {s with heap:=h',toks:=tk}) (hfs:splitAtGen fs=none) :
  bE (model prog w) A Φ (lO it) ((model prog w).den (lO it)) fs s:=by
 rw [wi]
 unfold Builtin.«proto.yield_from»
 dsimp only
 refine cc (LE ?_)
 refine cc (wpAny_attempt (LG ?_))
 rw [LU LZ,LV (by rfl)]
 refine LD (Mu ?_)
 apply bc;intro z_
 obtain ⟨o,ho,hc,hd⟩:=id hit
 obtain ⟨ol,hol,_,nl,hdl⟩:=hl
 apply z_;clear z_
 refine LD (wpAny_callSpecial?_slot (name:=Str.ofString "__next__") hit.typeIs slot_listiter_next
  (LJ slot_listiter_next hit.typeIs entry_listiter_next ?_ (args_listiter_next _)))
 show wpAny _ _ (field (.ref it) 0 >>= _) _ _ s
 refine LD (wpAny_field ho hd (x:=.ref l) rfl ?_)
 show wpAny _ _ (if (Value.ref l==Value.none)=true then _ else _) _ _ s
 rw [LU (show ¬ ((Value.ref l==Value.none)=true) from LZ)]
 show wpAny _ _ (field (.ref it) 1 >>= _) _ _ s
 refine LD (wpAny_field ho hd (x:=.int i 0) rfl ?_)
 show wpAny _ _ (seqItems? (.ref l) >>= _) _ _ s
 refine LD (wpAny_seqItems hol hdl ?_)
 simp only [Int.toNat_natCast,hx]
 refine LD (wpAny_setField ho hd (by simp) (LE ⟨x,rfl,LE ?_⟩))
 have hit':(s.heap.update it (Obj.mapFields (·.setIfInBounds 1 (rawInt ((i:Int)+1))))).IsListIter it l (i+1):=⟨_,Heap.get?_update_self _ ho (Obj.isFreed_of_fields (Obj.data_mapFields hd _)),(Obj.cls_mapFields ..).trans hc,by
  rw [Obj.data_mapFields hd]; simp [rawInt]⟩
 try dsimp only
 refine cc (wpAny_typeOf (T:="list_iterator") (s:={s with heap:=s.heap.update it (Obj.mapFields (·.setIfInBounds 1 (rawInt ((i:Int)+1))))}) hit'.typeIs ?_)
 try dsimp only
 refine cc (LI sK ?_)
 refine cc (LE ?_)
 refine cc (m5 hit' ?_)
 show bE _ _ _ _ (.yield x false [] _) _ _
 refine vP hfs fun p=>?_
 refine h _ _ _ _ _ hit' (Heap.SameBut.update ..) fun Φ' s'' j hj hs''=>?_
 refine cc (LE ?_)
 refine cc (m5 hj ?_)
 try dsimp only
 refine cc (LI (a:=Value.none) (by rfl) ?_)
 exact gW (Code.quiet_builtin _ (by decide +kernel)) hs''
theorem G5 {i:Nat} {items:Array Value} (hh:(A.over (lO it) fs).handled=none) (hit:s.heap.IsListIter it l i) (hl:s.heap.IsList l items) (hx:items[i]?=none)
  (h:∀ h',Heap.ExtBut it s.heap h'→bE (model prog w) A Φ (lO it) (leafOf (.ok (.ret .none))) fs {s with heap:=h'}) :
  bE (model prog w) A Φ (lO it) ((model prog w).den (lO it)) fs s:=by
 rw [wi]
 unfold Builtin.«proto.yield_from»
 dsimp only
 refine cc (LE ?_)
 refine cc (wpAny_attempt (LG ?_))
 rw [LU LZ,LV (by rfl)]
 refine LD (Mu ?_)
 apply bc;intro z_
 obtain ⟨o,ho,hc,hd⟩:=id hit
 obtain ⟨ol,hol,_,nl,hdl⟩:=hl
 apply z_;clear z_
 refine LD (wpAny_callSpecial?_slot (name:=Str.ofString "__next__") hit.typeIs slot_listiter_next
  (LJ slot_listiter_next hit.typeIs entry_listiter_next ?_ (args_listiter_next _)))
 show wpAny _ _ (field (.ref it) 0 >>= _) _ _ s
 refine LD (wpAny_field ho hd (x:=.ref l) rfl ?_)
 show wpAny _ _ (if (Value.ref l==Value.none)=true then _ else _) _ _ s
 rw [LU (show ¬ ((Value.ref l==Value.none)=true) from LZ)]
 show wpAny _ _ (field (.ref it) 1 >>= _) _ _ s
 refine LD (wpAny_field ho hd (x:=.int i 0) rfl ?_)
 show wpAny _ _ (seqItems? (.ref l) >>= _) _ _ s
 refine LD (wpAny_seqItems hol hdl ?_)
 simp only [Int.toNat_natCast,hx]
 refine LD (Mu (LD (wpAny_setField ho hd (by simp) ?_)))
 show wpAny _ _ (newExc (.type "StopIteration") [] >>= _) _ _ _
 refine LD ?_
 simp only [newExc,newTuple]
 refine LD (wpAny_newObj_type ?_ (by size_fits))
 refine LD (m:=firstArgMember _ _) (LI (a:=Value.none) (by first | rfl | (simp only [firstArgMember]; rfl)) ?_)
 refine wpAny_newObj_type ?_ (by size_fits)
 simp only [raiseNew]
 refine LD (wpAny_handled ?_)
 rw [show (A.over (lO it) fs).in1.handled=none from hh]
 refine LD (LE (wpAny_throw ?_))
 unfold Builtin.Generator.endsTheTurnAsAValue Builtin.Generator.isStopAndMetaclass
 refine cc ?_
 refine LD ?_
 refine LD ?_
 refine wpAny_typeOf (T:="StopIteration") ⟨_,LT _ rfl,rfl⟩ ?_
 refine LD (LI (a:=true) isSubtype_stop ?_)
 refine LD (LI (a:=.type "type") (by rfl) ?_)
 refine LE (LE ?_)
 rw [LV rfl,LU LZ]
 refine cc (Mu ?_)
 refine cc (wpAny_field (LT _ rfl) rfl (x:=.none) (by rfl) ?_)
 exact h _ fun b o q e=>LM _ (LM _ (by rw [Mg _ _ (Ne.symm q)]; exact e))
end
section
variable {prog:Program} {w:World} {A:Around} {s:Shared} {Φ:End→Shared→Prop} {fs:List Frame} {env:Env} {c:Code} {K:Flow→Sem PySem.Fin} {H:Value→Sem PySem.Fin} {gd:Bool→Bool} {lv:List Value→List Value}
theorem ek {st:PySem.Stmt} {rest:List PySem.Stmt} (h:bE (model prog w) A Φ c ((exec st env).wrap (fun f=>match f with | .next=>(execs rest env).wrap K H gd lv | f=>K f) H gd lv) fs s) :
  bE (model prog w) A Φ c ((execs (st::rest) env).wrap K H gd lv) fs s:=by rw [execs_cons_wrap]; exact h
theorem zD {body:List PySem.Stmt}
  (h:bE (model prog w) A Φ (.func body env) ((execs body env).wrap (fun f=>.pure (.done (.ret (match f with | .ret v=>v | _=>.none))))
   (fun e=>(leaving env e).wrap (fun _=>.raise e) .raise id id) id id) fs s) :
  bE (model prog w) A Φ (.func body env) ((model prog w).den (.func body env)) fs s:=by
 show bE _ A Φ _ (.point [] fun _=>((execs body env).onRaise (leaving env)) >>= _) fs s
 refine vO ?_
 rw [Sem.onRaise_eq_wrap,Sem.bind_eq_wrap',Sem.wrap_wrap]
 rw [Sem.wrap_congr (execs body env) _ _ (K':=fun f=>.pure (.done (.ret (match f with | .ret v=>v | _=>.none))))
  (H':=fun e=>(leaving env e).wrap (fun _=>.raise e) .raise id id) (fun f=>by cases f <;> rfl)
  (fun e=>by rw [Sem.bind_eq_wrap,Sem.wrap_wrap]; rfl)]
 exact h
noncomputable abbrev IJ (c:Code) (p:Pos) (env:Env) (K:Flow→Sem PySem.Fin) (H:Value→Sem PySem.Fin) (gd:Bool→Bool) (lv:List Value→List Value):Frame:=
 .ret (fun r=>((match r with | .ok f=>(.pure f:Sem Flow) | .error e=>.raise e).onRaise fun (x:Value)=>do
    if (← field x 1)==Value.none then unsupported "frame.own-activation:exception-without-traceback"
    setFlight x env.frame).wrap K H gd lv) none (gd false) (lv []) c p []
theorem GL {target iter:PySem.Expr} {body:List PySem.Stmt} {pos:Pos} (hs:∀ x,foldedSetIterable iter env x=pure x)
  (h:wpAny (model prog w) (A.over c fs) (eval iter env) (fun x s1=>wpAny (model prog w) (A.over c fs) (pyIter x) (fun it s2=>∀ p,bE (model prog w) A Φ (.forLoop target it body [] env) ((model prog w).den (.forLoop target it body [] env)) (IJ c p env K H gd lv::fs) s2) bg s1) bg s) :
  bE (model prog w) A Φ c ((exec (.For target iter body [] pos) env).wrap K H gd lv) fs s:=by
 rw [exec_For]
 refine eW (LH ?_)
 refine eW (LF h (fun x s1 h1=>?_) fun _ _ z=>z.elim)
 rw [hs]
 refine eW (LE ?_)
 refine eW (LH ?_)
 refine eW (LG (LF h1 (fun it s2 h2=>?_) fun _ _ z=>z.elim))
 exact qj h2
theorem jT {target:PySem.Expr} {it:Value} {body:List PySem.Stmt}
  (h:wpAny (model prog w) (A.over (.forLoop target it body [] env) fs) (pyNext it) (fun r s1=>match r with
   | none=>bE (model prog w) A Φ (.forLoop target it body [] env) (.pure (.again (.block [] env))) fs s1
   | some v=>wpAny (model prog w) (A.over (.forLoop target it body [] env) fs) (letOwnedTupleGo target it v) (fun _ s2=>wpAny (model prog w) (A.over (.forLoop target it body [] env) fs) (assign target env v) (fun _ s3=>
     ∀ H',bE (model prog w) A Φ (.forLoop target it body [] env) ((execs body env).wrap (fun f=>match f with
      | .next | .cont=>.pure (.again (.forLoop target it body [] env))
      | .brk=>.pure (.done .next)
      | .ret v=>.pure (.done (.ret v))) H' id id) fs s3) bg s2) bg s1) bg s) :
  bE (model prog w) A Φ (.forLoop target it body [] env) ((model prog w).den (.forLoop target it body [] env)) fs s:=by
 show bE _ A Φ _ ((forTurn target it body [] env).onRaise (fun x=>do noteFrame x env; theTreesLotGoes x)) fs s
 unfold forTurn
 rw [Sem.onRaise_eq_wrap]
 refine eW (LH ?_)
 refine eW (wpAny_onRaise (LF h (fun r s1 h1=>?_) fun _ _ z=>z.elim))
 cases r with
 | none=>exact h1
 | some v=>
  refine eW (LF h1 (fun _ s2 h2=>?_) fun _ _ z=>z.elim)
  refine eW (LF h2 (fun _ s3 h3=>?_) fun _ _ z=>z.elim)
  rw [Sem.bind_eq_wrap',Sem.wrap_wrap]
  refine cast (congrArg (fun t=>bE (model prog w) A Φ (.forLoop target it body [] env) t fs s3) (Sem.wrap_congr (execs body env) id id (fun f=>?_) (fun e=>rfl))) (h3 (fun e=>Sem.wrap .pure (fun e=>((do noteFrame e env; theTreesLotGoes e:Sem Unit).bind fun _=>.raise e)) id id (.raise e:Sem PySem.Fin)))
  cases f <;> rfl
end
structure Kept (ex:List Addr) (s s':Shared):Prop where
 heap:∀ b,b ∉ ex→∀ o,s.heap.get? b=some o→s'.heap.get? b=some o
 gens:s'.gens=s.gens
 os:s'.os=s.os
 drawn:s'.drawn=s.drawn
noncomputable def qz (l:List Addr) (h h':Heap):Prop:=∀ b∈l,∀ o,h.get? b=some o→h'.get? b=some o
inductive SuspAt (ex:List Addr) (s:Shared) (v:Value) (P:List Addr→Heap→GenState→Prop) (e:End) (s':Shared):Prop
 | mk (kp:Kept ex s s') (l:List Value) (k:Resume→Sem PySem.Fin) (c:Code) (p:Pos) (fs:List Frame) (ex':List Addr) (ee:e=.susp v false l k c p fs) (hq:e.quiet=true) (hex:∀ b∈ex',b∈ex∨s.heap.get? b=none) (hth:∀ b∈ex',∃ o,s'.heap.get? b=some o) (r:P ex' s'.heap e.genState)
noncomputable def gv (M:Model) (A:Around) (fp:List Addr):List Value→List Addr→Heap→GenState→Prop
 | [],ex,h,gs=>∀ s,qz (ex++fp) h s.heap→lR M A gs s (fun e s'=>e=.ret (.ok (.ret .none))∧Kept ex s s')
 | v::r,ex,h,gs=>∀ s,qz (ex++fp) h s.heap→lR M A gs s (SuspAt ex s v (gv M A fp r))
noncomputable def pp (M:Model) (A:Around) (fp:List Addr) (vs:List Value) (ex:List Addr) (s:Shared) (e:End) (s':Shared):Prop:=match vs with
 | []=>e=.ret (.ok (.ret .none))∧Kept ex s s'
 | v::r=>SuspAt ex s v (gv M A fp r) e s'
theorem eH {M:Model} {A:Around} {fp:List Addr} {vs:List Value} {ex:List Addr} {h:Heap} {gs:GenState}:gv M A fp vs ex h gs ↔ ∀ s,qz (ex++fp) h s.heap→lR M A gs s (pp M A fp vs ex s):=by
 cases vs <;> exact Iff.rfl
theorem Kept.refl {ex:List Addr} {s:Shared}:Kept ex s s:=⟨fun _ _ _ e=>e,rfl,rfl,rfl⟩
theorem Kept.step {ex:List Addr} {s0 s:Shared} {h:Heap} {t:Nat} {x:Addr} (k:Kept ex s0 s) (hx:x∈ex∨s0.heap.get? x=none) (hh:∀ b,b≠x→∀ o,s.heap.get? b=some o→h.get? b=some o):Kept ex s0 {s with heap:=h,toks:=t}:=
 ⟨fun b hb o e=>hh b (fun q=>hx.elim (fun z=>hb (q ▸ z)) (fun z=>by rw [q,z] at e; cases e)) o (k.heap b hb o e),k.gens,k.os,k.drawn⟩
theorem Kept.news {ex:List Addr} {s0 s:Shared} {h:Heap} {t:Nat} (k:Kept ex s0 s) (hh:∀ b o,s.heap.get? b=some o→h.get? b=some o):Kept ex s0 {s with heap:=h,toks:=t}:=
 ⟨fun b hb o e=>hh b o (k.heap b hb o e),k.gens,k.os,k.drawn⟩
section
variable {prog:Program} {w:World} {A:Around} {s:Shared} {fs:List Frame} {it l:Addr} {fp ex ex':List Addr}
theorem iX {h h':Heap} {i:Nat} {S:List Addr} (hs:qz S h h') (hi:it∈S) (x:h.IsListIter it l i):h'.IsListIter it l i:=x.at fun o e=>hs it hi o e
theorem pQ {h h':Heap} {S:List Addr} {items:Array Value} (hs:qz S h h') (hi:l∈S) (x:h.IsList l items):h'.IsList l items:=x.at fun o e=>hs l hi o e
theorem CH {items tail:List Value} {St:Heap→Prop} (hfs:splitAtGen fs=none) (hfg:fs.any Frame.guarded=false) (hh:(A.over (lO it) fs).handled=none)
  (hit:it∈ex') (hl:l∈fp) (hlt:l≠it)
  (hSt:∀ h h',qz (ex'++fp) h h'→St h→St h') (hSt':∀ h h',(∀ b,b≠it→∀ o,h.get? b=some o→h'.get? b=some o)→St h→St h')
  (hend:∀ s0 s1,St s1.heap→Kept ex' s0 s1→(∀ b∈ex',b≠it→∃ o,s1.heap.get? b=some o)→bE (model prog w) A (pp (model prog w) A fp tail ex' s0) (lO it) (leafOf (.ok (.ret .none))) fs s1) :
  ∀ (r:List Value) (x:Value) (i:Nat),items.drop i=x::r→∀ ex s0 s,s.heap.IsListIter it l i→s.heap.IsList l items.toArray→St s.heap→Kept ex s0 s→(∀ b∈ex',b∈ex∨s0.heap.get? b=none)→(∀ b∈ex',∃ o,s.heap.get? b=some o) →
   bE (model prog w) A (pp (model prog w) A fp (x::r++tail) ex s0) (lO it) ((model prog w).den (lO it)) fs s:=by
 intro r
 induction r with
 | nil=>
  intro x i hd ex s0 s h1 h2 h3 k hex hthere
  have hx:items[i]?=some x:=by have:=congrArg (·[0]?) hd; simpa using this
  refine qo h1 h2 (x:=x) (by simpa using hx) (fun h' tk l0 k0 p hi hs hback=>?_) hfs
  refine ⟨k.step (hex it hit) fun b q o e=>(hs.2 b q).trans e,l0,k0,lO it,p,fs,ex',rfl,by simp [End.quiet,hfg],hex,fun b hb=>?_,?_⟩
  ·by_cases q:b=it
   ·subst q; obtain ⟨o,z,_⟩:=hi; exact ⟨o,z⟩
   ·obtain ⟨o,z⟩:=hthere b hb; exact ⟨o,(hs.2 b q).trans z⟩
  ·rw [eH]
   intro s2 hsame
   refine hback _ s2 (i+1) (iX hsame (Me _ hit) hi) ?_
   have hi2:=iX hsame (Me _ hit) hi
   have hl2:=pQ hsame (Mf _ hl) (h2.at fun o e=>(hs.2 _ hlt).trans e)
   have hn:items[i+1]?=none:=by
    have:=congrArg List.length hd
    rw [List.length_drop] at this
    rw [List.getElem?_eq_none_iff]; simp at this; omega
   refine G5 hh hi2 hl2 (by simpa using hn) fun h'' hx''=>?_
   refine hend s2 {s2 with heap:=h''} (hSt' _ _ (fun b q o e=>hx'' b o q e) (hSt _ _ hsame (hSt' _ _ (fun b q o e=>(hs.2 b q).trans e) h3))) (Kept.step (t:=s2.toks) .refl (.inl hit) fun b q o e=>hx'' b o q e) fun b hb q=>?_
   apply bc;intro z_
   obtain ⟨o,z⟩:=hthere b hb
   apply z_;clear z_
   exact ⟨o,hx'' b o q (hsame b (Me _ hb) o ((hs.2 b q).trans z))⟩
 | cons y r ih=>
  intro x i hd ex s0 s h1 h2 h3 k hex hthere
  have hx:items[i]?=some x:=by have:=congrArg (·[0]?) hd; simpa using this
  refine qo h1 h2 (x:=x) (by simpa using hx) (fun h' tk l0 k0 p hi hs hback=>?_) hfs
  refine ⟨k.step (hex it hit) fun b q o e=>(hs.2 b q).trans e,l0,k0,lO it,p,fs,ex',rfl,by simp [End.quiet,hfg],hex,fun b hb=>?_,?_⟩
  ·by_cases q:b=it
   ·subst q; obtain ⟨o,z,_⟩:=hi; exact ⟨o,z⟩
   ·obtain ⟨o,z⟩:=hthere b hb; exact ⟨o,(hs.2 b q).trans z⟩
  ·show gv _ _ _ ((y::r)++tail) _ _ _
   rw [eH]
   intro s2 hsame
   refine hback _ s2 (i+1) (iX hsame (Me _ hit) hi) ?_
   refine ih y (i+1) ?_ ex' s2 s2 (iX hsame (Me _ hit) hi) (pQ hsame (Mf _ hl) (h2.at fun o e=>(hs.2 _ hlt).trans e)) (hSt _ _ hsame (hSt' _ _ (fun b q o e=>(hs.2 b q).trans e) h3)) .refl (fun b hb=>.inl hb) fun b hb=>?_
   ·have:=congrArg (List.drop 1) hd
    simpa [List.drop_drop,Nat.add_comm] using this
   ·by_cases q:b=it
    ·subst q; obtain ⟨o,z,_⟩:=hi; exact ⟨o,hsame b (Me _ hb) o z⟩
    ·obtain ⟨o,z⟩:=hthere b hb; exact ⟨o,hsame b (Me _ hb) o ((hs.2 b q).trans z)⟩
end
noncomputable abbrev pj:=Addr×List Value
noncomputable def cQ:List pj→List Value
 | []=>[]
 | p::r=>p.2++cQ r
noncomputable def fX (ins:List pj):Array Value:=(ins.map fun p=>Value.ref p.1).toArray
noncomputable def Lists (a:Addr) (ins:List pj) (h:Heap):Prop:=h.IsList a (fX ins)∧∀ p∈ins,h.IsList p.1 p.2.toArray
theorem Lists.at {a:Addr} {ins:List pj} {h h':Heap} (x:Lists a ins h) (k:∀ b,(b=a∨∃ p∈ins,b=p.1)→∀ o,h.get? b=some o→h'.get? b=some o):Lists a ins h':=
 ⟨x.1.at fun o e=>k a (.inl rfl) o e,fun p hp=>(x.2 p hp).at fun o e=>k p.1 (.inr ⟨p,hp,rfl⟩) o e⟩
structure GSt (L RI a:Addr) (ins:List pj) (j:Int) (h:Heap):Prop where
 ns:∃ m,h.Ns L m
 ri:h.IsRevIter RI a j
 lists:Lists a ins h
theorem GSt.at {L RI a:Addr} {ins:List pj} {j:Int} {h h':Heap} (x:GSt L RI a ins j h) (k:∀ b,(b=L∨b=RI∨b=a∨∃ p∈ins,b=p.1)→∀ o,h.get? b=some o→h'.get? b=some o):GSt L RI a ins j h':=by
 apply bc;intro z_
 obtain ⟨⟨m,o,es,ep,ho,r⟩,h2,h3⟩:=x
 apply z_;clear z_
 exact ⟨⟨m,o,es,ep,k L (.inl rfl) o ho,r⟩,h2.at fun o e=>k RI (.inr (.inl rfl)) o e,h3.at fun b hb o e=>k b (.inr (.inr hb)) o e⟩
section
variable {prog:Program} {w:World} {A:Around} {s:Shared} {fp:List Addr} {env:Env} {c:Code} {xn:Str} {p5 p6 p7 p8 p9 p1:Pos}
noncomputable abbrev tD (xn:Str) (p5 p6 p7 p8 p9:Pos):List PySem.Stmt:=[.If (.Name xn p5) [.Expr (.YieldFrom (.Name xn p6) p7) p8] [] p9]
theorem xe {L RI a:Addr} {ins:List pj} {p:Pos} {K:Flow→Sem PySem.Fin} (hK:K .next=.pure (.done (.ret .none))) {H:Value→Sem PySem.Fin} {lv:List Value→List Value} (hh:A.handled=none) (hL:env.locals=L) (hkf:env.scope.kind=.function) (hk:env.kindOf xn=some .local) (hdb:cS xn) (hint:interactive env=false)
  (hsw:swapsWith (.YieldFrom (.Name xn p6) p7) none p8.line env=pure false)
  (hfa:a∈fp) (hfi:∀ q∈ins,q.1∈fp) (hdis:∀ b∈fp,b≠L∧b≠RI) (hLR:L≠RI) (hsz:∀ q∈ins,q.2.length≤1000) :
  ∀ (rem:List pj) (rest:List pj),ins=rem.reverse++rest→∀ ex s0 s,GSt L RI a ins ((rem.length:Int) - 1) s.heap→Kept ex s0 s→(∀ b∈[L,RI],b∈ex∨s0.heap.get? b=none) →
   bE (model prog w) A (pp (model prog w) A fp (cQ rem) ex s0) (.forLoop (.Name xn p1) (.ref RI) (tD xn p5 p6 p7 p8 p9) [] env) ((model prog w).den (.forLoop (.Name xn p1) (.ref RI) (tD xn p5 p6 p7 p8 p9) [] env)) [IJ c p env K H id lv] s:=by
 intro rem
 induction rem with
 | nil=>
  intro rest hins ex s0 s h1 k hex
  refine jT ?_
  refine wpAny_pyNext_rev_end hh h1.ri fun h' hx=>?_
  dsimp only
  refine gW (by rfl) ?_
  show bE _ _ _ _ ((execs [] env).onRaise _ >>= _) _ _
  refine cc (wpAny_onRaise (wpAny_execs_nil ?_))
  show bE _ _ _ _ (leafOf (.ok .next)) _ _
  refine qk _ ?_
  show bE _ _ _ _ (K .next) _ _
  rw [hK]
  show bE _ _ _ _ (leafOf (.ok (.ret .none))) _ _
  exact GM _ ⟨rfl,k.step (hex RI (by simp)) fun b q o e=>hx b o q e⟩
 | cons q r ih=>
  intro rest hins ex s0 s h1 k hex
  refine jT ?_
  have hx:(fX ins)[r.length]?=some (.ref q.1):=by
   unfold fX; rw [hins]; simp
  have h1r:=h1.ri
  rw [show (((q::r).length:Nat):Int) - 1=(r.length:Int) from by simp] at h1r
  refine wpAny_pyNext_rev_item h1r h1.lists.1 hx fun h' hr hs=>?_
  dsimp only
  refine LE ?_
  apply bc;intro z_
  obtain ⟨m,hm⟩:=h1.ns
  apply z_;clear z_
  have hm':h'.Ns env.locals m:=by rw [hL]; exact ij hm (hs.2 L hLR)
  refine wpAny_assign_Name (wpAny_storeName_local hk hm' (fun h2 hn2 hs2=>?_) (by rw [hkf]; rfl))
  intro H'
  rw [hL] at hn2 hs2
  have hqi:q∈ins:=by rw [hins]; simp
  have G2:GSt L RI a ins ((r.length:Int) - 1) h2:=by
   refine ⟨⟨_,hn2⟩,hr.at fun o e=>(hs2.2 RI hLR.symm).trans e,h1.lists.at fun b hb o e=>?_⟩
   have hb':b∈fp:=by
    rcases hb with rfl | ⟨q',hq',rfl⟩
    ·exact hfa
    ·exact hfi q' hq'
   rw [hs2.2 b (hdis b hb').1,hs.2 b (hdis b hb').2]; exact e
  have k2:Kept ex s0 {s with heap:=h2,toks:=s.toks+1}:=(k.step (t:=s.toks) (h:=h') (hex RI (by simp)) (fun b q o e=>(hs.2 b q).trans e)).step (hex L (by simp)) (fun b q o e=>(hs2.2 b q).trans e)
  have hv:(fun x=>if x=xn then some (Value.ref q.1) else m x) xn=some (.ref q.1):=LV rfl
  refine ek ?_
  rw [exec_If]
  refine eW (LH ?_)
  rw [show isTrue (PySem.Expr.Name xn p5) env (eval (.Name xn p5) env)=(do let v ← eval (.Name xn p5) env; standAt p5; holding [v] (truthy v)) from rfl]
  refine eW ?_
  refine LD (wpAny_Name (wpAny_loadName_local hkf hk (by rw [hL]; exact hn2) hv ?_) hdb)
  refine LD (LH (LG ?_))
  have hzq:=hsz q hqi
  refine wpAny_truthy_list (G2.lists.2 q hqi) (by simp; omega) ?_
  cases hq2:q.2 with
  | nil=>
   rw [LU (by simp)]
   show bE _ _ _ _ (.pure (.again _)) _ _
   refine gW (by rfl) ?_
   rw [show cQ (q::r)=cQ r from by show q.2++cQ r=cQ r; rw [hq2]; rfl]
   refine ih (q::rest) (by rw [hins]; simp) ex s0 _ G2 (k2.news fun _ _ e=>e) hex
  | cons x xs=>
   rw [LV (by simp)]
   refine ek ?_
   rw [exec_Expr env _ p8 hint hsw,arm_eval_YieldFrom]
   refine eW (LH ?_)
   rw [Sem.bind_eq_wrap',Sem.bind_eq_wrap',Sem.wrap_wrap,Sem.wrap_wrap]
   refine eS (wpAny_Name (wpAny_loadName_local hkf hk (by rw [hL]; exact hn2) hv ?_) hdb)
   rw [Sem.bind_eq_wrap',Sem.wrap_wrap]
   refine eS (LH ?_)
   unfold yieldFrom
   have G3:=G2.lists.2 q hqi
   rw [Sem.bind_eq_wrap',Sem.wrap_wrap]
   refine eS (wpAny_typeOf (T:="list") G3.typeIs ?_)
   rw [LU (by decide)]
   rw [Sem.bind_eq_wrap',Sem.wrap_wrap]
   refine eS (LG (wpAny_pyIter_list G3 ?_))
   refine qj fun p'=>?_
   have hI:∀ b o,h2.get? b=some o→b≠h2.objs.size:=fun b o e w=>by rw [w,aL] at e; cases e
   apply bc;intro z_
   obtain ⟨m2,o2,_,_,ho2,_⟩:=G2.ns
   obtain ⟨oR,hoR,_⟩:=G2.ri
   obtain ⟨oq,hoq,_⟩:=id G3
   apply z_;clear z_
   have hLi:L≠h2.objs.size:=hI L _ ho2
   have hRi:RI≠h2.objs.size:=hI RI _ hoR
   have hqI:q.1≠h2.objs.size:=hI q.1 _ hoq
   have hfpI:∀ b,(b=L∨b=RI∨b=a∨∃ p∈ins,b=p.1)→b∈[L,RI,h2.objs.size]++fp:=fun b hb=>by
    rcases hb with rfl | rfl | rfl | ⟨p,hp,rfl⟩
    ·simp
    ·simp
    ·exact Mf _ hfa
    ·exact Mf _ (hfi p hp)
   rw [show cQ (q::r)=(x::xs)++cQ r from by show q.2++cQ r=_; rw [hq2]]
   refine CH (prog:=prog) (w:=w) (A:=A) (fp:=fp) (it:=h2.objs.size) (l:=q.1) (items:=q.2) (tail:=cQ r) (ex':=[L,RI,h2.objs.size])
    (St:=fun h=>GSt L RI a ins ((r.length:Int) - 1) h)
    ?_ ?_ ?_ (by simp) (hfi q hqi) hqI (fun h h3 hs x=>x.at fun b hb o e=>hs b (hfpI b hb) o e)
    (fun h h3 hs x=>x.at fun b hb o e=>hs b (fun w=>?_) o e) (fun t0 t1 g1 kk hth=>?_) xs x 0 (by simpa using hq2) ex s0 _ ?_ ?_ ?_ ?_ ?_ ?_
   ·rfl
   ·rfl
   ·exact hh
   ·rcases hb with rfl | rfl | rfl | ⟨p,hp,rfl⟩
    ·exact hLi w
    ·exact hRi w
    ·exact hI _ _ G2.lists.1.choose_spec.1 w
    ·exact hI _ _ (G2.lists.2 p hp).choose_spec.1 w
   ·refine qk _ ?_
    show bE _ _ _ _ (.pure (.again _)) _ _
    refine gW (by rfl) ?_
    refine ih (q::rest) (by rw [hins]; simp) _ _ _ g1 kk (fun b hb=>.inl ?_)
    simp only [List.mem_cons,List.not_mem_nil,or_false] at hb
    rcases hb with rfl | rfl <;> simp
   ·exact ⟨_,LT _ rfl,rfl,rfl⟩
   ·exact G3.at fun o e=>LM _ e
   ·exact G2.at fun b hb o e=>LM _ e
   ·exact k2.news fun b o e=>LM _ e
   ·intro b hb
    simp only [List.mem_cons,List.not_mem_nil,or_false] at hb
    rcases hb with rfl | rfl | rfl
    ·exact hex _ (by simp)
    ·exact hex _ (by simp)
    ·by_cases hm:h2.objs.size∈ex
     ·exact .inl hm
     ·refine .inr ?_
      cases e:s0.heap.get? h2.objs.size with
      | none=>rfl
      | some o=>exact absurd rfl (hI _ _ (k2.heap _ hm o e))
   ·intro b hb
    simp only [List.mem_cons,List.not_mem_nil,or_false] at hb
    rcases hb with rfl | rfl | rfl
    ·exact ⟨_,LM _ ho2⟩
    ·exact ⟨_,LM _ hoR⟩
    ·exact ⟨_,LT _ rfl⟩
end
section
variable {prog:Program} {w:World} {A:Around} {s:Shared} {fp:List Addr} {env:Env} {c:Code} {xn xr xs:Str} {p1 p2 p3 p4 p5 p6 p7 p8 p9 p10:Pos}
noncomputable abbrev ln (xn xr xs:Str) (p1 p2 p3 p4 p5 p6 p7 p8 p9 p10:Pos):List PySem.Stmt:=[.For (.Name xn p1) (.Call (.Name xr p2) [.Name xs p3] [] p4) (tD xn p5 p6 p7 p8 p9) [] p10]
theorem qM {L a:Addr} {ins:List pj} {m:Str→Option Value} {h:Heap} (hh:A.handled=none) (hL:env.locals=L) (hkf:env.scope.kind=.function) (hk:env.kindOf xn=some .local) (hkr:env.kindOf xr=some .local) (hks:env.kindOf xs=some .local) (hdb:cS xn) (hdr:cS xr) (hds:cS xs) (hint:interactive env=false)
  (hsw:swapsWith (.YieldFrom (.Name xn p6) p7) none p8.line env=pure false) (hset:∀ x,foldedSetIterable (.Call (.Name xr p2) [.Name xs p3] [] p4) env x=pure x)
  (hst:∀ r,starEach (PySem.Expr.Name xs p3::r) env=(false,eval (.Name xs p3) env)::starEach r env) (h1:∀ pos,(backTo pos (starEach [PySem.Expr.Name xs p3] env)).any (·.1)=false)
  (hns:h.Ns L m) (hmr:m xr=some (.type "reversed")) (hms:m xs=some (.ref a)) (hl:Lists a ins h)
  (hfa:a∈fp) (hfi:∀ q∈ins,q.1∈fp) (hfL:∀ b∈fp,b≠L) (hex:∀ b∈fp,∃ o,h.get? b=some o) (hsz:∀ q∈ins,q.2.length≤1000) :
  gv (model prog w) A fp (cQ ins.reverse) [L] h (.fresh (.func (ln xn xr xs p1 p2 p3 p4 p5 p6 p7 p8 p9 p10) env)):=by
 rw [eH]
 intro s hsame
 show bE _ _ _ _ _ _ _
 have hns':s.heap.Ns env.locals m:=by
  rw [hL]
  apply bc;intro z_
  obtain ⟨o,es,ep,ho,r⟩:=hns
  apply z_;clear z_
  exact ⟨o,es,ep,hsame L (by simp) o ho,r⟩
 have hl':Lists a ins s.heap:=hl.at fun b hb o e=>hsame b (Mf _ (by
  rcases hb with rfl | ⟨q,hq,rfl⟩
  ·exact hfa
  ·exact hfi q hq)) o e
 refine zD ?_
 refine ek ?_
 refine GL hset ?_
 refine wpAny_Call_ofName (wpAny_Name (wpAny_loadName_local hkf hkr hns' hmr ?_) hdr)
 refine bT (h1 _) (by rfl) ?_
 rw [hst []]
 show wpAny _ _ (spliced ((false,eval (.Name xs p3) env)::[])) _ _ _
 refine spliced_cons (wpAny_Name (wpAny_loadName_local hkf hks hns' hms ?_) hds)
 refine spliced_nil ?_
 refine LE ?_
 refine ⟨fun Q' k=>LE (k _ (by decide)),?_⟩
 show wpAny _ _ (call (.type "reversed") [.ref a]) _ _ _
 refine call_reversed_list hl'.1 ?_
 have hIx:(s.heap.push (revObj a (((fX ins).size:Int) - 1))).IsRevIter s.heap.objs.size a (((fX ins).size:Int) - 1):=⟨_,LT _ rfl,rfl,rfl⟩
 refine wpAny_pyIter_revIter (it:=s.heap.objs.size) (l:=a) (i:=((fX ins).size:Int) - 1) hIx fun p=>?_
 have hI:∀ b o,s.heap.get? b=some o→b≠s.heap.objs.size:=fun b o e w=>by rw [w,aL] at e; cases e
 have hLI:L≠s.heap.objs.size:=by
  apply bc;intro z_
  obtain ⟨o,es,ep,ho,r⟩:=hns'
  apply z_;clear z_
  rw [hL] at ho
  exact hI _ _ ho
 refine xe (fp:=fp) (L:=L) (RI:=s.heap.objs.size) (a:=a) (ins:=ins) (by rfl) hh hL hkf hk hdb hint hsw hfa hfi (fun b hb=>⟨hfL b hb,?_⟩) hLI hsz ins.reverse [] (by simp) [L] s _ ?_ ?_ ?_
 ·apply bc;intro z_
  obtain ⟨o,ho⟩:=hex b hb
  apply z_;clear z_
  exact hI b o (hsame b (Mf _ hb) o ho)
 ·refine ⟨⟨m,?_⟩,?_,?_⟩
  ·rw [hL] at hns'
   apply bc;intro z_
   obtain ⟨o,es,ep,ho,r⟩:=hns'
   apply z_;clear z_
   exact ⟨o,es,ep,LM _ ho,r⟩
  ·have:(fX ins).size=ins.length:=by unfold fX; simp
   rw [this] at hIx
   rw [List.length_reverse]
   rw [this]
   exact hIx
  ·exact hl'.at fun b _ o e=>LM _ e
 ·exact Kept.refl.news (t:=s.toks) fun b o e=>LM _ e
 ·intro b hb
  simp only [List.mem_cons,List.not_mem_nil,or_false] at hb
  rcases hb with rfl | rfl
  ·exact .inl (by simp)
  ·exact .inr aL
end
noncomputable def Glob.pv (G:Glob) (gn:Array GenState→Prop) (hp:Addr→Option Obj):Glob:={G with Gn:=gn,Hp:=hp}
theorem Glob.Ok.pv (ok:G.Ok) (gn:Array GenState→Prop) (hp:Addr→Option Obj):(G.pv gn hp).Ok:=
 ⟨ok.K,ok.KT,ok.nolimit,ok.T1,ok.T2,ok.T3,ok.b,ok.main,ok.boot,ok.tbmono,ok.annd,ok.anlen,ok.ws,ok.lam⟩
theorem RepO.pv {gn:Array GenState→Prop} {hp:Addr→Option Obj} {h:Heap} {a:Addr} {o:AO} (r:RepO G X n h a o):RepO (G.pv gn hp) X n h a o:=by cases o <;> exact r
theorem RepO.vp {gn:Array GenState→Prop} {hp:Addr→Option Obj} {h:Heap} {a:Addr} {o:AO} (r:RepO (G.pv gn hp) X n h a o):RepO G X n h a o:=by cases o <;> exact r
theorem LocOk.pv {gn:Array GenState→Prop} {hp:Addr→Option Obj} {st:List (Nat×AO)} {lo:List (Nat×V)} {h:Heap} (r:LocOk G X n st env lo h):LocOk (G.pv gn hp) X n st env lo h:=⟨r.ns,r.freeL,r.freeC,r.frzC,r.apart⟩
theorem LocOk.vp {gn:Array GenState→Prop} {hp:Addr→Option Obj} {st:List (Nat×AO)} {lo:List (Nat×V)} {h:Heap} (r:LocOk (G.pv gn hp) X n st env lo h):LocOk G X n st env lo h:=⟨r.ns,r.freeL,r.freeC,r.frzC,r.apart⟩
theorem Rel.priv {gn':Array GenState→Prop} {hp':Addr→Option Obj} {st':List (Nat×AO)} (R:Rel G X env σ s) (k:∀ b,G.Hp b=none→∀ o,s.heap.get? b=some o→s'.heap.get? b=some o) (ho:s'.os=s.os) (hd:s'.drawn=s.drawn) (hg:gn' s'.gens)
  (hst:∀ l o,aq l st'=some o→aq l σ.st=some o)
  (hp:∀ a o,hp' a=some o→s'.heap.get? a=some o∧((∃ o',G.Hp a=some o')∨s.heap.get? a=none∨∃ l o',aq l σ.st=some o'∧X.ρ l=a∧∀ o'',aq l st'≠some o'')) :
  Rel (G.pv gn' hp') X env {σ with st:=st'} s':=by
 apply bc;intro z_
 obtain ⟨h1,h2,h3,h4,hb,h5,h6,h7,h8,h9,h10,h11⟩:=R
 apply z_;clear z_
 have nF:∀ {a o},X.F a=some o→G.Hp a=none:=fun {a o} e=>by
  cases q:G.Hp a with
  | none=>rfl
  | some o'=>rw [(h11 a o' q).2.1] at e; cases e
 have nρ:∀ {l o},aq l σ.st=some o→G.Hp (X.ρ l)=none:=fun {l o} e=>by
  cases q:G.Hp (X.ρ l) with
  | none=>rfl
  | some o'=>exact absurd rfl ((h11 _ o' q).2.2.1 l o e)
 have nL:G.Hp env.locals=none:=by
  cases q:G.Hp env.locals with
  | none=>rfl
  | some o'=>exact absurd rfl (h11 _ o' q).2.2.2.1
 have nC:∀ {x c},env.cells.lookup x=some c→G.Hp c=none:=fun {x c} e=>by
  cases q:G.Hp c with
  | none=>rfl
  | some o'=>exact absurd rfl ((h11 _ o' q).2.2.2.2.1 x c e)
 have nT:G.Hp G.T=none:=by
  cases q:G.Hp G.T with
  | none=>rfl
  | some o'=>exact absurd rfl (h11 _ o' q).2.2.2.2.2
 refine ⟨fun a o e=>k _ (nF e) _ (h1 a o e),h2,fun l o e=>h3 l o (hst _ _ e),fun l l' o o' e e'=>h4 l l' _ _ (hst _ _ e) (hst _ _ e'),fun l o e=>hb l o (hst _ _ e),fun l o e=>⟨(h5 l o (hst _ _ e)).1,?_⟩,⟨k _ nT _ h6.1,h6.2⟩,?_,ho.trans h8,hd.trans h9,hg,fun a o e=>?_⟩
 ·apply bc;intro z_
  obtain ⟨ob,z⟩:=(h5 l o (hst _ _ e)).2.there
  apply z_;clear z_
  exact ((h5 l o (hst _ _ e)).2.go .refl (LR _) ((k _ (nρ (hst _ _ e)) _ z).trans z.symm)).pv
 ·apply bc;intro z_
  obtain ⟨oL,zL⟩:=h7.ltL
  apply z_;clear z_
  refine (h7.go (st':=st') .refl (LR _) ((k _ nL _ zL).trans zL.symm) (fun x c e=>let ⟨o,z⟩:=h7.ltC e; (k _ (nC e) _ z).trans z.symm) ⟨h7.freeL.1,fun l o e=>h7.freeL.2.1 l o (hst _ _ e)⟩ (fun w x c b=>⟨(h7.freeC w x c b).1,fun l o e=>(h7.freeC w x c b).2.1 l o (hst _ _ e)⟩)).pv
 ·apply bc;intro z_
  obtain ⟨z,hc⟩:=hp a o e
  apply z_;clear z_
  rcases hc with ⟨o',q⟩ | q | ⟨l,o',q,rfl,hne⟩
  ·apply bc;intro z_
   obtain ⟨_,a2,a3,a4,a5,a6⟩:=h11 a o' q
   apply z_;clear z_
   exact ⟨z,a2,fun l o e=>a3 l o (hst _ _ e),a4,a5,a6⟩
  ·have fr:∀ {b:Addr} {ob:Obj},s.heap.get? b=some ob→b≠a:=fun e w=>by rw [w,q] at e; cases e
   refine ⟨z,?_,fun l o e w=>?_,fun w=>?_,fun x c e w=>?_,fun w=>?_⟩
   ·cases r:X.F a with
    | none=>rfl
    | some ob=>exact absurd rfl (fr (h1 _ _ r))
   ·apply bc;intro z_
    obtain ⟨ob,r⟩:=(h5 l o (hst _ _ e)).2.there
    apply z_;clear z_
    exact fr r w
   ·apply bc;intro z_
    obtain ⟨oL,zL⟩:=h7.ltL
    apply z_;clear z_
    exact fr zL w.symm
   ·apply bc;intro z_
    obtain ⟨oc,zc⟩:=h7.ltC e
    apply z_;clear z_
    exact fr zc w
   ·exact fr h6.1 w.symm
  ·refine ⟨z,(h3 l o' q).1,fun l' o'' e2 w=>?_,fun w=>h7.freeL.2.1 l o' q w,fun x c e w=>?_,(h3 l o' q).2⟩
   ·have:=h4 l' l _ _ (hst _ _ e2) q w
    rw [this] at e2
    exact hne _ e2
   ·by_cases hf:env.frame=some env.locals
    ·exact (h7.freeC hf x c e).2.1 l o' q w.symm
    ·apply bc;intro z_
     obtain ⟨oc,zc⟩:=h7.frzC hf x c e
     apply z_;clear z_
     rw [w,(h3 l o' q).1] at zc; cases zc
theorem mq {α:Type} {k:Nat}:∀ {a b:List (Nat×α)},aq k (a++b)=match aq k a with | some v=>some v | none=>aq k b
 | [],b=>rfl
 | (m,v)::r,b=>by
  rw [List.cons_append,ax,ax]
  by_cases q:k=m
  ·rw [LV q,LV q]
  ·rw [LU q,LU q]; exact mq
set_option tactic.hygienic true in
theorem Rel.shows {gn:Array GenState→Prop} {hp:Addr→Option Obj} {KS:List (Nat×AO)} (R:Rel (G.pv gn hp) X env σ s) (hH:∀ a o,G.Hp a=some o→hp a=some o) (hg:G.Gn s.gens)
  (hK:∀ l o,aq l KS=some o→l<σ.nx∧RepO G X σ.nx s.heap (X.ρ l) o∧(∃ o',hp (X.ρ l)=some o')∧mainGlobals<X.ρ l∧G.Hp (X.ρ l)=none)
  (hi:∀ l l' o o',aq l KS=some o→aq l' KS=some o'→X.ρ l=X.ρ l'→l=l'):Rel G X env {σ with st:=KS++σ.st} s:=by
 apply bc;intro z_
 obtain ⟨h1,h2,h3,h4,hb,h5,h6,h7,h8,h9,h10,h11⟩:=R
 apply z_;clear z_
 have cs:∀ {l o},aq l (KS++σ.st)=some o→aq l KS=some o∨aq l σ.st=some o:=fun {l o} e=>by
  rw [mq] at e
  split at e
  ·cases e; rename_i w; exact .inl w
  ·exact .inr e
 have hpv:∀ {l o},aq l KS=some o→∃ o',X.F (X.ρ l)=none∧(∀ l' o'',aq l' σ.st=some o''→X.ρ l'≠X.ρ l)∧X.ρ l≠env.locals∧(∀ x c,env.cells.lookup x=some c→c≠X.ρ l)∧X.ρ l≠G.T:=fun {l o} e=>by
  apply bc;intro z_
  obtain ⟨_,_,⟨o',z⟩,_⟩:=hK l o e
  obtain ⟨_,r⟩:=h11 _ _ z
  apply z_;clear z_
  exact ⟨o',r⟩
 refine ⟨h1,h2,fun l o e=>?_,fun l l' o o' e e' w=>?_,fun l o e=>?_,fun l o e=>?_,h6,?_,h8,h9,hg,fun a o e=>?_⟩
 ·rcases cs e with e | e
  ·obtain ⟨_,a1,_,_,_,a5⟩:=hpv e; exact ⟨a1,a5⟩
  ·exact h3 l o e
 ·rcases cs e with e | e <;> rcases cs e' with e' | e'
  ·exact hi _ _ _ _ e e' w
  ·obtain ⟨_,_,a2,_⟩:=hpv e; exact absurd w.symm (a2 _ _ e')
  ·obtain ⟨_,_,a2,_⟩:=hpv e'; exact absurd w (a2 _ _ e)
  ·exact h4 _ _ _ _ e e' w
 ·rcases cs e with e | e
  ·exact (hK l o e).2.2.2.1
  ·exact hb l o e
 ·rcases cs e with e | e
  ·exact ⟨(hK l o e).1,(hK l o e).2.1⟩
  ·exact ⟨(h5 l o e).1,(h5 l o e).2.vp⟩
 ·refine (h7.go (st':=KS++σ.st) .refl (LR _) rfl (fun _ _ _=>rfl) ⟨h7.freeL.1,fun l o e=>?_⟩ (fun w x c b=>⟨(h7.freeC w x c b).1,fun l o e=>?_⟩)).vp
  ·rcases cs e with e | e
   ·obtain ⟨_,_,_,a3,_⟩:=hpv e; exact a3
   ·exact h7.freeL.2.1 l o e
  ·rcases cs e with e | e
   ·obtain ⟨_,_,_,_,a4,_⟩:=hpv e; exact (a4 x c b).symm
   ·exact (h7.freeC w x c b).2.1 l o e
 ·apply bc;intro z_
  obtain ⟨z1,z2,z3,r⟩:=h11 a o (hH a o e)
  apply z_;clear z_
  refine ⟨z1,z2,fun l o' e' w=>?_,r⟩
  rcases cs e' with e' | e'
  ·have:=(hK l o' e').2.2.2.2
   rw [w,e] at this; cases this
  ·exact z3 l o' e' w
noncomputable def oy (dt:DT) (db:DS):List V→DS
 | []=>fun σ Q=>Q .next σ
 | v::r=>fun σ Q=>dt v σ fun σ1=>db σ1 fun fl σ2=>match fl with
  | .next=>oy dt db r σ2 Q
  | .cont=>oy dt db r σ2 Q
  | .brk=>Q .next σ2
  | .ret v=>Q (.ret v) σ2
noncomputable def fc (G:Glob) (pl:List Addr) (h:Heap):Addr→Option Obj:=fun a=>if a∈pl then h.get? a else G.Hp a
noncomputable def AllBare:Array GenState→Prop:=fun gs=>∀ x∈gs,x.bare=true
theorem AllBare.set {gs:Array GenState} {g:Nat} {x:GenState} (h:AllBare gs) (hx:x.bare=true):AllBare (gs.setIfInBounds g x):=fun y hy=>by
 rcases Array.mem_or_eq_of_mem_setIfInBounds hy with h' | h'
 ·exact h y h'
 ·rw [h']; exact hx
structure GJ (G:Glob) (A:Around) (env:Env) (X0:Wd) (n0:Nat) (href:Heap) (fp:List Addr) (ag g:Nat) (rest:List V) (X:Wd) (σ:St) (s:Shared) (vals:List Value) (ex:List Addr) (gs:GenState):Prop where
 W:RepVs X σ.nx rest vals
 R:Rel (G.pv (·=s.gens) (fc G (ag::(ex++fp)) s.heap)) X env σ s
 L:X0.le n0 X
 n:n0≤σ.nx
 ig:s.heap.IsGen ag g
 hgs:s.gens[g]?=some gs
 rd:gv (model G.prog G.w) A.in1 fp vals ex s.heap gs
 there:∀ b∈ag::(ex++fp),∃ o,s.heap.get? b=some o
 agex:ag ∉ ex
 bare:AllBare s.gens
 hfp:∀ b∈fp,b ∉ ex∧∃ o,href.get? b=some o∧s.heap.get? b=some o
 ap:∀ b∈ag::(ex++fp),G.Hp b=none
theorem kq {pl:List Addr} {h:Heap} (there:∀ b∈pl,∃ o,h.get? b=some o) {b:Addr} (e:fc G pl h b=none):b ∉ pl:=fun q=>by
 unfold fc at e
 rw [LV q] at e
 obtain ⟨o,z⟩:=there b q
 rw [z] at e; cases e
set_option tactic.hygienic true in
theorem fE {pl:List Addr} {h:Heap} {b:Addr} {o:Obj} (e:fc G pl h b=some o):(b∈pl∧h.get? b=some o)∨(b ∉ pl∧G.Hp b=some o):=by
 unfold fc at e
 split at e
 ·rename_i q; exact .inl ⟨q,e⟩
 ·rename_i q; exact .inr ⟨q,e⟩
theorem gP {pl:List Addr} {h:Heap} (there:∀ b∈pl,∃ o,h.get? b=some o) {b:Addr} (q:b∈pl):∃ o,fc G pl h b=some o:=by
 unfold fc
 rw [LV q]; exact there b q
theorem fe {pl:List Addr} {h:Heap} (ap:∀ b∈pl,G.Hp b=none) {b:Addr} {o:Obj} (q:G.Hp b=some o):fc G pl h b=some o∧b ∉ pl:=by
 have:b ∉ pl:=fun w=>by rw [ap b w] at q; cases q
 unfold fc
 rw [LU this]; exact ⟨q,this⟩
theorem Iw {ag:Addr} {ex fp:List Addr} {P:Addr→Prop} (h1:P ag) (h2:∀ b∈ex,P b) (h3:∀ b∈fp,P b):∀ b∈ag::(ex++fp),P b:=List.forall_mem_cons.mpr ⟨h1,fun b hb=>(List.mem_append.mp hb).elim (h2 b) (h3 b)⟩
theorem oS {M:Model} {fp:List Addr} {vs:List Value} {ex:List Addr} {h h':Heap} {gs:GenState} (k:∀ b∈ex++fp,∀ o,h.get? b=some o→h'.get? b=some o) (r:gv M A fp vs ex h gs):gv M A fp vs ex h' gs:=by
 rw [eH] at r ⊢
 intro s hs
 exact r s fun b hb o e=>hs b hb o (k b hb o e)
theorem ip {gn gn':Array GenState→Prop} {hp hp':Addr→Option Obj} (R:Rel ((G.pv gn hp).pv gn' hp') X env σ s):Rel (G.pv gn' hp') X env σ s:=by
 obtain ⟨h1,h2,h3,h4,hb,h5,h6,h7,h8,h9,h10,h11⟩:=R
 exact ⟨h1,h2,h3,h4,hb,fun l o e=>⟨(h5 l o e).1,((h5 l o e).2.vp.vp).pv⟩,h6,h7.vp.vp.pv,h8,h9,h10,h11⟩
inductive GenEnds (G:Glob) (X0:Wd) (env:Env) (n0:Nat) (href:Heap) (fp:List Addr) (Q:Fl→St→Prop) (f:Flow) (s':Shared):Prop
 | mk (fl:Fl) (σ':St) (X':Wd) (gn:Array GenState→Prop) (hp:Addr→Option Obj) (q:Q fl σ') (L:X0.le n0 X') (hn:n0≤σ'.nx) (R:Rel (G.pv gn hp) X' env σ' s') (W:RepF X' σ'.nx fl f) (bare:AllBare s'.gens) (hfp:∀ b∈fp,∃ o,href.get? b=some o∧hp b=some o) (hG:∀ a o,G.Hp a=some o→hp a=some o)
inductive GenAt (G:Glob) (A:Around) (env:Env) (X0:Wd) (n0:Nat) (href:Heap) (fp:List Addr) (ag g:Nat) (dt:DT) (db:DS) (Q:Fl→St→Prop) (k:Nat) (s:Shared):Prop
 | mk (rest:List V) (σ:St) (X:Wd) (vals:List Value) (ex:List Addr) (gs:GenState) (e:k=rest.length) (hl:oy dt db rest σ Q) (J:GJ G A env X0 n0 href fp ag g rest X σ s vals ex gs)
theorem oz {ag g:Nat} {fp:List Addr} {href:Heap} {target:PySem.Expr} {body:List PySem.Stmt} {dt:DT} {db:DS} {R':Result→Shared→Prop} {Q:Fl→St→Prop} (ok:G.Ok)
  (ha:AOk lv A) (he:EOk sc env) (ht:∀ gn hp,ST (G.pv gn hp) lv sc target dt) (hb:∀ gn hp,iQ (G.pv gn hp) lv sc body db)
  (hQ:∀ f s',GenEnds G X0 env n0 href fp Q f s'→R' (.ok f) s') :
  ∀ (rest:List V) (σ:St) (X:Wd) (s:Shared) (vals:List Value) (ex:List Addr) (gs:GenState),oy dt db rest σ Q→GJ G A env X0 n0 href fp ag g rest X σ s vals ex gs →
   codeAny (model G.prog G.w) A (.forLoop target (.ref ag) body [] env) R' s:=by
 intro rest σ X s vals ex gs hl J
 refine codeAny_forLoop_any (GenAt G A env X0 n0 href fp ag g dt db Q) ?_ rest.length ⟨rest,σ,X,vals,ex,gs,rfl,hl,J⟩
 rintro k s ⟨rest,σ,X,vals,ex,gs,rfl,hl,J⟩
 apply bc;intro z_
 obtain ⟨W,R,L,hn,ig,hgs,rd,there,agex,bare,hfp,ap⟩:=J
 apply z_;clear z_
 have hG:∀ a o,G.Hp a=some o→s.heap.get? a=some o∧a ∉ ex:=fun a o q=>⟨(R.hp a o (fe ap q).1).1,fun w=>(fe (h:=s.heap) ap q).2 (LQ _ (Me _ w))⟩
 have hR:=(eH.mp rd) (s.setGen g .running) (fun b hb o e=>e)
 refine uo ha.handled (R.nolimit (ok.pv _ _)) (by have:=ha.depth; omega) ig hgs hR ?hPhi ?hY ?hP
 case hPhi=>
  intro e s1 h
  cases vals with
  | nil=>exact .inl h.1
  | cons v r=>
   apply bc;intro z_
   obtain ⟨_,l,k,c,p,fs,ex',rfl,hq,_⟩:=h
   apply z_;clear z_
   exact .inr ⟨v,l,k,c,p,fs,rfl,hq⟩
 case hP=>
  intro s1 h h' hk
  cases vals with
  | cons v r=>obtain ⟨_,l,k,c,p,fs,ex',e,_⟩:=h; cases e
  | nil=>
   cases W
   apply bc;intro z_
   obtain ⟨_,kp⟩:=h
   apply z_;clear z_
   refine wpAny_execs_nil (hQ _ _ ?_)
   have R2:=R.priv (s':={s1.setGen g .finished with heap:=h'}) (gn':=AllBare) (hp':=fc G fp h') (st':=σ.st)
    (fun b hb o e=>hk _ _ (kp.heap b (fun q=>kq there hb (LQ _ (Me _ q))) o e)) kp.os kp.drawn
    (by show AllBare (s1.gens.setIfInBounds g .finished); rw [kp.gens]; exact (bare.set rfl).set rfl) (fun _ _ e=>e)
    (fun a o e=>(fE e).elim (fun q=>⟨q.2,.inl (gP there (LQ _ (Mf _ q.1)))⟩) fun q=>⟨hk _ _ (kp.heap a (hG a o q.2).2 o (hG a o q.2).1),.inl ⟨_,(fe ap q.2).1⟩⟩)
   refine ⟨.next,σ,X,_,_,hl,L,hn,ip R2,.next,?_,fun b hb=>?_,fun a o q=>(fe (fun b hb=>ap b (LQ _ (Mf _ hb))) q).1⟩
   ·show AllBare (s1.gens.setIfInBounds g .finished); rw [kp.gens]; exact (bare.set rfl).set rfl
   ·apply bc;intro z_
    obtain ⟨q,o,e1,e2⟩:=hfp b hb
    apply z_;clear z_
    refine ⟨o,e1,?_⟩
    unfold fc
    rw [LV hb]
    exact hk _ _ (kp.heap b q o e2)
 case hY=>
  intro v l k0 c p fs s1 h
  cases vals with
  | nil=>cases h.1
  | cons v' r=>
   apply bc;intro z_
   obtain ⟨kp,l',k',c',p',fs',ex',e,hq,hex,hth,hrd⟩:=h
   apply z_;clear z_
   cases e
   cases W with
   | @cons va _ rs _ Wv Wr=>
   have hgn:(s1.setGen g (End.susp v false l k0 c p fs).genState).gens=s1.gens.setIfInBounds g (End.susp v false l k0 c p fs).genState:=rfl
   have b1:AllBare (s1.setGen g (End.susp v false l k0 c p fs).genState).gens:=by
    rw [hgn,kp.gens]
    exact (bare.set rfl).set (End.bare_of_quiet hq)
   have hfp':∀ b∈fp,b ∉ ex'∧∃ o,href.get? b=some o∧s1.heap.get? b=some o:=fun b hb=>by
    apply bc;intro z_
    obtain ⟨q,o,e1,e2⟩:=hfp b hb
    apply z_;clear z_
    refine ⟨fun w=>(hex b w).elim q fun z=>?_,o,e1,kp.heap b q o e2⟩
    have z:s.heap.get? b=none:=z
    rw [e2] at z; cases z
   have iga:∃ o,s.heap.get? ag=some o:=there ag (LY ..)
   have ig1:s1.heap.IsGen ag g:=by
    apply bc;intro z_
    obtain ⟨o,nm,qn,ho,r⟩:=ig
    apply z_;clear z_
    exact ⟨o,nm,qn,kp.heap ag agex o ho,r⟩
   have agex':ag ∉ ex':=fun w=>(hex ag w).elim agex fun z=>by
    apply bc;intro z_
    obtain ⟨o,e⟩:=iga
    apply z_;clear z_
    have z:s.heap.get? ag=none:=z
    rw [e] at z; cases z
   have there1:∀ b∈ag::(ex'++fp),∃ o,s1.heap.get? b=some o:=Iw (let ⟨o,_,_,ho,_⟩:=ig1; ⟨o,ho⟩) hth fun b hb=>let ⟨_,o,_,e2⟩:=hfp' b hb; ⟨o,e2⟩
   have R2:=ip (R.priv (s':=s1.setGen g (End.susp v false l k0 c p fs).genState) (gn':=(·=(s1.setGen g (End.susp v false l k0 c p fs).genState).gens)) (hp':=fc G (ag::(ex'++fp)) s1.heap) (st':=σ.st)
    (fun b hb o e=>kp.heap b (fun q=>kq there hb (LQ _ (Me _ q))) o e) kp.os kp.drawn rfl (fun _ _ e=>e)
    (fun a o e=>(fE e).elim (fun q=>⟨q.2,by
     rcases List.mem_cons.mp q.1 with rfl | w
     ·exact .inl (gP there (LY ..))
     ·rcases List.mem_append.mp w with w | w
      ·rcases hex a w with w | w
       ·exact .inl (gP there (LQ _ (Me _ w)))
       ·exact .inr (.inl w)
      ·exact .inl (gP there (LQ _ (Mf _ w)))⟩) fun q=>⟨kp.heap a (hG a o q.2).2 o (hG a o q.2).1,.inl ⟨_,(fe ap q.2).1⟩⟩))
   have ap1:∀ b∈ag::(ex'++fp),G.Hp b=none:=Iw (ap _ (LY ..)) (fun b w=>(hex b w).elim (fun w=>ap b (LQ _ (Me _ w))) fun (z:s.heap.get? b=none)=>by
     cases q:G.Hp b with
     | none=>rfl
     | some o=>rw [(hG b o q).1] at z; cases z) fun b w=>ap b (LQ _ (Mf _ w))
   apply bc;intro z_
   obtain ⟨og,nm,qn,hog,hcg,_⟩:=id ig1
   apply z_;clear z_
   dsimp only
   refine LF (mh (s:=s1.setGen g (End.susp v false l k0 c p fs).genState) (Q:=fun _ s''=>s''=s1.setGen g (End.susp v false l k0 c p fs).genState) (G:=G) hog hcg rfl rfl) (fun _ s2 e=>?_) fun _ _ z=>z.elim
   subst e
   unfold oy at hl
   refine LF (ht (·=(s1.setGen g (End.susp v false l k0 c p fs).genState).gens) (fc G (ag::(ex'++fp)) s1.heap) va σ _ hl A env X _ v ha he R2 Wv) (fun _ s2 y_=>?_) fun _ _ z=>z.elim
   apply bc;intro z_
   obtain ⟨σ2,X2,q2,L2,n2,R2'⟩:=y_
   apply z_;clear z_
   refine LF (hb (·=(s1.setGen g (End.susp v false l k0 c p fs).genState).gens) (fc G (ag::(ex'++fp)) s1.heap) σ2 _ q2 A env X2 s2 ha he R2') (fun f s3 y_=>?_) fun _ _ z=>z.elim
   apply bc;intro z_
   obtain ⟨fl,σ3,X3,q3,L3,n3,R3,W3⟩:=y_
   apply z_;clear z_
   have keep3:∀ b∈ag::(ex'++fp),∀ o,s1.heap.get? b=some o→s3.heap.get? b=some o:=fun b hb o e=>(R3.hp b o (by show fc _ _ _ _=_; unfold fc; rw [LV hb]; exact e)).1
   have L23:=L2.trans L3 n2
   have n23:=LN n2 n3
   have g3:s3.gens=s1.gens.setIfInBounds g (End.susp v false l k0 c p fs).genState:=R3.gens
   have go:oy dt db rs σ3 Q→∃ m,m<(va::rs).length∧GenAt G A env X0 n0 href fp ag g dt db Q m s3:=fun q=>by
    refine ⟨rs.length,LX _,rs,σ3,X3,r,ex',_,rfl,q,⟨Wr.mono L23 n23,?_,L.trans L23 hn,LN hn n23,?_,?_,oS (fun b hb o e=>keep3 b (LQ _ hb) o e) hrd,fun b hb=>?_,agex',?_,fun b hb=>?_,ap1⟩⟩
    ·exact ip (R3.priv (s':=s3) (st':=σ3.st) (fun _ _ _ e=>e) rfl rfl rfl (fun _ _ e=>e) fun a o e=>(fE e).elim (fun q=>⟨q.2,.inl (gP there1 q.1)⟩) fun q=>⟨(R3.hp a o (fe ap1 q.2).1).1,.inl ⟨_,(fe ap1 q.2).1⟩⟩)
    ·apply bc;intro z_
     obtain ⟨o,nm,qn,ho,r⟩:=ig1
     apply z_;clear z_
     exact ⟨o,nm,qn,keep3 _ (LY ..) o ho,r⟩
    ·rw [g3,kp.gens]
     have hlt:g<s.gens.size:=by
      rcases Nat.lt_or_ge g s.gens.size with z | z
      ·exact z
      ·rw [Array.getElem?_eq_none z] at hgs; cases hgs
     have:g<(s.setGen g .running).gens.size:=by show g<(s.gens.setIfInBounds g _).size; simpa using hlt
     simp [this]
    ·obtain ⟨o,e⟩:=there1 b hb; exact ⟨o,keep3 b hb o e⟩
    ·rw [g3]; exact b1
    ·apply bc;intro z_
     obtain ⟨q,o,e1,e2⟩:=hfp' b hb
     apply z_;clear z_
     exact ⟨q,o,e1,keep3 b (LQ _ (Mf _ hb)) o e2⟩
   have out:∀ {fl:Fl} {f:Flow},Q fl σ3→RepF X3 σ3.nx fl f→GenEnds G X0 env n0 href fp Q f s3:=fun q w=>by
    refine ⟨_,σ3,X3,_,_,q,L.trans L23 hn,LN hn n23,R3,w,?_,fun b hb=>?_,fun a o q=>(fe ap1 q).1⟩
    ·rw [g3]; exact b1
    ·apply bc;intro z_
     obtain ⟨_,o,e1,e2⟩:=hfp' b hb
     apply z_;clear z_
     refine ⟨o,e1,?_⟩
     unfold fc
     rw [LV (LQ _ (Mf _ hb))]; exact e2
   cases W3 with
   | next=>exact go q3
   | cont=>exact go q3
   | brk=>exact hQ _ _ (out q3 .next)
   | ret v val W=>exact hQ _ _ (out q3 (.ret v val W))
structure GenFn (G:Glob) (f:Addr) (fd:FuncData) (x0 xn xr xs:Str) (p1 p2 p3 p4 p5 p6 p7 p8 p9 p10:Pos):Prop where
 at_:∃ o,G.K.lookup f=some o∧o.data=.func fd
 body:fd.body=.stmts (ln xn xr xs p1 p2 p3 p4 p5 p6 p7 p8 p9 p10)
 clo:fd.closure=[]
 gl:fd.globals=mainGlobals
 bi:fd.builtins=builtinsNs
 co:fd.scope.isCoroutine=false
 gen:fd.scope.isGenerator=true
 kind:fd.scope.kind=.function
 code:∃ c oc vs t,fd.code=.ref c∧G.K.lookup c=some oc∧oc.data=.fields vs∧vs[1]?=some (.str fd.qualname t)
 k0:fd.scope.names.lookup x0=some .local
 kn:fd.scope.names.lookup xn=some .local
 kr:fd.scope.names.lookup xr=some .local
 ks:fd.scope.names.lookup xs=some .local
 dn:cS xn
 dr:cS xr
 ds:cS xs
 ne:[x0,xs,xr].Nodup
 bind:∀ h sv av,G.K.In h→Looks (model G.prog G.w) h (bindArgs fd ⟨[sv,av],[]⟩) [(x0,sv),(xs,av),(xr,.type "reversed")]
structure GenMade (G:Glob) (A:Around) (a:Addr) (s:Shared) (ag:Addr) (s':Shared) (gs:GenState) (L:Addr):Prop where
 keep:∀ b o,s.heap.get? b=some o→s'.heap.get? b=some o
 os:s'.os=s.os
 drawn:s'.drawn=s.drawn
 gens:s'.gens=s.gens.push gs
 agn:s.heap.get? ag=none
 Ln:s.heap.get? L=none
 Lag:L≠ag
 Lat:∃ o,s'.heap.get? L=some o
 ig:s'.heap.IsGen ag s.gens.size
 bare:gs.bare=true
 rd:∀ (ins:List pj) (fp:List Addr),Lists a ins s.heap→a∈fp→(∀ q∈ins,q.1∈fp)→(∀ b∈fp,∃ o,s.heap.get? b=some o)→(∀ q∈ins,q.2.length≤1000)→gv (model G.prog G.w) A.in1 fp (cQ ins.reverse) [L] s'.heap gs
theorem tH {f:Addr} {fd:FuncData} {x0 xn xr xs:Str} {p1 p2 p3 p4 p5 p6 p7 p8 p9 p10:Pos} {sv:Value} {a:Addr} (ok:G.Ok) (F:GenFn G f fd x0 xn xr xs p1 p2 p3 p4 p5 p6 p7 p8 p9 p10) (ha:AOk lv A) (R:Rel G X env σ s) (A':Around) (hA':A'.handled=none) :
  codeAny (model G.prog G.w) A (.call (.ref f) ⟨[sv,.ref a],[]⟩) (fun r s'=>∃ ag gs L,r=.ok (.ret (.ref ag))∧GenMade G A' a s ag s' gs L) s:=by
 apply bc;intro z_
 obtain ⟨⟨o,ho,hdat⟩,hbody,hclo,hgl,hbi,hco,hgen,hkd,⟨c,oc,cvs,t,hc1,hc2,hc3,hc4⟩,k0,kn,kr,ks,dn,dr,ds,ne,hb⟩:=F
 apply z_;clear z_
 have hroom:A.depth<recursionLimit:=by have:=ha.depth; omega
 refine codeAny_call_generator hroom (R.K ok _ _ ho) hdat hco hgen hbody ⟨c,oc,cvs,t,hc1,R.K ok _ _ hc2,hc3,hc4⟩ ?_
 refine (hb s.heap sv (.ref a) (R.K ok)).here ?_
 rw [hclo,hgl,hbi]
 refine wpAny_newFunctionEnv_cells hkd (fun p hp=>?_) fun env' he' s2 x=>?_
 ·simp only [List.mem_cons,List.not_mem_nil,or_false] at hp
  rcases hp with rfl | rfl | rfl
  ·exact .inl k0
  ·exact .inl ks
  ·exact .inl kr
 ·apply bc;intro z_
  obtain ⟨⟨hsame,hns,hkeep,hfresh⟩,hcell,hapart,habove⟩:=x
  apply z_;clear z_
  have hE:∀ x,env'.kindOf x=fd.scope.names.lookup x:=fun x=>by rw [he']; rfl
  have hm0:bindL env'.kindOf [(x0,sv),(xs,.ref a),(xr,.type "reversed")] (fun _=>none) xs=some (.ref a):=eu (by rw [hE]; exact ks) (by simpa using ne) (by simp)
  have hm1:bindL env'.kindOf [(x0,sv),(xs,.ref a),(xr,.type "reversed")] (fun _=>none) xr=some (.type "reversed"):=eu (by rw [hE]; exact kr) (by simpa using ne) (by simp)
  have h2L:∃ o,s2.heap.get? env'.locals=some o:=let ⟨o,_,_,ho,_⟩:=hns; ⟨o,ho⟩
  have Ln:s.heap.get? env'.locals=none:=by
   cases q:s.heap.get? env'.locals with
   | none=>rfl
   | some o=>exact absurd (L7 q) (Mc hfresh)
  refine ⟨(R.nolimit ok).keeps hkeep,_,.fresh (.func (ln xn xr xs p1 p2 p3 p4 p5 p6 p7 p8 p9 p10) env'),env'.locals,rfl,?_⟩
  apply bc;intro z_
  obtain ⟨h2,tk2,rfl⟩:=hsame
  apply z_;clear z_
  have k2:∀ b o,s.heap.get? b=some o→(h2.push {cls:=.type "generator",data:=.fields #[.int s.gens.size 0,.str fd.name tk2,.str fd.qualname (tk2+1)]}).get? b=some o:=fun b o e=>LM _ (hkeep b o e)
  refine ⟨k2,rfl,rfl,rfl,?_,Ln,?_,?_,⟨_,_,_,LT _ rfl,rfl,rfl,rfl⟩,rfl,?_⟩
  ·cases q:s.heap.get? h2.objs.size with
   | none=>rfl
   | some o=>have:=hkeep _ _ q; rw [aL] at this; cases this
  ·intro w
   apply bc;intro z_
   obtain ⟨o,e⟩:=h2L
   apply z_;clear z_
   rw [w] at e
   have:h2.get? h2.objs.size=some o:=e
   rw [aL] at this; cases this
  ·apply bc;intro z_
   obtain ⟨o,e⟩:=h2L
   apply z_;clear z_
   exact ⟨o,LM _ e⟩
  ·intro ins fp hl hfa hfi hex hsz
   refine qM (env:=env') (L:=env'.locals) (a:=a) (ins:=ins) (m:=bindL env'.kindOf [(x0,sv),(xs,.ref a),(xr,.type "reversed")] (fun _=>none)) hA' rfl (by rw [he']; exact hkd) (by rw [hE]; exact kn) (by rw [hE]; exact kr) (by rw [hE]; exact ks) dn dr ds ?_ (by rfl) (fun _=>by rfl) (fun _=>by rfl) (fun _=>by rfl) ?_ hm1 hm0 (hl.at fun b _ o e=>k2 b o e) hfa hfi (fun b hb w=>?_) (fun b hb=>?_) hsz
   ·unfold interactive
    rw [show env'.scope.kind=.function from by rw [he']; exact hkd]; rfl
   ·apply bc;intro z_
    obtain ⟨o,es,ep,ho,r⟩:=hns
    apply z_;clear z_
    exact ⟨o,es,ep,LM _ ho,r⟩
   ·apply bc;intro z_
    obtain ⟨o,e⟩:=hex b hb
    apply z_;clear z_
    rw [w,Ln] at e; cases e
   ·apply bc;intro z_
    obtain ⟨o,e⟩:=hex b hb
    apply z_;clear z_
    exact ⟨o,k2 b o e⟩
noncomputable def qG:List (Nat×AO)→List (Nat×AO)→List (Nat×AO)
 | [],st=>st
 | (l,_)::r,st=>sP l (qG r st)
theorem ia {k:Nat} {o:AO}:∀ {ks st:List (Nat×AO)},aq k (qG ks st)=some o→aq k st=some o∧aq k ks=none
 | [],st,h=>⟨h,rfl⟩
 | (l,a)::r,st,h=>by
  unfold qG at h
  rw [gR] at h
  by_cases q:k=l
  ·rw [LV q] at h; cases h
  ·rw [LU q] at h
   obtain ⟨h1,h2⟩:=ia h
   exact ⟨h1,by rw [ax,LU q]; exact h2⟩
noncomputable def CO:List V→List (Nat×AO)→(List V→List (Nat×AO)→Prop)→Prop
 | [],_,K=>K [] []
 | v::r,st,K=>fW v fun l=>onS (dw l ⟨[],st,0⟩) fun ws=>onT (Nat.ble ws.length 1000) (CO r st fun flat ks=>K (flat++ws) ((l,.list ws)::ks))
theorem qJ {a b:List pj}:cQ (a++b)=cQ a++cQ b:=by
 induction a with
 | nil=>rfl
 | cons p r ih=>show p.2++cQ (r++b)=(p.2++cQ r)++cQ b; rw [ih,List.append_assoc]
inductive InnIs (X:Wd) (n:Nat) (h:Heap) (st:List (Nat×AO)) (ovals:List Value) (K:List V→List (Nat×AO)→Prop):Prop
 | mk (flat:List V) (ks:List (Nat×AO)) (ins:List pj) (k:K flat ks) (e:ovals=ins.map (fun p:pj=>Value.ref p.1)) (h1:∀ p∈ins,h.IsList p.1 p.2.toArray∧p.2.length≤1000) (h2:RepVs X n flat (cQ ins.reverse)) (h3:∀ l o,aq l ks=some o→aq l st=some o)
  (h4:∀ p∈ins,∃ l o,aq l ks=some o∧X.ρ l=p.1) (h5:∀ l o,aq l ks=some o→∃ p∈ins,X.ρ l=p.1)
theorem xg {h:Heap} {st:List (Nat×AO)} (hst:∀ l o,aq l st=some o→RepO G X n h (X.ρ l) o) {lv:List V}:∀ {ovals:List Value} {K:List V→List (Nat×AO)→Prop},CO lv st K→RepVs X n lv ovals→InnIs X n h st ovals K:=by
 induction lv with
 | nil=>intro ovals K hd W; cases W; exact ⟨[],[],[],hd,rfl,(fun _ h=>nomatch h),.nil,(fun _ _ h=>nomatch h),(fun _ h=>nomatch h),(fun _ _ h=>nomatch h)⟩
 | cons v r ih=>
  intro ovals K hd W
  cases W with
  | @cons _ val _ vals' W1 W2=>
  cases v with
  | loc l=>
   apply bc;intro z_
   obtain ⟨ws,hl,hd⟩:=onS.out hd
   have hl:aq l st=some (.list ws):=bG hl
   obtain ⟨hz,hd⟩:=onT.out hd
   obtain ⟨flat,ks,ins,k,rfl,h1,h2,h3,h4,h5⟩:=ih hd W2
   cases (W1.inv:val=.ref (X.ρ l))
   obtain ⟨o,vals,g1,g2,g3⟩:=hst l _ hl
   apply z_;clear z_
   refine ⟨_,_,(X.ρ l,vals)::ins,k,rfl,List.forall_mem_cons.mpr ⟨⟨g2.isList g1,by rw [g3.length]; exact LP hz⟩,h1⟩,?_,fun k o e=>?_,List.forall_mem_cons.mpr ⟨⟨l,_,by rw [ax,LV rfl],rfl⟩,fun p hp=>?_⟩,fun k o e=>?_⟩
   ·rw [List.reverse_cons,qJ]
    exact h2.append (by show RepVs X n ws (vals++[]); rw [List.append_nil]; exact g3)
   ·rw [ax] at e
    by_cases q:k=l
    ·rw [LV q] at e; cases e; rw [q]; exact hl
    ·rw [LU q] at e; exact h3 k o e
   ·apply bc;intro z_
    obtain ⟨k,o,e1,e2⟩:=h4 p hp
    apply z_;clear z_
    by_cases q:k=l
    ·exact ⟨l,_,by rw [ax,LV rfl],q ▸ e2⟩
    ·exact ⟨k,o,by rw [ax,LU q]; exact e1,e2⟩
   ·rw [ax] at e
    by_cases q:k=l
    ·exact ⟨_,LY ..,by rw [q]⟩
    ·rw [LU q] at e
     apply bc;intro z_
     obtain ⟨p,hp,z⟩:=h5 k o e
     apply z_;clear z_
     exact ⟨p,LQ _ hp,z⟩
  | _=>exact hd.elim
noncomputable def Kh (dt:DT) (db:DS) (v:V) (σ:St) (Q:Fl→St→Prop):Prop:=fW v fun l=>onS (dw l σ) fun lv=>CO lv σ.st fun flat ks=>oy dt db flat {σ with st:=qG ((l,.list lv)::ks) σ.st} fun fl σ3=>Q fl {σ3 with st:=((l,.list lv)::ks)++σ3.st}
theorem Ab {target arg o:PySem.Expr} {name:Str} {ap cp p:Pos} {body:List PySem.Stmt} {do_ da:DE} {dt:DT} {db:DS} {C0 j:Nat} {f:Addr} {fd:FuncData} {x0 xn xr xs:Str} {p1 p2 p3 p4 p5 p6 p7 p8 p9 p10:Pos}
  (ok:G.Ok) (hGn:G.Gn=AllBare) (hC:ClsOk G.K C0) (hj:G.an[j]?=some name) (hf:findIn G.K (.ref C0) name=some (some (.ref f))) (hty:typeIn G.K (.ref f)=some (.type "function")) (F:GenFn G f fd x0 xn xr xs p1 p2 p3 p4 p5 p6 p7 p8 p9 p10)
  (ho:SE G lv sc o do_) (hA:SE G lv sc arg da) (hb:∀ env,attributeBase o name env (eval o env)=eval o env) (hl:(ap.endLine==cp.line)=true)
  (hfew:∀ env pos,methodCallForm 1 (backTo pos (starEach [arg] env)) (backToKw pos (keywordEach [] env))=true) (h1:∀ env pos,(backTo pos (starEach [arg] env)).any (·.1)=false) (hst:∀ env r,starEach (arg::r) env=(false,eval arg env)::starEach r env)
  (hs:∀ env x,foldedSetIterable (.Call (.Attribute o name ap) [arg] [] cp) env x=pure x)
  (ht:∀ gn hp,ST (G.pv gn hp) lv sc target dt) (hB:∀ gn hp,iQ (G.pv gn hp) lv sc body db) :
  SS G lv sc (.For target (.Call (.Attribute o name ap) [arg] [] cp) body [] p) (fun σ Q=>do_ σ fun ov σ1=>mD C0 ov σ1 fun _ at_=>noS (aq j at_) (da σ1 fun v σ2=>Kh dt db v σ2 Q)):=fun σ Q hd A env X s ha he R=>by
 refine wpAny_For ?_ (hs env)
 rw [arm_eval_Call,hb]
 refine LD (ho.run hd ha he R fun ov s0 v σ0 X0 k0 L0 n0 R0 W0=>LD (LH ?_))
 apply bc;intro z_
 obtain ⟨l0,a0,at_,od,m,rfl,hl0,rfl,hF,hk,I,g1,g2,g3,ho',hlk,k1⟩:=fF k0 R0 W0
 apply z_;clear z_
 obtain ⟨q,k1⟩:=noS.out k1
 ·have hsh:=g3 j name hj
  rw [q] at hsh
  have hpos:methodCallPos true o env ap cp=pure cp:=by unfold methodCallPos; simp [hl]
  unfold methodCall
  rw [show [arg].length+([]:List Keyword).length=1 from rfl,hfew]
  refine LD (LG (method_fn (R0.K ok) I hC.hga hC.hk hf hty (by unfold shadowIn; have:=hsh; dsimp only at this ⊢; rw [hlk,this]; rfl) ?_))
  refine LD (LI hpos ?_)
  refine bT (h1 env _) (by rfl) ?_
  rw [hst]
  show wpAny _ _ (spliced ((false,eval arg env)::[])) _ _ _
  refine spliced_cons (hA.run k1 ha he R0 fun va s1 v σ1 X1 q1 L1 n1 R1 W1=>?_)
  refine spliced_nil (LE ?_)
  refine ⟨fun Q' k=>?_,?_⟩
  ·apply bc;intro z_
   obtain ⟨⟨o,ho,hdat⟩,_⟩:=F
   apply z_;clear z_
   unfold keeperOf
   refine LD (LK (R1.K ok _ _ ho) ?_)
   rw [hdat]
   exact LE (k .frame (by decide))
  ·refine W1.loc_ q1 fun l q1=>?_
   apply bc;intro z_
   obtain ⟨lvs,hlk2,q1⟩:=onS.out q1
   apply z_;clear z_
   have hlk2:=bG hlk2
   ·apply bc;intro z_
    obtain ⟨hln,oo,ovals,ho1,ho2,ho3⟩:=R1.st l _ hlk2
    obtain ⟨flat,ks,ins,kk,e,hi1,hi2,hi3,hi4,hi5⟩:=xg (h:=s1.heap) (X:=X1) (n:=σ1.nx) (fun l o e=>(R1.st l o e).2) q1 ho3
    apply z_;clear z_
    refine wpAny_call (codeAny_mono (tH (sv:=.ref a0) (a:=X1.ρ l) ok F ha R1 A ha.handled) fun r s2 y_=>?_)
    apply bc;intro z_
    obtain ⟨ag,gs,L,er,M⟩:=y_
    apply z_;clear z_
    subst er
    refine wpAny_pyIter_gen M.ig ?_
    have hLs:Lists (X1.ρ l) ins s1.heap:=⟨by
     have:=ho2.isList ho1
     rw [e] at this; exact this,fun p hp=>(hi1 p hp).1⟩
    have hfpx:∀ b∈X1.ρ l::ins.map (·.1),∃ k o,aq k ((l,AO.list lvs)::ks)=some o∧aq k σ1.st=some o∧X1.ρ k=b:=fun b hb=>by
     rcases List.mem_cons.mp hb with rfl | hb
     ·exact ⟨l,_,by rw [ax,LV rfl],hlk2,rfl⟩
     ·apply bc;intro z_
      obtain ⟨p,hp,rfl⟩:=List.mem_map.mp hb
      obtain ⟨k,o,e1,e2⟩:=hi4 p hp
      apply z_;clear z_
      by_cases z:k=l
      ·exact ⟨l,_,by rw [ax,LV rfl],hlk2,z ▸ e2⟩
      ·exact ⟨k,o,by rw [ax,LU z]; exact e1,hi3 k o e1,e2⟩
    have hKS:∀ k o,aq k ((l,AO.list lvs)::ks)=some o→aq k σ1.st=some o∧X1.ρ k∈X1.ρ l::ins.map (·.1):=fun k o e=>by
     rw [ax] at e
     by_cases z:k=l
     ·rw [LV z] at e; cases e; subst z; exact ⟨hlk2,LY ..⟩
     ·rw [LU z] at e
      apply bc;intro z_
      obtain ⟨p,hp,w⟩:=hi5 k o e
      apply z_;clear z_
      exact ⟨hi3 k o e,LQ _ (List.mem_map.mpr ⟨p,hp,w.symm⟩)⟩
    have hfpe:∀ b∈X1.ρ l::ins.map (·.1),∃ o,s1.heap.get? b=some o:=fun b hb=>by
     apply bc;intro z_
     obtain ⟨k,o,_,e2,rfl⟩:=hfpx b hb
     apply z_;clear z_
     exact R1.there e2
    have there:∀ b∈ag::([L]++(X1.ρ l::ins.map (·.1))),∃ o,s2.heap.get? b=some o:=fun b hb=>by
     rcases List.mem_cons.mp hb with rfl | hb
     ·obtain ⟨o,_,_,ho,_⟩:=M.ig; exact ⟨o,ho⟩
     ·rcases List.mem_append.mp hb with hb | hb
      ·simp only [List.mem_cons,List.not_mem_nil,or_false] at hb
       subst hb; exact M.Lat
      ·obtain ⟨o,z⟩:=hfpe b hb; exact ⟨o,M.keep _ _ z⟩
    have nρ:∀ {k o},aq k σ1.st=some o→G.Hp (X1.ρ k)=none:=fun {k o} e=>by
     cases q:G.Hp (X1.ρ k) with
     | none=>rfl
     | some o'=>exact absurd rfl ((R1.hp _ o' q).2.2.1 k o e)
    have nN:∀ {b:Addr},s1.heap.get? b=none→G.Hp b=none:=fun {b} e=>by
     cases q:G.Hp b with
     | none=>rfl
     | some o'=>rw [(R1.hp _ o' q).1] at e; cases e
    have bare1:AllBare s1.gens:=by have:=R1.gens; rw [hGn] at this; exact this
    have bare2:AllBare s2.gens:=by
     rw [M.gens]
     intro x hx
     rcases Array.mem_push.mp hx with hx | hx
     ·exact bare1 x hx
     ·rw [hx]; exact M.bare
    refine oz (A:=A) (G:=G) (X0:=X1) (n0:=σ1.nx) (ag:=ag) (g:=s1.gens.size) (fp:=X1.ρ l::ins.map (·.1)) (href:=s1.heap) ok ha he ht hB (Q:=fun fl σ3=>Q fl {σ3 with st:=((l,.list lvs)::ks)++σ3.st}) (fun f s3 hE=>?_) flat {σ1 with st:=qG ((l,.list lvs)::ks) σ1.st} X1 s2 (cQ ins.reverse) [L] gs kk ?_
    ·apply bc;intro z_
     obtain ⟨fl,σ3,X3,gn,hp,q3,L3,n3,R3,W3,b3,f3,hh3⟩:=hE
     apply z_;clear z_
     refine ⟨fl,_,X3,q3,(L0.trans L1 n0).trans L3 (LN n0 n1),LN (LN n0 n1) n3,R3.shows hh3 (by rw [hGn]; exact b3) (fun k o e=>?_) (fun k k' o o' e e' w=>?_),W3⟩
     ·apply bc;intro z_
      obtain ⟨z1,z2⟩:=hKS k o e
      obtain ⟨z3,z4⟩:=R1.st k o z1
      have hρ:X3.ρ k=X1.ρ k:=L3.ρ k z3
      obtain ⟨ob,y1,y2⟩:=f3 _ z2
      apply z_;clear z_
      rw [hρ]
      exact ⟨Mi z3 n3,z4.go L3 n3 (((R3.hp _ ob y2).1).trans y1.symm),⟨ob,y2⟩,R1.big k o z1,nρ z1⟩
     ·apply bc;intro z_
      obtain ⟨z1,_⟩:=hKS k o e
      obtain ⟨z1',_⟩:=hKS k' o' e'
      apply z_;clear z_
      rw [L3.ρ k (R1.st k o z1).1,L3.ρ k' (R1.st k' o' z1').1] at w
      exact R1.inj _ _ _ _ z1 z1' w
    ·refine ⟨hi2,?_,.refl,LR _,M.ig,?_,M.rd ins _ hLs (LY ..) (fun p hp=>LQ _ (List.mem_map.mpr ⟨p,hp,rfl⟩)) hfpe (fun p hp=>(hi1 p hp).2),there,?_,bare2,fun b hb=>?_,fun b hb=>?_⟩
     ·refine R1.priv (st':=qG ((l,.list lvs)::ks) σ1.st) (fun b _ o e=>M.keep b o e) M.os M.drawn rfl (fun k o e=>(ia e).1) fun b o e=>(fE e).elim (fun q=>⟨q.2,?_⟩) fun q=>⟨M.keep _ _ (R1.hp b o q.2).1,.inl ⟨_,q.2⟩⟩
      rcases List.mem_cons.mp q.1 with rfl | hb
      ·exact .inr (.inl M.agn)
      ·rcases List.mem_append.mp hb with hb | hb
       ·simp only [List.mem_cons,List.not_mem_nil,or_false] at hb
        subst hb; exact .inr (.inl M.Ln)
       ·apply bc;intro z_
        obtain ⟨k,o,e1,e2,rfl⟩:=hfpx b hb
        apply z_;clear z_
        refine .inr (.inr ⟨k,o,e2,rfl,fun o'' e3=>?_⟩)
        have:=(ia e3).2
        rw [e1] at this; cases this
     ·rw [M.gens]; simp
     ·intro w
      simp only [List.mem_cons,List.not_mem_nil,or_false] at w
      exact M.Lag w.symm
     ·apply bc;intro z_
      obtain ⟨o,z⟩:=hfpe b hb
      apply z_;clear z_
      refine ⟨fun w=>?_,o,z,M.keep _ _ z⟩
      simp only [List.mem_cons,List.not_mem_nil,or_false] at w
      rw [w,M.Ln] at z; cases z
     ·rcases List.mem_cons.mp hb with rfl | hb
      ·exact nN M.agn
      ·rcases List.mem_append.mp hb with hb | hb
       ·simp only [List.mem_cons,List.not_mem_nil,or_false] at hb
        subst hb; exact nN M.Ln
       ·apply bc;intro z_
        obtain ⟨k,o,e1,e2,rfl⟩:=hfpx b hb
        apply z_;clear z_
        exact nρ e2
open Classical in
set_option tactic.hygienic true in
theorem FN.mono {f:Addr} {ks:List Str} {D D':List V→List V→DE} (h:FN G lv f ks D) (m:∀ vs kvs σ Q,D' vs kvs σ Q→D vs kvs σ Q):FN G lv f ks D':=
 ⟨h.1,fun vs kvs σ Q hd=>h.2 vs kvs σ Q (m vs kvs σ Q hd)⟩
set_option tactic.hygienic true in
noncomputable abbrev Mp:=List (Nat×Nat)
noncomputable def Ax (n0:Nat) (mp:Mp):Nat:=@List.rec (Nat×Nat) (fun _=>Nat) n0 (fun p _ _=>Nat.succ p.2) mp
noncomputable def j2 (n0 l:Nat) (mp:Mp):Mp:=@Bool.rec (fun _=>Mp) (@Option.rec Nat (fun _=>Mp) ((l,Ax n0 mp)::mp) (fun _=>mp) (aq l mp)) mp (Nat.ble (Nat.succ l) n0)
noncomputable def eN (n0:Nat) (mp:Mp) (l:Nat):Option Nat:=@Bool.rec (fun _=>Option Nat) (aq l mp) (some l) (Nat.ble (Nat.succ l) n0)
noncomputable def xo (n0:Nat) (v:V):Mp→Mp:=@V.rec (fun _=>Mp→Mp) (fun _=>Mp→Mp) id (fun _=>id) (fun _=>id) (fun _=>id) (fun _=>id) (fun _=>id) (fun _=>id) (fun l=>j2 n0 l) (fun _ l=>j2 n0 l) (fun _ ih=>ih) (fun _ ih=>ih) (fun l=>j2 n0 l) (fun _ _ l=>j2 n0 l) id (fun _ _ ih=>ih) id (fun _ _ a b mp=>b (a mp)) v
noncomputable def Av (n0:Nat) (vs:List V):Mp→Mp:=@List.rec V (fun _=>Mp→Mp) id (fun v _ b mp=>b (xo n0 v mp)) vs
noncomputable def xm {α:Type} (n0:Nat) (vs:List (α×V)):Mp→Mp:=@List.rec (α×V) (fun _=>Mp→Mp) id (fun v _ b mp=>b (xo n0 v.2 mp)) vs
noncomputable def CT (n0:Nat) (o:AO):Mp→Mp:=@AO.rec (fun _=>Mp→Mp) (fun vs=>Av n0 vs) (fun at_=>xm n0 at_) (fun kvs=>xm n0 kvs) (fun _=>id) id (fun _=>id) (fun _=>id) id o
noncomputable def CU (n0:Nat) (st:List (Nat×AO)):Mp→Mp:=@List.rec (Nat×AO) (fun _=>Mp→Mp) id (fun p _ b mp=>b (@Bool.rec (fun _=>Mp) mp (CT n0 p.2 mp) (Nat.ble (Nat.succ p.1) n0))) st
noncomputable def oT (f:Nat→Option Nat) (v:V):V:=@V.rec (fun _=>V) (fun _=>List V) .non .boo .int .str .byt .ty .gl (fun l=>@Option.rec Nat (fun _=>V) .junk .loc (f l)) (fun C l=>@Option.rec Nat (fun _=>V) .junk (.obj C) (f l)) (fun _ ih=>.tup ih) (fun _ ih=>.fro ih)
 (fun l=>@Option.rec Nat (fun _=>V) .junk .bm (f l)) (fun fn C l=>@Option.rec Nat (fun _=>V) .junk (.pm fn C) (f l)) .junk (fun C _ ih=>.fob C ih) [] (fun _ _ a b=>a::b) v
noncomputable def mQ (f:Nat→Option Nat) (vs:List V):List V:=@List.rec V (fun _=>List V) [] (fun v _ b=>oT f v::b) vs
theorem fJ {f:Nat→Option Nat}:∀ {vs:List V},@V.rec_1 (fun _=>V) (fun _=>List V) .non .boo .int .str .byt .ty .gl (fun l=>@Option.rec Nat (fun _=>V) .junk .loc (f l)) (fun C l=>@Option.rec Nat (fun _=>V) .junk (.obj C) (f l)) (fun _ ih=>.tup ih) (fun _ ih=>.fro ih)
 (fun l=>@Option.rec Nat (fun _=>V) .junk .bm (f l)) (fun fn C l=>@Option.rec Nat (fun _=>V) .junk (.pm fn C) (f l)) .junk (fun C _ ih=>.fob C ih) [] (fun _ _ a b=>a::b) vs=mQ f vs
 | []=>rfl
 | v::r=>congrArg (fun b=>oT f v::b) (fJ (vs:=r))
noncomputable def mP {α:Type} (f:Nat→Option Nat) (vs:List (α×V)):List (α×V):=@List.rec (α×V) (fun _=>List (α×V)) [] (fun p _ b=>(p.1,oT f p.2)::b) vs
noncomputable def q9 (f:Nat→Option Nat) (o:AO):AO:=@AO.rec (fun _=>AO) (fun vs=>.list (mQ f vs)) (fun at_=>.ns (mP f at_)) (fun kvs=>.dict (mP f kvs)) .set .cold .set1 .wds .own o
noncomputable def qO (k:Nat) (o:AO) (l:List (Nat×AO)):List (Nat×AO):=@List.rec (Nat×AO) (fun _=>List (Nat×AO)) [(k,o)] (fun p r ih=>@Prod.rec Nat AO (fun _=>List (Nat×AO)) (fun j q=>@Bool.rec (fun _=>List (Nat×AO)) ((j,q)::ih) ((k,o)::(j,q)::r) (Nat.ble k j)) p) l
theorem kC {k m:Nat} {o:AO}:∀ {l:List (Nat×AO)},aq m (qO k o l)=if m=k then some o else aq m l
 | []=>ax
 | (j,q)::r=>by
  show aq m (@Bool.rec (fun _=>List (Nat×AO)) ((j,q)::qO k o r) ((k,o)::(j,q)::r) (Nat.ble k j))=_
  cases e:Nat.ble k j with
  | true=>exact ax
  | false=>
   show aq m ((j,q)::qO k o r)=_
   rw [ax,ax,kC]
   by_cases h:m=k
   ·subst h
    rw [LV rfl,LV rfl,LU]
    intro w; subst w; rw [L9 (LR _)] at e; cases e
   ·rw [LU h,LU h]
noncomputable def vy (f:Nat→Option Nat) (st:List (Nat×AO)):List (Nat×AO):=@List.rec (Nat×AO) (fun _=>List (Nat×AO)) [] (fun p _ b=>@Option.rec Nat (fun _=>List (Nat×AO)) b (fun k=>qO k (q9 f p.2) b) (f p.1)) st
noncomputable def tE (n0:Nat) (σ:St):Mp:=CU n0 σ.st (xm n0 σ.lo [])
noncomputable def CF (n0:Nat) (σ:St) (mp:Mp):St:=⟨mP (eN n0 mp) σ.lo,vy (eN n0 mp) σ.st,Ax n0 mp⟩
noncomputable def JS (n0:Nat) (σ:St):St:=CF n0 σ (tE n0 σ)
inductive MpOk (n0:Nat):Mp→Prop
 | nil:MpOk n0 []
 | cons {l:Nat} {r:Mp} (h:MpOk n0 r) (hl:n0≤l) (hn:aq l r=none):MpOk n0 ((l,Ax n0 r)::r)
theorem MpOk.ins {mp:Mp} (h:MpOk n0 mp) (l:Nat):MpOk n0 (j2 n0 l mp):=by
 unfold j2
 cases q:Nat.ble (Nat.succ l) n0 with
 | true=>exact h
 | false=>
  show MpOk n0 (@Option.rec Nat (fun _=>Mp) _ _ (aq l mp))
  cases r:aq l mp with
  | some _=>exact h
  | none=>
   refine .cons h ?_ r
   rcases Nat.lt_or_ge l n0 with z | z
   ·have:=L9 (Nat.succ_le_of_lt z); rw [this] at q; cases q
   ·exact z
noncomputable abbrev jc (n0:Nat) (f:Mp→Mp):Prop:=∀ mp,MpOk n0 mp→MpOk n0 (f mp)
theorem pU (v:V):jc n0 (xo n0 v):=@V.rec (fun v=>jc n0 (xo n0 v)) (fun vs=>jc n0 (@V.rec_1 (fun _=>Mp→Mp) (fun _=>Mp→Mp) id (fun _=>id) (fun _=>id) (fun _=>id) (fun _=>id) (fun _=>id) (fun _=>id) (fun l=>j2 n0 l) (fun _ l=>j2 n0 l) (fun _ ih=>ih) (fun _ ih=>ih) (fun l=>j2 n0 l) (fun _ _ l=>j2 n0 l) id (fun _ _ ih=>ih) id (fun _ _ a b mp=>b (a mp)) vs))
 (fun _ h=>h) (fun _ _ h=>h) (fun _ _ h=>h) (fun _ _ h=>h) (fun _ _ h=>h) (fun _ _ h=>h) (fun _ _ h=>h) (fun l _ h=>h.ins l) (fun _ l _ h=>h.ins l) (fun _ ih=>ih) (fun _ ih=>ih) (fun l _ h=>h.ins l) (fun _ _ l _ h=>h.ins l) (fun _ h=>h) (fun _ _ ih=>ih) (fun _ h=>h) (fun _ _ a b mp h=>b _ (a _ h)) v
theorem mn:∀ (vs:List V),jc n0 (Av n0 vs)
 | [],_,h=>h
 | v::r,_,h=>mn r _ (pU v _ h)
theorem iV {α:Type}:∀ (vs:List (α×V)),jc n0 (xm n0 vs)
 | [],_,h=>h
 | v::r,_,h=>iV r _ (pU v.2 _ h)
theorem xj (o:AO):jc n0 (CT n0 o):=by
 cases o with
 | list vs=>exact mn vs
 | ns at_=>exact iV at_
 | dict kvs=>exact iV kvs
 | set _=>exact fun _ h=>h
 | cold=>exact fun _ h=>h
 | set1 _=>exact fun _ h=>h
 | wds _=>exact fun _ h=>h
 | own=>exact fun _ h=>h
theorem lr:∀ (st:List (Nat×AO)),jc n0 (CU n0 st)
 | [],_,h=>h
 | p::r,mp,h=>by
  show MpOk n0 (CU n0 r (@Bool.rec (fun _=>Mp) mp (CT n0 p.2 mp) (Nat.ble (Nat.succ p.1) n0)))
  cases Nat.ble (Nat.succ p.1) n0 with
  | true=>exact lr r _ (xj p.2 _ h)
  | false=>exact lr r _ h
theorem xd:MpOk n0 (tE n0 σ):=lr _ _ (iV _ _ .nil)
theorem MpOk.ge {mp:Mp} (h:MpOk n0 mp):n0≤Ax n0 mp:=by
 induction h with
 | nil=>exact LR _
 | cons h _ _ ih=>exact Nat.le_succ_of_le ih
set_option tactic.hygienic true in
theorem MpOk.out {mp:Mp} (h:MpOk n0 mp):∀ {l k:Nat},aq l mp=some k→n0≤l∧n0≤k∧k<Ax n0 mp:=by
 induction h with
 | nil=>intro l k e; cases e
 | cons h hl hn ih=>
  intro l k e
  rw [ax] at e
  split at e
  ·rename_i q; cases e; subst q; exact ⟨hl,h.ge,LX _⟩
  ·obtain ⟨a,b,c⟩:=ih e
   exact ⟨a,b,Mn c⟩
set_option tactic.hygienic true in
theorem jO {mp:Mp} {l k:Nat} (e:eN n0 mp l=some k):(l<n0∧k=l)∨(n0≤l∧aq l mp=some k):=by
 unfold eN at e
 cases q:Nat.ble (Nat.succ l) n0 with
 | true=>rw [q] at e; cases e; exact .inl ⟨LP q,rfl⟩
 | false=>
  rw [q] at e
  refine .inr ⟨?_,e⟩
  rcases Nat.lt_or_ge l n0 with z | z
  ·have:=L9 (Nat.succ_le_of_lt z); rw [this] at q; cases q
  ·exact z
theorem yM {mp:Mp} (h:MpOk n0 mp) {l k:Nat} (e:eN n0 mp l=some k):k<Ax n0 mp:=by
 rcases jO e with ⟨a,b⟩ | ⟨a,b⟩
 ·have:=h.ge; omega
 ·exact (h.out b).2.2
theorem ib {f:Nat→Option Nat} {i:Nat}:∀ {lo:List (Nat×V)},aq i (mP f lo)=(aq i lo).map (oT f)
 | []=>rfl
 | (j,v)::r=>by
  show aq i ((j,oT f v)::mP f r)=_
  rw [ax,ax,ib]
  split <;> rfl
set_option tactic.hygienic true in
theorem ic {mp:Mp} (h:MpOk n0 mp) {k:Nat} {o:AO}:∀ {st:List (Nat×AO)},aq k (vy (eN n0 mp) st)=some o→∃ l o',aq l st=some o'∧eN n0 mp l=some k∧o=q9 (eN n0 mp) o'
 | [],e=>by cases e
 | (j,o0)::r,e=>by
  have e:aq k (@Option.rec Nat (fun _=>List (Nat×AO)) (vy (eN n0 mp) r) (fun k=>qO k (q9 (eN n0 mp) o0) (vy (eN n0 mp) r)) (eN n0 mp j))=some o:=e
  cases q:eN n0 mp j with
  | none=>
   rw [q] at e
   apply bc;intro z_
   obtain ⟨l,o',h1,h2,h3⟩:=ic h e
   apply z_;clear z_
   refine ⟨l,o',?_,h2,h3⟩
   rw [ax,LU]; exact h1
   intro w; rw [w,q] at h2; cases h2
  | some m=>
   rw [q] at e
   have e:aq k (qO m (q9 (eN n0 mp) o0) (vy (eN n0 mp) r))=some o:=e
   rw [kC] at e
   split at e
   ·rename_i w; cases e
    exact ⟨j,o0,by rw [ax,LV rfl],by rw [q,w],rfl⟩
   ·rename_i w
    apply bc;intro z_
    obtain ⟨l,o',h1,h2,h3⟩:=ic h e
    apply z_;clear z_
    refine ⟨l,o',?_,h2,h3⟩
    rw [ax,LU]; exact h1
    intro z; rw [z,q] at h2; cases h2; exact w rfl
theorem mR {f:Nat→Option Nat}:∀ {ss:List (List Nat)},mQ f (ss.map V.str)=ss.map V.str
 | []=>rfl
 | s::r=>congrArg (fun b=>V.str s::b) (mR (ss:=r))
section
variable {f:Nat→Option Nat}
theorem i0 {C:Nat→V} {l:Nat} {val:Value} (hf:∀ l k,f l=some k→k<n'∧X'.ρ k=X.ρ l) (hj:RepV X' n' .junk val) (hk:∀ k,k<n'→X'.ρ k=X.ρ l→RepV X' n' (C k) val):RepV X' n' (@Option.rec Nat (fun _=>V) .junk C (f l)) val:=by
 cases q:f l with
 | none=>exact hj
 | some k=>exact hk k (hf l k q).1 (hf l k q).2
theorem RepV.ren (hF:X'.F=X.F) (hP:X'.P=X.P) (hf:∀ l k,f l=some k→k<n'∧X'.ρ k=X.ρ l) {v:V} {val:Value} (W:RepV X n v val):RepV X' n' (oT f v) val:=
 @RepV.rec X n (fun v val _=>RepV X' n' (oT f v) val) (fun vs vals _=>RepVs X' n' (mQ f vs) vals) .non .boo .int .str .byt .ty .gl
  (fun l h=>i0 hf (.junk _) fun k a b=>b ▸ .loc k a)
  (fun C l a h o=>i0 hf (.junk _) fun k c b=>.obj C k a c (by rw [hF,b]; exact o))
  (fun vs vals a o h ho hs ih=>by
   show RepV X' n' (.tup (V.rec_1 _ _ _ _ _ _ _ _ _ _ _ _ _ _ _ _ _ vs)) _
   rw [fJ]
   exact .tup _ vals a o (by rw [hF]; exact h) ho ih)
  (fun vs vals a o h ho hs ih=>by
   show RepV X' n' (.fro (V.rec_1 _ _ _ _ _ _ _ _ _ _ _ _ _ _ _ _ _ vs)) _
   rw [fJ]
   exact .fro _ vals a o (by rw [hF]; exact h) ho ih)
  (fun l a h o=>i0 hf (.junk _) fun k c b=>.bm k a c (by rw [hF,b]; exact o))
  (fun fn C l a b h o ob=>i0 hf (.junk _) fun k c w=>.pm fn C k a b c (by rw [hF]; exact o) (by rw [hF,w]; exact ob))
  .junk
  (fun C a d od vs vals h hd hPP ho hs ih=>by
   show RepV X' n' (.fob C (V.rec_1 _ _ _ _ _ _ _ _ _ _ _ _ _ _ _ _ _ vs)) _
   rw [fJ]
   exact .fob C a d od _ vals (by rw [hF]; exact h) (by rw [hF]; exact hd) (by rw [hP]; exact hPP) ho ih)
  .nil (fun _ _ h hs=>.cons h hs) v val W
theorem RepVs.ren (hF:X'.F=X.F) (hP:X'.P=X.P) (hf:∀ l k,f l=some k→k<n'∧X'.ρ k=X.ρ l) {vs:List V}:∀ {vals:List Value},RepVs X n vs vals→RepVs X' n' (mQ f vs) vals:=by
 induction vs with
 | nil=>intro vals W; cases W; exact .nil
 | cons v r ih=>intro vals W; cases W with | cons a b=>exact .cons (a.ren hF hP hf) (ih b)
theorem PairsAre.ren (hF:X'.F=X.F) (hP:X'.P=X.P) (hf:∀ l k,f l=some k→k<n'∧X'.ρ k=X.ρ l):∀ {kvs:List (List Nat×V)} {kvals:List (Str×Value)},PairsAre X n kvs kvals→PairsAre X' n' (mP f kvs) kvals
 | [],[],_=>trivial
 | _::_,_::_,h=>⟨h.1,h.2.1.ren hF hP hf,PairsAre.ren hF hP hf h.2.2⟩
 | [],_::_,h=>h.elim
 | _::_,[],h=>h.elim
theorem RepO.ren {h:Heap} {a:Addr} {o:AO} (hF:X'.F=X.F) (hP:X'.P=X.P) (hf:∀ l k,f l=some k→k<n'∧X'.ρ k=X.ρ l) (r:RepO G X n h a o):RepO G X' n' h a (q9 f o):=by
 cases o with
 | list vs=>obtain ⟨o,vals,h1,h2,h3⟩:=r; exact ⟨o,vals,h1,h2,h3.ren hF hP hf⟩
 | ns at_=>
  apply bc;intro z_
  obtain ⟨m,h1,h1',h2⟩:=r
  apply z_;clear z_
  refine ⟨m,h1,h1',fun i x hx=>?_⟩
  have:=h2 i x hx
  show match aq i (mP f at_) with
   | some v=>_
   | none=>_
  rw [ib]
  cases q:aq i at_ with
  | none=>rw [q] at this; exact this
  | some v=>rw [q] at this; obtain ⟨val,a,b⟩:=this; exact ⟨val,a,b.ren hF hP hf⟩
 | dict kvs=>obtain ⟨kvals,h1,h2⟩:=r; exact ⟨kvals,h1,h2.ren hF hP hf⟩
 | set ks=>exact r
 | cold=>exact r
 | set1 k=>exact r
 | wds ss=>
  apply bc;intro z_
  obtain ⟨o,vals,h1,h2,h3⟩:=r
  apply z_;clear z_
  refine ⟨o,vals,h1,h2,?_⟩
  have:=h3.ren hF hP hf
  rw [mR] at this
  exact this
 | own=>exact r
end
noncomputable def KO (mp:Mp):Mp:=mp.map fun p=>(p.2,p.1)
set_option tactic.hygienic true in
theorem uc {mp:Mp} (h:MpOk n0 mp):∀ {l k:Nat},aq l mp=some k→aq k (KO mp)=some l:=by
 induction h with
 | nil=>intro l k e; cases e
 | @cons j r h hl hn ih=>
  intro l k e
  rw [ax] at e
  show aq k ((Ax n0 r,j)::KO r)=_
  rw [ax]
  split at e
  ·rename_i q; cases e; rw [LV rfl,q]
  ·rw [LU (fun w=>by have:=(h.out e).2.2; omega)]; exact ih e
theorem Rel.gc (R:Rel G X env σ s) (n0:Nat):∃ X',X.le n0 X'∧X'.F=X.F∧n0≤(JS n0 σ).nx∧Rel G X' env (JS n0 σ) s:=by
 have hm:MpOk n0 (tE n0 σ):=xd
 unfold JS
 generalize tE n0 σ=mp at hm
 let ρ':Nat→Addr:=fun k=>if k<n0 then X.ρ k else match aq k (KO mp) with | some l=>X.ρ l | none=>X.ρ k
 have hf:∀ l k,eN n0 mp l=some k→k<Ax n0 mp∧ρ' k=X.ρ l:=fun l k e=>⟨yM hm e,by
  show (if k<n0 then X.ρ k else _)=_
  rcases jO e with ⟨a,b⟩ | ⟨a,b⟩
  ·rw [b,LV a]
  ·have:=(hm.out b).2.1
   rw [LU (by omega),uc hm b]⟩
 have L:X.le n0 {X with ρ:=ρ'}:=⟨fun l hl=>LV hl,fun _ _ e=>e,fun _ _ _=>rfl⟩
 refine ⟨{X with ρ:=ρ'},L,rfl,hm.ge,?_⟩
 apply bc;intro z_
 obtain ⟨h1,h2,h3,h4,hb,h5,h6,h7,h8,h9,h10,h11⟩:=R
 apply z_;clear z_
 have ls:∀ {k o},aq k (CF n0 σ mp).st=some o→∃ l o',aq l σ.st=some o'∧ρ' k=X.ρ l∧eN n0 mp l=some k∧o=q9 (eN n0 mp) o':=fun {k o} e=>by
  apply bc;intro z_
  obtain ⟨l,o',a,b,c⟩:=ic hm e
  apply z_;clear z_
  exact ⟨l,o',a,(hf l k b).2,b,c⟩
 refine ⟨h1,h2,fun k o e=>?_,fun k k' o o' e e' w=>?_,fun k o e=>?_,fun k o e=>?_,h6,?_,h8,h9,h10,fun a o e=>?_⟩
 ·apply bc;intro z_
  obtain ⟨l,o',a,b,_⟩:=ls e
  apply z_;clear z_
  show X.F (ρ' k)=none∧ρ' k≠G.T
  rw [b]; exact h3 l o' a
 ·apply bc;intro z_
  obtain ⟨l,_,a,b,c,_⟩:=ls e
  obtain ⟨l',_,a',b',c',_⟩:=ls e'
  apply z_;clear z_
  have w:ρ' k=ρ' k':=w
  rw [b,b'] at w
  have:=h4 _ _ _ _ a a' w
  subst this
  rw [c] at c'; cases c'; rfl
 ·apply bc;intro z_
  obtain ⟨l,o',a,b,_⟩:=ls e
  apply z_;clear z_
  show _<ρ' k
  rw [b]; exact hb l o' a
 ·apply bc;intro z_
  obtain ⟨l,o',a,b,c,rfl⟩:=ls e
  apply z_;clear z_
  refine ⟨(hf l k c).1,?_⟩
  show RepO G _ _ _ (ρ' k) _
  rw [b]
  exact RepO.ren (X:=X) (X':={X with ρ:=ρ'}) rfl rfl hf (h5 l o' a).2
 ·apply bc;intro z_
  obtain ⟨⟨m,cm,n1,n2,n3⟩,f1,f2,f3,f4⟩:=h7
  apply z_;clear z_
  refine ⟨⟨m,cm,n1,n2,fun i v e=>?_⟩,⟨f1.1,fun k o e=>?_,f1.2.2⟩,fun hf' x c e=>⟨(f2 hf' x c e).1,fun k o e'=>?_,(f2 hf' x c e).2.2⟩,f3,f4⟩
  ·have e:aq i (mP (eN n0 mp) σ.lo)=some v:=e
   rw [ib] at e
   cases q:aq i σ.lo with
   | none=>rw [q] at e; first | exact nS e | exact nB e | cases e
   | some v0=>
    rw [q] at e; cases e
    apply bc;intro z_
    obtain ⟨x,k,val,a,b,c⟩:=n3 i v0 q
    apply z_;clear z_
    exact ⟨x,k,val,a,RepV.ren (X:=X) (X':={X with ρ:=ρ'}) rfl rfl hf b,c⟩
  ·apply bc;intro z_
   obtain ⟨l,o',a,b,_⟩:=ls e
   apply z_;clear z_
   show ρ' k≠_
   rw [b]; exact f1.2.1 l o' a
  ·apply bc;intro z_
   obtain ⟨l,o',a,b,_⟩:=ls e'
   apply z_;clear z_
   show ρ' k≠_
   rw [b]; exact (f2 hf' x c e).2.1 l o' a
 ·apply bc;intro z_
  obtain ⟨z1,z2,z3,r⟩:=h11 a o e
  apply z_;clear z_
  refine ⟨z1,z2,fun k o' e'=>?_,r⟩
  apply bc;intro z_
  obtain ⟨l,o'',a',b,_⟩:=ls e'
  apply z_;clear z_
  show ρ' k≠_
  rw [b]; exact z3 l o'' a'
noncomputable def ew (n:Nat) (k:Nat→Prop):Prop:=@Nat.rec (fun _=>Prop) (k 0) (fun m _=>k (Nat.succ m)) n
theorem cN {n:Nat} {k:Nat→Prop}:ew n k=k n:=by cases n <;> rfl
noncomputable def tA (l:List Nat):(List Nat→Prop)→Prop:=@List.rec Nat (fun _=>(List Nat→Prop)→Prop) (fun k=>k []) (fun n _ ih k=>ew n fun m=>ih fun r=>k (m::r)) l
theorem l8:∀ {l:List Nat} {k:List Nat→Prop},tA l k=k l
 | [],_=>rfl
 | n::r,k=>(cN (k:=fun m=>tA r fun t=>k (m::t))).trans l8
noncomputable def ox (v:V):(V→Prop)→Prop:=@V.rec (fun _=>(V→Prop)→Prop) (fun _=>(List V→Prop)→Prop) (fun k=>k .non) (fun b k=>@Bool.rec (fun _=>Prop) (k (.boo false)) (k (.boo true)) b)
 (fun i k=>@Int.rec (fun _=>Prop) (fun n=>ew n fun m=>k (.int (.ofNat m))) (fun n=>ew n fun m=>k (.int (.negSucc m))) i) (fun s k=>k (.str s)) (fun s k=>k (.byt s)) (fun n k=>k (.ty n)) (fun a k=>k (.gl a)) (fun l k=>ew l fun m=>k (.loc m)) (fun C l k=>ew l fun m=>k (.obj C m))
 (fun _ ih k=>ih fun r=>k (.tup r)) (fun _ ih k=>ih fun r=>k (.fro r)) (fun l k=>ew l fun m=>k (.bm m)) (fun f C l k=>ew l fun m=>k (.pm f C m)) (fun k=>k .junk) (fun C _ ih k=>ih fun r=>k (.fob C r)) (fun k=>k []) (fun _ _ a b k=>a fun v=>b fun r=>k (v::r)) v
noncomputable def H9 (vs:List V):(List V→Prop)→Prop:=@V.rec_1 (fun _=>(V→Prop)→Prop) (fun _=>(List V→Prop)→Prop) (fun k=>k .non) (fun b k=>@Bool.rec (fun _=>Prop) (k (.boo false)) (k (.boo true)) b)
 (fun i k=>@Int.rec (fun _=>Prop) (fun n=>ew n fun m=>k (.int (.ofNat m))) (fun n=>ew n fun m=>k (.int (.negSucc m))) i) (fun s k=>k (.str s)) (fun s k=>k (.byt s)) (fun n k=>k (.ty n)) (fun a k=>k (.gl a)) (fun l k=>ew l fun m=>k (.loc m)) (fun C l k=>ew l fun m=>k (.obj C m))
 (fun _ ih k=>ih fun r=>k (.tup r)) (fun _ ih k=>ih fun r=>k (.fro r)) (fun l k=>ew l fun m=>k (.bm m)) (fun f C l k=>ew l fun m=>k (.pm f C m)) (fun k=>k .junk) (fun C _ ih k=>ih fun r=>k (.fob C r)) (fun k=>k []) (fun _ _ a b k=>a fun v=>b fun r=>k (v::r)) vs
theorem ll {v:V}:∀ {k:V→Prop},ox v k=k v:=
 @V.rec (fun v=>∀ {k:V→Prop},ox v k=k v) (fun vs=>∀ {k:List V→Prop},H9 vs k=k vs)
  rfl (fun b _=>by cases b <;> rfl) (fun i k=>by
   cases i with
   | ofNat n=>exact cN (k:=fun m=>k (.int (.ofNat m)))
   | negSucc n=>exact cN (k:=fun m=>k (.int (.negSucc m)))) (fun _ _=>rfl) (fun _ _=>rfl) (fun _ _=>rfl) (fun _ _=>rfl) (fun _ k=>cN (k:=fun m=>k (.loc m))) (fun C _ k=>cN (k:=fun m=>k (.obj C m))) (fun _ ih k=>ih (k:=fun r=>k (.tup r))) (fun _ ih k=>ih (k:=fun r=>k (.fro r))) (fun _ k=>cN (k:=fun m=>k (.bm m))) (fun f C _ k=>cN (k:=fun m=>k (.pm f C m))) rfl (fun C _ ih k=>ih (k:=fun r=>k (.fob C r))) rfl (fun v r a b k=>(a (k:=fun v=>H9 r fun r=>k (v::r))).trans (b (k:=fun r=>k (v::r)))) v
noncomputable def tB (vs:List V):(List V→Prop)→Prop:=@List.rec V (fun _=>(List V→Prop)→Prop) (fun k=>k []) (fun v _ ih k=>ox v fun w=>ih fun r=>k (w::r)) vs
theorem l9:∀ {l:List V} {k:List V→Prop},tB l k=k l
 | [],_=>rfl
 | n::r,k=>(ll (k:=fun m=>tB r fun t=>k (m::t))).trans l9
noncomputable def tz (vs:List (Nat×V)):(List (Nat×V)→Prop)→Prop:=@List.rec (Nat×V) (fun _=>(List (Nat×V)→Prop)→Prop) (fun k=>k []) (fun p _ ih k=>ew p.1 fun m=>ox p.2 fun w=>ih fun r=>k ((m,w)::r)) vs
theorem lk:∀ {l:List (Nat×V)} {k:List (Nat×V)→Prop},tz l k=k l
 | [],_=>rfl
 | n::r,k=>(cN (k:=fun m=>ox n.2 fun w=>tz r fun t=>k ((m,w)::t))).trans ((ll (k:=fun w=>tz r fun t=>k ((n.1,w)::t))).trans lk)
noncomputable def w6 (vs:List (List Nat×V)):(List (List Nat×V)→Prop)→Prop:=@List.rec (List Nat×V) (fun _=>(List (List Nat×V)→Prop)→Prop) (fun k=>k []) (fun p _ ih k=>tA p.1 fun m=>ox p.2 fun w=>ih fun r=>k ((m,w)::r)) vs
theorem pL:∀ {l:List (List Nat×V)} {k:List (List Nat×V)→Prop},w6 l k=k l
 | [],_=>rfl
 | n::r,k=>(l8 (k:=fun m=>ox n.2 fun w=>w6 r fun t=>k ((m,w)::t))).trans ((ll (k:=fun w=>w6 r fun t=>k ((n.1,w)::t))).trans pL)
noncomputable def Cy (o:AO) (k:AO→Prop):Prop:=@AO.rec (fun _=>Prop) (fun vs=>tB vs fun r=>k (.list r)) (fun at_=>tz at_ fun r=>k (.ns r)) (fun kvs=>w6 kvs fun r=>k (.dict r)) (fun s=>k (.set s)) (k .cold) (fun s=>k (.set1 s)) (fun s=>k (.wds s)) (k .own) o
theorem w8 {o:AO} {k:AO→Prop}:Cy o k=k o:=by
 cases o
 ·exact l9 (k:=fun r=>k (.list r))
 ·exact lk (k:=fun r=>k (.ns r))
 ·exact pL (k:=fun r=>k (.dict r))
 ·rfl
 ·rfl
 ·rfl
 ·rfl
 ·rfl
noncomputable def xa (vs:List (Nat×AO)):(List (Nat×AO)→Prop)→Prop:=@List.rec (Nat×AO) (fun _=>(List (Nat×AO)→Prop)→Prop) (fun k=>k []) (fun p _ ih k=>ew p.1 fun m=>Cy p.2 fun w=>ih fun r=>k ((m,w)::r)) vs
theorem pN:∀ {l:List (Nat×AO)} {k:List (Nat×AO)→Prop},xa l k=k l
 | [],_=>rfl
 | n::r,k=>(cN (k:=fun m=>Cy n.2 fun w=>xa r fun t=>k ((m,w)::t))).trans ((w8 (k:=fun w=>xa r fun t=>k ((n.1,w)::t))).trans pN)
noncomputable def Cz (σ:St) (k:St→Prop):Prop:=tz σ.lo fun lo=>xa σ.st fun st=>ew σ.nx fun n=>k ⟨lo,st,n⟩
theorem w9 {k:St→Prop}:Cz σ k=k σ:=by unfold Cz; rw [lk,pN,cN]
noncomputable def w7 (mp:Mp):(Mp→Prop)→Prop:=@List.rec (Nat×Nat) (fun _=>(Mp→Prop)→Prop) (fun k=>k []) (fun p _ ih k=>ew p.1 fun m=>ew p.2 fun w=>ih fun r=>k ((m,w)::r)) mp
theorem pM:∀ {l:Mp} {k:Mp→Prop},w7 l k=k l
 | [],_=>rfl
 | n::r,k=>(cN (k:=fun m=>ew n.2 fun w=>w7 r fun t=>k ((m,w)::t))).trans ((cN (k:=fun w=>w7 r fun t=>k ((n.1,w)::t))).trans pM)
noncomputable def G9 (n0:Nat) (σ:St) (k:St→Prop):Prop:=w7 (tE n0 σ) fun mp=>Cz (CF n0 σ mp) k
theorem CG {k:St→Prop}:G9 n0 σ k=k (JS n0 σ):=by unfold G9; rw [pM,w9]; rfl
noncomputable def jy (n0:Nat) (cur:Nat→St→Option (Option V)) (dt:DT) (db:DS):Nat→Nat→DS:=iE (G9 n0) cur dt db
theorem tF {K:St→Prop} (q:G9 n0 σ K) (hn:n0≤σ.nx) (R:Rel G X env σ s):AftAt G X env n0 K s:=by
 apply bc;intro z_
 obtain ⟨X4,L4,e4,n4,R4⟩:=R.gc n0
 apply z_;clear z_
 exact ⟨_,X4,CG.mp q,L4,e4,n4,R4⟩
noncomputable def r9 (di:DI) (dt:DT) (db:DS) (N:Nat):DS:=fun σ Q=>di σ fun cur σ1=>jy σ1.nx cur dt db N 0 σ1 Q
theorem r8 {tg:Bool} {target iter:PySem.Expr} {body:List PySem.Stmt} {di:DI} {dt:DT} {db:DS} {p:Pos} (N:Nat) (hi:SI G lv sc tg iter di) (htg:tg=true→ez target=true) (ht:ST G lv sc target dt) (hb:iQ G lv sc body db)
  (hs:∀ env x,foldedSetIterable iter env x=pure x):SS G lv sc (.For target iter body [] p) (r9 di dt db N):=fun σ Q hd A env X s ha he R=>by
 refine wpAny_For (LF (hi σ _ hd A env X s ha he R) (fun x s1 h1=>LF h1 (fun it s2 h2=>?_) fun _ _ z=>z) fun _ _ z=>z) (hs env)
 obtain ⟨cur,σ1,X0,X1,S,I,k1,L0,L1,n1,R1,f1,i1,T⟩:=h2
 refine lw tF ha he T htg ht hb (fun f s' h=>?_) N 0 σ1 X1 s2 k1 L1 (LR _) R1 f1 i1
 exact PostS.lift L0 n1 h
open Classical in
set_option tactic.hygienic true in
theorem Rel.hide (hGn:G.Gn=AllBare) (R:Rel G X env σ s):∃ hp,Rel (G.pv AllBare hp) X env ⟨[],[],0⟩ s ∧
  ∀ σ' X' s',X.le 0 X'→Rel (G.pv AllBare hp) X' env σ' s'→(∀ b∈ak env,s'.heap.get? b=s.heap.get? b)→X.le σ.nx {X' with ρ:=X.ρ}∧Rel G {X' with ρ:=X.ρ} env σ s':=by
 let hp:Addr→Option Obj:=fun a=>if ∃ l o,aq l σ.st=some o∧X.ρ l=a then s.heap.get? a else G.Hp a
 have hin:∀ {l o},aq l σ.st=some o→∃ ob,hp (X.ρ l)=some ob∧s.heap.get? (X.ρ l)=some ob:=fun {l o} e=>by
  apply bc;intro z_
  obtain ⟨ob,z⟩:=R.there e
  apply z_;clear z_
  exact ⟨ob,by show (if _ then _ else _)=_; rw [LV ⟨l,o,e,rfl⟩]; exact z,z⟩
 have hout:∀ {a o},G.Hp a=some o→hp a=some o:=fun {a o} e=>by
  show (if _ then _ else _)=_
  rw [LU (fun ⟨l,o',e',w⟩=>(R.hp a o e).2.2.1 l o' e' w)]; exact e
 have R1:Rel (G.pv AllBare hp) X env {σ with st:=[]} s:=R.priv (st':=[]) (fun _ _ _ e=>e) rfl rfl (by have:=R.gens; rw [hGn] at this; exact this) (fun _ _ e=>nomatch e) fun a o e=>by
  have e:(if ∃ l o,aq l σ.st=some o∧X.ρ l=a then s.heap.get? a else G.Hp a)=some o:=e
  split at e
  ·rename_i w
   apply bc;intro z_
   obtain ⟨l,o',e',rfl⟩:=w
   apply z_;clear z_
   exact ⟨e,.inr (.inr ⟨l,o',e',rfl,fun _ z=>nomatch z⟩)⟩
  ·exact ⟨(R.hp a o e).1,.inl ⟨o,e⟩⟩
 refine ⟨hp,?_,fun σ' X' s' L R' same=>?_⟩
 ·apply bc;intro z_
  obtain ⟨h1,h2,h3,h4,hb,h5,h6,h7,h8,h9,h10,h11⟩:=R1
  apply z_;clear z_
  refine ⟨h1,h2,(fun _ _ e=>nomatch e),(fun _ _ _ _ e=>nomatch e),(fun _ _ e=>nomatch e),(fun _ _ e=>nomatch e),h6,?_,h8,h9,h10,h11⟩
  apply bc;intro z_
  obtain ⟨⟨m,cm,n1,n2,n3⟩,f1,f2,f3,f4⟩:=h7
  apply z_;clear z_
  exact ⟨⟨m,cm,n1,n2,fun _ _ e=>nomatch e⟩,f1,f2,f3,f4⟩
 have L2:X.le σ.nx {X' with ρ:=X.ρ}:=⟨fun _ _=>rfl,L.F,L.P⟩
 refine ⟨L2,?_⟩
 have keep:∀ {l o},aq l σ.st=some o→s'.heap.get? (X.ρ l)=s.heap.get? (X.ρ l)∧X'.F (X.ρ l)=none:=fun {l o} e=>by
  apply bc;intro z_
  obtain ⟨ob,z1,z2⟩:=hin e
  obtain ⟨y1,y2,_⟩:=R'.hp _ _ z1
  apply z_;clear z_
  exact ⟨y1.trans z2.symm,y2⟩
 refine ⟨R'.sub,R'.base,fun l o e=>⟨(keep e).2,(R.own l o e).2⟩,R.inj,R.big,fun l o e=>⟨(R.st l o e).1,(R.st l o e).2.go L2 (LR _) (keep e).1⟩,R'.tab,?_,R'.os,R'.drawn,(by rw [hGn]; exact R'.gens),fun a o e=>?_⟩
 ·refine R.loc.go L2 (LR _) (same _ cB) (fun x c e=>?_) ⟨R'.loc.freeL.1,R.loc.freeL.2.1⟩ (fun hf x c e=>⟨(R'.loc.freeC hf x c e).1,(R.loc.freeC hf x c e).2.1⟩)
  by_cases hf:env.frame=some env.locals
  ·exact same _ (dc hf e)
  ·apply bc;intro z_
   obtain ⟨o,z⟩:=R.loc.frzC hf x c e
   apply z_;clear z_
   rw [R.sub _ _ z]; exact R'.sub _ _ (L.F _ _ z)
 ·apply bc;intro z_
  obtain ⟨y1,y2,_⟩:=R'.hp _ _ (hout e)
  obtain ⟨_,_,z3,z4,z5,z6⟩:=R.hp _ _ e
  apply z_;clear z_
  exact ⟨y1,y2,z3,z4,z5,z6⟩
noncomputable def iH (σ:St) (Q:V→St→Prop):V→St→Prop:=fun v _=>match bM v with
 | true=>Q v σ
 | false=>False
noncomputable def cF (D:List V→List V→DE) (vs kvs:List V) (σ:St) (Q:V→St→Prop):Prop:=match aU vs with
 | true=>(match aU kvs with
  | true=>D vs kvs ⟨[],[],0⟩ (iH σ Q)
  | false=>False)
 | false=>False
theorem kI {D:List V→List V→DE} {vs kvs:List V} {Q:V→St→Prop} (h:cF D vs kvs σ Q):aU vs=true∧aU kvs=true∧D vs kvs ⟨[],[],0⟩ (iH σ Q):=by
 unfold cF at h
 cases q1:aU vs with
 | false=>rw [q1] at h; exact h.elim
 | true=>
  cases q2:aU kvs with
  | false=>rw [q1,q2] at h; exact h.elim
  | true=>rw [q1,q2] at h; exact ⟨rfl,rfl,h⟩
theorem kJ {Q:V→St→Prop} {v:V} (h:iH σ Q v σ'):bM v=true∧Q v σ:=by
 unfold iH at h
 cases q:bM v with
 | false=>rw [q] at h; exact h.elim
 | true=>rw [q] at h; exact ⟨rfl,h⟩
theorem FN.apart {f:Addr} {ks:List Str} {D:List V→List V→DE} (hGn:G.Gn=AllBare) (h:∀ hp,FN (G.pv AllBare hp) lv f ks D):FN G lv f ks (cF D):=by
 refine ⟨(h G.Hp).1,fun vs kvs σ Q hd A env X s vals kvals ha R Wv Wk=>?_⟩
 apply bc;intro z_
 obtain ⟨p1,p2,hd⟩:=kI hd
 obtain ⟨hp,R2,back⟩:=R.hide hGn
 apply z_;clear z_
 refine codeAny_mono ((h hp).2 vs kvs ⟨[],[],0⟩ _ hd A env X s vals kvals ha R2 (RepVs.pure (X:=X) (fun _ _ e=>e) (fun _ _ _=>rfl) Wv p1) (RepVs.pure (X:=X) (fun _ _ e=>e) (fun _ _ _=>rfl) Wk p2)) fun r s' y_=>?_
 apply bc;intro z_
 obtain ⟨val,er,⟨v,σ',X',q,L,_,R',Wr⟩,same⟩:=y_
 obtain ⟨q1,q2⟩:=kJ q
 obtain ⟨L2,R3⟩:=back σ' X' s' L R' same
 apply z_;clear z_
 exact ⟨val,er,⟨v,σ,{X' with ρ:=X.ρ},q2,L2,LR _,R3,RepV.pure (X:=X') (X':={X' with ρ:=X.ρ}) (fun _ _ e=>e) (fun _ _ _=>rfl) Wr q1⟩,same⟩
noncomputable def o5 (sp:List V→List V→Option V) (vs kvs:List V) (σ:St) (Q:V→St→Prop):Prop:=match sp vs kvs with
 | some w=>Q w σ
 | none=>False
set_option tactic.hygienic true in
theorem FN.tab {f:Addr} {ks:List Str} {D:List V→List V→DE} {sp:List V→List V→Option V} (h:FN G lv f ks (cF D))
  (hs:∀ vs kvs w,sp vs kvs=some w→aU vs=true∧aU kvs=true∧bM w=true∧∀ P:V→Prop,D vs kvs ⟨[],[],0⟩ (fun v _=>P v)=P w):FN G lv f ks (o5 sp):=by
 refine h.mono fun vs kvs σ Q hd=>?_
 unfold o5 at hd
 split at hd
 ·rename_i w hw
  apply bc;intro z_
  obtain ⟨p1,p2,p3,p4⟩:=hs vs kvs w hw
  apply z_;clear z_
  unfold cF
  rw [p1,p2]
  show D vs kvs ⟨[],[],0⟩ (fun v _=>match bM v with
   | true=>Q v σ
   | false=>False)
  rw [p4 fun v=>match bM v with
   | true=>Q v σ
   | false=>False,p3]
  exact hd
 ·exact hd.elim
noncomputable def nA (D:List V→List V→DE) (vs kvs:List V):DE:=match vs with
 | .obj _ _::r=>D (.junk::r) kvs
 | _=>D vs kvs
theorem FN.blind {f:Addr} {ks:List Str} {D:List V→List V→DE} (h:FN G lv f ks D):FN G lv f ks (nA D):=by
 refine ⟨h.1,fun vs kvs σ Q hd A env X s vals kvals ha R Wv Wk=>?_⟩
 unfold nA at hd
 split at hd
 ·cases Wv with
  | cons a b=>
   obtain ⟨z,_,_⟩:=(a.inv:AtOb X σ.nx _ _ _)
   exact h.2 _ kvs σ Q hd A env X s _ kvals ha R (.cons (.junk _) b) Wk
 ·exact h.2 vs kvs σ Q hd A env X s vals kvals ha R Wv Wk
noncomputable def qu (ds:DA):DE:=fun σ Q=>ds σ fun vs σ1=>match Nat.ble vs.length 100000 with | true=>Q (.fro vs) σ1 | false=>False
theorem bW {es:List PySem.Expr} {ds:DA} {p:Pos} (ok:G.Ok) (h:SA G lv sc es ds):SE G lv sc (.List es p) (qu ds):=fun σ Q hd A env X s ha he R=>by
 refine List_ (LF (h σ _ hd A env X s p ha he R) (fun vals s1 y_=>?_) fun _ _ z=>z)
 apply bc;intro z_
 obtain ⟨vs,σ1,X1,q,L1,n1,R1,W1⟩:=y_
 apply z_;clear z_
 cases hb:Nat.ble vs.length 100000 with
 | false=>rw [hb] at q; exact q.elim
 | true=>
  rw [hb] at q
  have hz:vals.length≤sizeLine:=by rw [W1.length,L6]; have:=LP hb; omega
  exact wpAny_newList (Post.lift L1 n1 (Post.newList (t:=s1.toks) ok q R1 W1)) hz
noncomputable def mG (at_:List (Nat×V)):Bool:=@List.rec (Nat×V) (fun _=>Bool) true (fun p _ ih=>@Bool.rec (fun _=>Bool) false ih (Nat.ble p.1 4)) at_
set_option tactic.hygienic true in
theorem kF {i:Nat} {v:V}:∀ {at_:List (Nat×V)},mG at_=true→aq i at_=some v→i<5
 | [],_,e=>by cases e
 | (j,w)::r,h,e=>by
  have h:@Bool.rec (fun _=>Bool) false (mG r) (Nat.ble j 4)=true:=h
  rw [ax] at e
  cases q:Nat.ble j 4 with
  | false=>rw [q] at h; first | exact nS h | exact nB h | cases h
  | true=>
   rw [q] at h
   split at e
   ·rename_i z; subst z; exact Nat.lt_succ_of_le (LP q)
   ·exact kF h e
noncomputable def lu (at_:List (Nat×V)):List Nat→Option (List V)
 | []=>some []
 | i::r=>(aq i at_).bind fun a=>(lu at_ r).map (List.cons a)
theorem iC {at_:List (Nat×V)} {is:List Nat}:∀ {vs:List V},lu at_ is=some vs→vs.length=is.length∧∀ (j i:Nat),is[j]?=some i→aq i at_=vs[j]?:=by
 induction is with
 | nil=>intro vs h; cases h; exact ⟨rfl,fun j i e=>by cases e⟩
 | cons i r ih=>
  intro vs h
  apply bc;intro z_
  obtain ⟨a,h1,h⟩:=Option.bind_eq_some_iff.mp h
  obtain ⟨ws,h2,rfl⟩:=Option.map_eq_some_iff.mp h
  obtain ⟨h3,h4⟩:=ih h2
  apply z_;clear z_
  refine ⟨congrArg Nat.succ h3,fun j k e=>?_⟩
  cases j with
  | zero=>cases e; exact h1
  | succ j=>exact h4 j k e
noncomputable def tu (at_:List (Nat×V)):Option (List V):=match mG at_ with
 | true=>lu at_ [0,1,2,3,4]
 | false=>none
theorem qK {at_:List (Nat×V)} {vs:List V} (h:tu at_=some vs):mG at_=true∧vs.length=5∧∀ i,i<5→aq i at_=vs[i]?:=by
 unfold tu at h
 cases e:mG at_ with
 | false=>rw [e] at h; cases h
 | true=>
  rw [e] at h
  exact ⟨rfl,(iC h).1,fun i hi=>(iC h).2 i i ((by decide:∀ i<5,([0,1,2,3,4]:List Nat)[i]?=some i) i hi)⟩
noncomputable def H6 (v:V) (σ:St) (Q:V→St→Prop):Prop:=Az v fun C l=>onS (xA l σ) fun at_=>onS (tu at_) fun vs=>Q (.fob C vs) {σ with st:=sP l σ.st}
theorem iw:cD.length=5:=by decide +kernel
theorem AV {n:Nat} {Y:Wd} {m:Str→Option Value}:∀ {vs:List V} {xs:List Str},vs.length=xs.length→(∀ (k:Nat) (x:Str) (v:V),xs[k]?=some x→vs[k]?=some v→∃ val,m x=some val∧RepV Y n v val) →
  ∃ vals,RepVs Y n vs vals∧vals.length=xs.length∧∀ (k:Nat) (x:Str),xs[k]?=some x→m x=vals[k]?
 | [],[],_,_=>⟨[],.nil,rfl,fun k x e=>by simp at e⟩
 | v::vs,x::xs,hl,h=>by
  apply bc;intro z_
  obtain ⟨val,e,W⟩:=h 0 x v rfl rfl
  obtain ⟨vals,Ws,hv,hm⟩:=AV (vs:=vs) (xs:=xs) (by simpa using hl) fun k x v a b=>h (k+1) x v (by simpa using a) (by simpa using b)
  apply z_;clear z_
  refine ⟨val::vals,.cons W Ws,by simp [hv],fun k y ey=>?_⟩
  cases k with
  | zero=>simp at ey; subst ey; exact e
  | succ k=>simp at ey; simpa using hm k y ey
 | [],_::_,hl,_=>by cases hl
 | _::_,[],hl,_=>by cases hl
theorem Cn {v:V} {val:Value} {Q:V→St→Prop} (ok:G.Ok) (h:H6 v σ Q) (R:Rel G X env σ s) (W:RepV X σ.nx v val):Post G X env σ.nx Q val s:=by
 cases v with
 | obj C l=>
  cases (W.inv:AtOb X σ.nx C l val) with
  | mk a hl ho=>
  apply bc;intro z_
  obtain ⟨at_,hk,h2⟩:=onS.out h
  have hk:=ii hk
  obtain ⟨vs,hvs,h3⟩:=onS.out h2
  obtain ⟨h5,hlen,hlook⟩:=qK hvs
  obtain ⟨R2,L2⟩:=R.freeze ok hk
  obtain ⟨_,m,n1,n2,n3⟩:=R.st l _ hk
  apply z_;clear z_
  refine ⟨_,_,_,h3,L2,LR _,R2,?_⟩
  apply bc;intro z_
  obtain ⟨o,es,ep,g1,g2,g3⟩:=n1.ns
  obtain ⟨vals,Ws,hv,hm⟩:=AV (n:=σ.nx) (Y:=X) (m:=m) (vs:=vs) (xs:=cD) (by rw [hlen,iw]) fun k x v a b=>by
   have:=n3 k x (ok.ws k x a)
   rw [hlook k (by rw [← hlen]; exact (List.getElem?_eq_some_iff.mp b).1),b] at this
   exact this
  apply z_;clear z_
  refine .fob C a (X.ρ l) o vs vals (L2.F _ _ ho) ?_ (LV rfl) ⟨es,ep,m,g2,g3.1,?_,g3.2,by rw [hv,iw],hm,fun x v e=>?_⟩ (Ws.mono L2 (LR _))
  ·show (if X.ρ l=X.ρ l then _ else _)=_
   rw [LV rfl]; exact g1
  ·apply bc;intro z_
   obtain ⟨o',es',ep',q1,q2,q3⟩:=n1
   apply z_;clear z_
   rw [g1] at q1; cases q1
   rw [g2] at q2; cases q2
   exact q3.2.1
  ·have hx:x∈G.an:=n2 x (by rw [e]; simp)
   apply bc;intro z_
   obtain ⟨i,hi⟩:=List.getElem?_of_mem hx
   apply z_;clear z_
   have:=n3 i x hi
   cases q:aq i at_ with
   | none=>rw [q] at this; rw [e] at this; cases this
   | some v'=>
    have i5:=kF h5 q
    obtain ⟨y,hy⟩:∃ y,cD[i]?=some y:=⟨cD[i]'(by rw [iw]; exact i5),List.getElem?_eq_getElem _⟩
    have:=ok.ws i y hy
    rw [hi] at this; cases this
    exact Mh hy
 | _=>exact h.elim
noncomputable def Kd (D:List V→List V→DE) (vs kvs:List V) (σ:St) (Q:V→St→Prop):Prop:=D vs kvs σ fun v σ1=>H6 v σ1 Q
theorem CBs.fob {f:Value} {ks:List Str} {D:List V→List V→DE} (ok:G.Ok) (hGn:G.Gn=AllBare) (h:∀ hp,CBs (G.pv AllBare hp) lv f ks D):CB G lv f ks (cF (Kd D)):=by
 refine fun vs kvs σ Q hd A env X s vals kvals ha R Wv Wk=>?_
 apply bc;intro z_
 obtain ⟨p1,p2,hd⟩:=kI hd
 obtain ⟨hp,R2,back⟩:=R.hide hGn
 obtain ⟨h1,h2⟩:=h hp vs kvs ⟨[],[],0⟩ _ hd A env X s vals kvals ha R2 (RepVs.pure (X:=X) (fun _ _ e=>e) (fun _ _ _=>rfl) Wv p1) (RepVs.pure (X:=X) (fun _ _ e=>e) (fun _ _ _=>rfl) Wk p2)
 apply z_;clear z_
 refine ⟨h1,LF h2 (fun val s' y_=>?_) fun _ _ z=>z⟩
 apply bc;intro z_
 obtain ⟨⟨v,σ',X',q,L,_,R',Wr⟩,same⟩:=y_
 obtain ⟨w,σ2,X2,q2,L2,_,R3,W3⟩:=Cn (ok.pv AllBare hp) q R' Wr
 obtain ⟨q3,q4⟩:=kJ q2
 obtain ⟨L4,R4⟩:=back σ2 X2 s' (L.trans L2 (Mm _)) R3 same
 apply z_;clear z_
 exact ⟨w,σ,{X2 with ρ:=X.ρ},q4,L4,LR _,R4,RepV.pure (X:=X2) (X':={X2 with ρ:=X.ρ}) (fun _ _ e=>e) (fun _ _ _=>rfl) W3 q3⟩
theorem tv {C:Nat} {vs:List V} {val:Value} (R:Rel G X env σ s) (W:RepV X n (.fob C vs) val) :
  ∃ (a:Addr) (od:Obj) (m:Str→Option Value) (vals:List Value),val=.ref a∧(∃ d,InstAt s.heap a (instObj C d) C (some od))∧RepVs X n vs vals∧vals.length=5∧(∀ (k:Nat) (x:Str),cD[k]?=some x→m x=vals[k]?)∧(∀ (x:Str) (v:Value),m x=some v→x∈cD)∧∀ name,lookIn name od=some (m name):=by
 cases (W.inv:AtFob X n C vs val) with
 | mk a d od vals h hd hP ho hs=>
  apply bc;intro z_
  obtain ⟨es,ep,m,e1,e2,e3,e4,e5,e6,e7⟩:=ho
  apply z_;clear z_
  refine ⟨a,od,m,vals,rfl,⟨d,R.sub _ _ h,rfl,rfl,R.sub _ _ hd⟩,hs,e5,e6,e7,?_⟩
  apply bc;intro z_
  obtain ⟨o',ho',hk⟩:=kA (h:=s.heap) (a:=d) (m:=m) ⟨od,es,ep,R.sub _ _ hd,e1,e2,e4⟩
  apply z_;clear z_
  rw [R.sub _ _ hd] at ho'; cases ho'
  exact hk
noncomputable def Ai (C0 i:Nat) (v:V) (σ:St) (Q:V→St→Prop):Prop:=match v with
 | .fob C vs=>onT (Nat.beq C C0) (onS (fV vs i) fun w=>Q w σ)
 | v=>pz C0 i v σ Q
theorem qN {C0 i:Nat} {name:Str} {v:V} {val:Value} {Q:V→St→Prop} {expr:Bool} (ok:G.Ok) (hC:ClsOk G.K C0) (hi:G.an[i]?=some name) (hn:findIn G.K (.ref C0) name=some none) (h:Ai C0 i v σ Q) (R:Rel G X env σ s) (W:RepV X σ.nx v val) :
  wpAny (model G.prog G.w) A (getAttr val name expr) (Post G X env σ.nx Q) bg s:=by
 cases v with
 | fob C vs=>
  apply bc;intro z_
  obtain ⟨hc,h2⟩:=onT.out h
  obtain ⟨w,hw,h3⟩:=onS.out h2
  apply z_;clear z_
  cases L8 hc
  rw [dR] at hw
  apply bc;intro z_
  obtain ⟨a,od,m,vals,rfl,⟨d,I⟩,Ws,h5,hm,_,hk⟩:=tv R W
  obtain ⟨wv,hv,Ww⟩:=Ws.get hw
  apply z_;clear z_
  have i5:i<cD.length:=by rw [iw,← h5]; exact (List.getElem?_eq_some_iff.mp hv).1
  have hx:cD[i]?=some (cD[i]'i5):=List.getElem?_eq_getElem _
  have hy:=ok.ws i _ hx
  rw [hi] at hy
  have hy:=Option.some.inj hy
  have:=hm i _ hx
  rw [← hy,hv] at this
  exact get_value (R.K ok) I hC.hga (findObj_own hC.hd hn rfl (by rw [hk,this])) Ww.handed (Post.ret h3 (R.toks _) Ww)
 | _=>exact jn ok hC hi hn h R W
noncomputable def qs (d:DE) (C0 i:Nat):DE:=fun σ Q=>d σ fun v σ1=>Ai C0 i v σ1 Q
theorem cV {e:PySem.Expr} {name:Str} {p:Pos} {d:DE} {C0 i:Nat} (ok:G.Ok) (hC:ClsOk G.K C0) (hi:G.an[i]?=some name) (hn:findIn G.K (.ref C0) name=some none) (he':SE G lv sc e d) (hb:∀ env,attributeBase e name env (eval e env)=eval e env):SE G lv sc (.Attribute e name p) (qs d C0 i):=fun σ Q hd A env X s ha he R=>
 et he' hb hd ha he R fun val s1 v σ1 X1 k1 L1 n1 R1 W1=>LF (qN ok hC hi hn k1 R1 W1) (fun _ _ z=>Post.lift L1 n1 z) fun _ _ z=>z
noncomputable def Kt (C0 j:Nat) (v:V) (σ:St) (P:Prop):Prop:=match v with
 | .fob C _=>onT (Nat.beq C C0) (onT (Nat.ble 5 j) P)
 | v=>mD C0 v σ fun _ at_=>noS (aq j at_) P
theorem hJ {o:PySem.Expr} {name:Str} {do_:DE} {C0 j:Nat} {f:Addr} {ks:List Str} {D:List V→List V→DE} (ok:G.Ok) (hC:ClsOk G.K C0) (hj:G.an[j]?=some name) (hf:findIn G.K (.ref C0) name=some (some (.ref f))) (ht:typeIn G.K (.ref f)=some (.type "function"))
  (ho:SE G lv sc o do_) (hc:CB G lv (.ref f) ks D) :
  SM G lv sc o name ks (fun σ K=>do_ σ fun v σ1=>Kt C0 j v σ1 (K (fun vs kvs=>D (v::vs) kvs) σ1)):=fun σ K hd A env X s ha he R=>by
 refine ho.run hd ha he R fun ov s1 v σ1 X1 k1 L1 n1 R1 W1=>fun pl Q' k=>?_
 cases v with
 | fob C vs=>
  apply bc;intro z_
  obtain ⟨hc',k2⟩:=onT.out k1
  obtain ⟨h5,k3⟩:=onT.out k2
  apply z_;clear z_
  cases L8 hc'
  apply bc;intro z_
  obtain ⟨a,od,m,vals,rfl,⟨d,I⟩,Ws,hv5,hm,hin,hk⟩:=tv R1 W1
  apply z_;clear z_
  have hno:m name=none:=by
   cases q:m name with
   | none=>rfl
   | some w=>
    apply bc;intro z_
    obtain ⟨i,hi⟩:=List.getElem?_of_mem (hin name w q)
    have:=ok.ws i name hi
    obtain ⟨hi',ei⟩:=List.getElem?_eq_some_iff.mp this
    obtain ⟨hj',ej⟩:=List.getElem?_eq_some_iff.mp hj
    apply z_;clear z_
    have:=(List.getElem_inj ok.annd).mp (ei.trans ej.symm)
    have hw:=(List.getElem?_eq_some_iff.mp hi).1
    rw [iw,this] at hw
    exact absurd hw (Mc (LP h5))
  exact method_fn (R1.K ok) I hC.hga hC.hk hf ht (by unfold shadowIn; dsimp only; rw [hk,hno]; rfl) (k _ _ _ _ _ _ k3 L1 n1 R1 (CFok.of (fv:=[.fob C0 vs]) hc (.cons W1 .nil)))
 | _=>exact pY ok hC hj hf ht k1 R1 W1 fun k1=>k _ _ _ _ _ _ k1 L1 n1 R1 (CFok.of (fv:=[_]) hc (.cons W1 .nil))
noncomputable def Glob.start (G:Glob):Wd:=⟨fun _=>0,fun a=>if a=G.T then none else G.hb.get? a,#[],fun _=>false⟩
set_option tactic.hygienic true in
theorem A7 {f:Addr} {fd:FuncData} {body:List PySem.Stmt} {db:DS} {x:Str} {v:V} {val:Value} {Qf:Fl→St→Prop} {R':Result→Shared→Prop} (ok:G.Ok) (F:FnOk G f fd body sc) (hx:sc.names[0]?=some (x,.local)) (hb:iQ G lv sc body db)
  (hs:s.heap=G.hb) (hT:s.heap.get? G.T=some (zG #[])) (htb:G.TbOk G.start.F #[]) (hos:s.os=G.os) (hdr:s.drawn=G.drawn) (hg:G.Gn s.gens) (hhp:G.Hp=fun _=>none) (ha:AOk (lv+1) A) (W:RepV G.start 0 v val)
  (hbind:Looks (model G.prog G.w) s.heap (bindArgs fd ⟨[val],[]⟩) [(x,val)]) (hd:db ⟨[(0,v)],[],0⟩ Qf)
  (k:∀ fl rv s' σ' X' env',Qf fl σ'→G.start.le 0 X'→Rel G X' env' σ' s'→RepV X' σ'.nx (qd fl) rv→R' (.ok (.ret rv)) s'):codeAny (model G.prog G.w) A (.call (.ref f) ⟨[val],[]⟩) R' s:=by
 apply bc;intro z_
 obtain ⟨⟨o,ho,hdat⟩,hbody,hclo,hgl,hbi,hco,hgen,hkd,⟨c,oc,cvs,t,hc1,hc2,hc3,hc4⟩,hnm,hfn,hnd,hcs⟩:=F
 apply z_;clear z_
 have KI:G.K.In s.heap:=by rw [hs]; exact ok.K
 have hroom:A.depth<recursionLimit:=by have:=ha.depth; omega
 refine codeAny_call_function hroom (KI _ _ ho) hdat hco hgen hbody ⟨c,oc,cvs,t,hc1,KI _ _ hc2,hc3,hc4⟩ ?_
 refine hbind.here ?_
 rw [hclo,hgl,hbi]
 have hl:=dg hnd hx
 rw [hnm] at hl
 refine wpAny_newFunctionEnv_cells hkd (fun p hp=>?_) fun env' he' s2 x'=>?_
 ·simp only [List.mem_cons,List.not_mem_nil,or_false] at hp
  subst hp
  exact .inl hl
 ·apply bc;intro z_
  obtain ⟨⟨hsame,hns,hkeep,hfresh⟩,hcell,hapart,habove⟩:=x'
  obtain ⟨h2,tk2,rfl⟩:=hsame
  apply z_;clear z_
  have eC:env'.cells=cellsFrom (s.heap.objs.size+1) fd.scope.names []:=by rw [he']; rfl
  have big:∀ {a:Addr},s.heap.objs.size≤a→G.start.F a=none:=fun {a} h=>by
   show (if a=G.T then none else G.hb.get? a)=none
   split
   ·rfl
   ·rw [← hs]
    cases q:s.heap.get? a with
    | none=>rfl
    | some o=>exact absurd (L7 q) (Mc h)
  have notT:∀ {a:Addr},s.heap.objs.size≤a→a≠G.T:=fun {a} h w=>by
   rw [← w] at hT
   exact absurd (L7 hT) (Mc h)
  have cbig:∀ {x:Str} {c:Addr},env'.cells.lookup x=some c→s.heap.objs.size≤c:=fun e=>LN hfresh (Nat.le_of_lt (habove _ _ (mem_of_lookup e)))
  have R2:Rel G G.start env' ⟨[(0,v)],[],0⟩ {s with heap:=h2,toks:=tk2}:=by
   refine ⟨fun a o e=>?_,fun a o e q=>?_,(fun _ _ e=>nomatch e),(fun _ _ _ _ e=>nomatch e),(fun _ _ e=>nomatch e),(fun _ _ e=>nomatch e),⟨hkeep _ _ hT,LV rfl,htb⟩,?_,hos,hdr,hg,fun a o e=>by rw [hhp] at e; cases e⟩
   ·have e:(if a=G.T then none else G.hb.get? a)=some o:=e
    split at e
    ·first | exact nS e | exact nB e | cases e
    ·rw [← hs] at e; exact hkeep _ _ e
   ·show (if a=G.T then none else G.hb.get? a)=some o
    rw [LU q]; exact e
   ·refine ⟨⟨_,_,hns,hcell,fun i w e=>?_⟩,⟨big hfresh,(fun _ _ e=>nomatch e),notT hfresh⟩,fun _ x c e=>⟨big (cbig e),(fun _ _ e=>nomatch e),Mr (habove _ _ (mem_of_lookup e)),notT (cbig e)⟩,fun w=>absurd (by rw [he']; rfl) w,hapart⟩
    rw [ax] at e
    split at e
    ·rename_i q
     subst q
     cases e
     refine ⟨x,.local,val,by rw [he']; show fd.scope.names[0]?=_; rw [← hnm]; exact hx,W,.inl ⟨rfl,eu (by rw [he']; exact hl) (by simp) (by simp)⟩⟩
    ·first | exact nS e | exact nB e | cases e
  have hE:EOk sc env':=by
   refine ⟨by rw [he']; exact hnm.symm,by rw [he']; exact hkd,by rw [he']; rfl,by rw [he']; rfl,hnd,fun _=>by rw [he']; rfl,fun x hx=>?_,fun h=>by rw [he']; exact ⟨(hcs h).1,(hcs h).2.symm⟩⟩
   rw [eC]
   rw [hnm] at hx
   exact cz _ _ _ _ (.inl hx)
  have hA:AOk lv (A.deeper env'):=ha.up 1 3 rfl rfl rfl (by decide) (by decide)
  have hno:s.heap.NoLimit:=by rw [hs]; exact ok.nolimit
  refine ⟨hno.keeps hkeep,codeAny_func ?_⟩
  refine LF (hb ⟨[(0,v)],[],0⟩ _ hd (A.deeper env') env' _ _ hA hE R2) (fun fl s3 y_=>?_) fun _ _ z=>z.elim
  apply bc;intro z_
  obtain ⟨fv,σ3,X3,q3,L3,n3,R3,W3⟩:=y_
  apply z_;clear z_
  cases W3 with
  | next=>exact k _ _ _ _ _ _ q3 L3 R3 .non
  | brk=>exact k _ _ _ _ _ _ q3 L3 R3 .non
  | cont=>exact k _ _ _ _ _ _ q3 L3 R3 .non
  | ret v val W=>exact k _ _ _ _ _ _ q3 L3 R3 W
noncomputable def ni:List V→Option (List (List Nat))
 | []=>some []
 | .str s::r=>(match ni r with
  | some ss=>some (s::ss)
  | none=>none)
 | _::_=>none
set_option tactic.hygienic true in
theorem nj:∀ {vs:List V} {ss:List (List Nat)},ni vs=some ss→vs=ss.map V.str
 | [],ss,h=>by cases h; rfl
 | v::r,ss,h=>by
  cases v <;> first | (cases h; done) | skip
  rename_i s
  unfold ni at h
  cases q:ni r with
  | none=>rw [q] at h; first | exact nS h | exact nB h | cases h
  | some t=>rw [q] at h; cases h; rw [nj q]; rfl
noncomputable def vX (i:Nat) (σ:St) (k:St→Prop):Prop:=match aq i σ.lo with
 | some (.loc l)=>(match aq l σ.st with
  | some (.list vs)=>(match ni vs with
   | some ss=>k {σ with st:=fq l (.wds ss) σ.st}
   | none=>False)
  | _=>False)
 | _=>False
set_option tactic.hygienic true in
theorem Hx {b:PySem.Stmt} {d:DS} (i:Nat) (h:SS G lv sc b d):SS G lv sc b (fun σ Q=>vX i σ fun σ'=>d σ' Q):=fun σ Q hd A env X s ha he R=>by
 have hd:vX i σ fun σ'=>d σ' Q:=hd
 unfold vX at hd
 split at hd
 ·rename_i l _
  split at hd
  ·rename_i vs hl
   split at hd
   ·rename_i ss hs
    have:=nj hs
    subst this
    exact h _ Q hd A env X s ha he (R.retype (o':=.wds ss) hl fun r=>r)
   ·exact hd.elim
  ·exact hd.elim
 ·exact hd.elim
noncomputable def kz (ks:List Nat) (st:List (Nat×AO)):List (Nat×AO):=@List.rec (Nat×AO) (fun _=>List (Nat×AO)) [] (fun p _ ih=>@Bool.rec (fun _=>List (Nat×AO)) ih (p::ih) (@List.rec Nat (fun _=>Bool) false (fun k _ b=>@Bool.rec (fun _=>Bool) b true (Nat.beq p.1 k)) ks)) st
theorem gk {ks:List Nat} {l:Nat} {o:AO}:∀ {st:List (Nat×AO)},aq l (kz ks st)=some o→aq l st=some o∧@List.rec Nat (fun _=>Bool) false (fun k _ b=>@Bool.rec (fun _=>Bool) b true (Nat.beq l k)) ks=true
 | [],e=>by cases e
 | (j,q)::r,e=>by
  have e:aq l (@Bool.rec (fun _=>List (Nat×AO)) (kz ks r) ((j,q)::kz ks r) (@List.rec Nat (fun _=>Bool) false (fun k _ b=>@Bool.rec (fun _=>Bool) b true (Nat.beq j k)) ks))=some o:=e
  cases h:@List.rec Nat (fun _=>Bool) false (fun k _ b=>@Bool.rec (fun _=>Bool) b true (Nat.beq j k)) ks with
  | true=>
   rw [h] at e
   have e:aq l ((j,q)::kz ks r)=some o:=e
   rw [ax] at e ⊢
   by_cases w:l=j
   ·subst w; rw [LV rfl] at e ⊢; exact ⟨e,h⟩
   ·rw [LU w] at e ⊢; exact gk e
  | false=>
   rw [h] at e
   obtain ⟨e1,e2⟩:=gk e
   refine ⟨?_,e2⟩
   rw [ax,LU]; exact e1
   intro w; subst w; rw [h] at e2; cases e2
theorem Rel.less {st':List (Nat×AO)} (R:Rel G X env σ s) (hst:∀ l o,aq l st'=some o→aq l σ.st=some o):Rel G X env {σ with st:=st'} s:=by
 apply bc;intro z_
 obtain ⟨h1,h2,h3,h4,hb,h5,h6,h7,h8,h9,h10,h11⟩:=R
 apply z_;clear z_
 exact ⟨h1,h2,fun l o e=>h3 l o (hst _ _ e),fun l l' o o' e e'=>h4 l l' _ _ (hst _ _ e) (hst _ _ e'),fun l o e=>hb l o (hst _ _ e),fun l o e=>h5 l o (hst _ _ e),h6,
  h7.go .refl (LR _) rfl (fun _ _ _=>rfl) ⟨h7.freeL.1,fun l o e=>h7.freeL.2.1 l o (hst _ _ e)⟩ fun hf x c e=>⟨(h7.freeC hf x c e).1,fun l o e'=>(h7.freeC hf x c e).2.1 l o (hst _ _ e')⟩,h8,h9,h10,fun a o e=>let ⟨z1,z2,z3,r⟩:=h11 a o e; ⟨z1,z2,fun l o' e'=>z3 l o' (hst _ _ e'),r⟩⟩
theorem Bc {b:PySem.Stmt} {d:DS} (ks:List Nat) (h:SS G lv sc b d):SS G lv sc b (fun σ Q=>d {σ with st:=kz ks σ.st} Q):=fun σ Q hd A env X s ha he R=>
 h {σ with st:=kz ks σ.st} Q hd A env X s ha he (R.less fun l o e=>(gk e).1)
noncomputable def xt (ks:List Nat) (n:Nat):Bool:=@List.rec Nat (fun _=>Bool) false (fun k _ b=>@Bool.rec (fun _=>Bool) b true (Nat.beq n k)) ks
noncomputable def ku (ks:List Nat) (lo:List (Nat×V)):List (Nat×V):=@List.rec (Nat×V) (fun _=>List (Nat×V)) [] (fun p _ ih=>@Bool.rec (fun _=>List (Nat×V)) ih (p::ih) (xt ks p.1)) lo
theorem gj {ks:List Nat} {l:Nat} {o:V}:∀ {lo:List (Nat×V)},aq l (ku ks lo)=some o→aq l lo=some o∧xt ks l=true
 | [],e=>by cases e
 | (j,q)::r,e=>by
  have e:aq l (@Bool.rec (fun _=>List (Nat×V)) (ku ks r) ((j,q)::ku ks r) (xt ks j))=some o:=e
  cases h:xt ks j with
  | true=>
   rw [h] at e
   have e:aq l ((j,q)::ku ks r)=some o:=e
   rw [ax] at e ⊢
   by_cases w:l=j
   ·subst w; rw [LV rfl] at e ⊢; exact ⟨e,h⟩
   ·rw [LU w] at e ⊢; exact gj e
  | false=>
   rw [h] at e
   obtain ⟨e1,e2⟩:=gj e
   refine ⟨?_,e2⟩
   rw [ax,LU]; exact e1
   intro w; subst w; rw [h] at e2; cases e2
theorem Rel.lessL {lo':List (Nat×V)} (R:Rel G X env σ s) (hl:∀ i v,aq i lo'=some v→aq i σ.lo=some v):Rel G X env {σ with lo:=lo'} s:=by
 apply bc;intro z_
 obtain ⟨h1,h2,h3,h4,hb,h5,h6,⟨⟨m,cm,n1,n2,n3⟩,f1,f2,f3,f4⟩,h8,h9,h10,h11⟩:=R
 apply z_;clear z_
 exact ⟨h1,h2,h3,h4,hb,h5,h6,⟨⟨m,cm,n1,n2,fun i v e=>n3 i v (hl i v e)⟩,f1,f2,f3,f4⟩,h8,h9,h10,h11⟩
theorem wI {tg:Bool} {target iter:PySem.Expr} {body:List PySem.Stmt} {di:DI} {dt:DT} {db:DS} {p:Pos} (ks:List Nat) (N:Nat) (hi:SI G lv sc tg iter di) (htg:tg=true→ez target=true) (ht:ST G lv sc target dt) (hb:iQ G lv sc body db)
  (hs:∀ env x,foldedSetIterable iter env x=pure x) :
  SS G lv sc (.For target iter body [] p) (fun σ Q=>di σ fun cur σ1=>jy σ1.nx cur dt db N 0 {σ1 with lo:=ku ks σ1.lo} Q):=fun σ Q hd A env X s ha he R=>by
 refine wpAny_For (LF (hi σ _ hd A env X s ha he R) (fun x s1 h1=>LF h1 (fun it s2 h2=>?_) fun _ _ z=>z) fun _ _ z=>z) (hs env)
 obtain ⟨cur,σ1,X0,X1,S,I,k1,L0,L1,n1,R1,f1,i1,T⟩:=h2
 refine lw tF ha he T htg ht hb (fun f s' h=>?_) N 0 {σ1 with lo:=ku ks σ1.lo} X1 s2 k1 L1 (LR _) (R1.lessL fun i v e=>(gj e).1) f1 i1
 exact PostS.lift L0 n1 h
noncomputable def Lz:List Nat→List Nat→Bool
 | [],y=>(match y with | []=>false | _::_=>true)
 | a::r,y=>(match y with
  | []=>false
  | b::t=>(match Nat.ble (a+1) b with
   | true=>true
   | false=>and (Nat.beq a b) (Lz r t)))
noncomputable def sS (i:Int):Option (List Nat):=match i with
 | .ofNat n=>(match Nat.ble n 9 with
  | true=>some [48+n]
  | false=>none)
 | _=>none
set_option tactic.hygienic true in
theorem sT {i:Int} {x:List Nat} (h:sS i=some x):Str.ofString (toString i)=⟨x.toArray⟩∧i.natAbs.log2<1920∧x.length≤1000000:=by
 unfold sS at h
 split at h
 ·rename_i n
  split at h
  ·rename_i q
   cases h
   have:∀ n<10,Str.ofString (toString (Int.ofNat n))=⟨[48+n].toArray⟩∧(Int.ofNat n).natAbs.log2<1920:=by decide +kernel
   have q:=LP q
   obtain ⟨h1,h2⟩:=this n (Nat.lt_succ_of_le q)
   exact ⟨h1,h2,Nat.succ_le_of_lt (Nat.succ_pos _)⟩
  ·first | exact nS h | exact nB h | cases h
 ·first | exact nS h | exact nB h | cases h
noncomputable def H3 (v:V) (σ:St) (Q:List Nat→St→Prop):Prop:=bD v fun i=>onS (sS i) fun x=>Q x σ
noncomputable def Am (v:V) (σ:St):Option Nat:=match v with
 | .loc l=>(match aq l σ.st with
  | some (.dict kvs)=>some kvs.length
  | _=>none)
 | _=>none
noncomputable def Ir (vs:List V) (σ:St) (Q:V→St→Prop):Prop:=mE vs fun v=>onS (Am v σ) fun n=>fits n (Q (.int n) σ)
theorem Ht {e:PySem.Expr} {d:DE} {p:Pos} {es:List PySem.Expr} {ds:A1} (h:SE G lv sc e d) (hs:wj G lv sc es ds) (hev:∀ env,evalEach (.FormattedValue e (-1) none p::es) env=eval (.FormattedValue e (-1) none p) env::evalEach es env) :
  wj G lv sc (.FormattedValue e (-1) none p::es) (fun σ Q=>d σ fun v σ1=>H3 v σ1 fun x σ2=>ds σ2 fun y σ3=>Q (x++y) σ3):=
 nr (d:=fun σ Q=>d σ fun v σ1=>H3 v σ1 Q) (fun σ Q hd A env X s ha he R=>by
  refine wpAny_FormattedValue_plain (h.run hd ha he R fun val s1 v σ1 X1 k1 L1 n1 R1 W1=>?_)
  refine W1.int_ k1 fun i t k1=>?_
  apply bc;intro z_
  obtain ⟨x,q,k1⟩:=onS.out k1
  obtain ⟨h1,h2,h3⟩:=sT q
  apply z_;clear z_
  exact wpAny_formatField_int h2 (h1.symm ▸ ⟨x,_,σ1,X1,rfl,h3,k1,L1,n1,R1.toks _⟩)) hs hev
set_option tactic.hygienic true in
theorem AY:CB G lv (.builtin "len") [] (fun vs _=>Ir vs):=CB.of (fun a w=>by cases w) fun vs σ Q hd A env X s vals ha R W=>by
 refine W.on1_ hd fun v val Wv hd=>?_
 apply bc;intro z_
 obtain ⟨m,e,hd⟩:=onS.out hd
 obtain ⟨hz,q⟩:=fits.out hd
 apply z_;clear z_
 cases v with
 | loc l=>
  cases (Wv.inv:val=.ref (X.ρ l))
  unfold Am at e
  dsimp only at e
  split at e
  ·rename_i kvs q1
   cases e
   apply bc;intro z_
   obtain ⟨_,kvals,h1,h2⟩:=R.st l _ q1
   apply z_;clear z_
   have hlen:=fH h2
   exact call_len_dict (eT R q1) h1 (by rw [hlen]; omega) (hlen.symm ▸ Post.ret q (R.toks _) (.int _ _))
  ·first | exact nS e | exact nB e | cases e
 | _=>first | exact nS e | exact nB e | cases e
noncomputable def vJ (vs:List V) (σ:St) (Q:V→St→Prop):Prop:=mE vs fun u=>il u σ fun l xs=>onT (Nat.ble xs.length 1) (Q .non (f0 l (.list xs) σ))
noncomputable def KE:List Nat→List Nat→Bool
 | [],_=>true
 | _::_,[]=>false
 | a::p,b::x=>(match Nat.beq a b with
  | true=>KE p x
  | false=>false)
noncomputable def qF (c:Nat):List Nat→Option (List Nat×List Nat)
 | []=>none
 | a::r=>(match qF c r with
  | some p=>some (a::p.1,p.2)
  | none=>(match Nat.beq a c with
   | true=>some ([],r)
   | false=>none))
theorem kg {c:Nat}:∀ {x:List Nat},(match qF c x with
  | some p=>x=p.1++c::p.2∧c ∉ p.2
  | none=>c ∉ x)
 | []=>by simp [qF]
 | a::r=>by
  have ih:=kg (c:=c) (x:=r)
  unfold qF
  cases q:qF c r with
  | some p=>rw [q] at ih; dsimp only at ih ⊢; exact ⟨by rw [ih.1]; rfl,ih.2⟩
  | none=>
   rw [q] at ih
   dsimp only at ih ⊢
   cases h:Nat.beq a c with
   | true=>cases L8 h; exact ⟨rfl,ih⟩
   | false=>
    have:=Nat.ne_of_beq_eq_false h
    simp only [List.mem_cons,not_or]
    exact ⟨fun w=>this w.symm,ih⟩
noncomputable def qe (vs:List V) (σ:St) (Q:V→St→Prop):Prop:=IH vs fun v w u=>cE v fun x=>cE w fun y=>oneC y fun c=>bD u fun i=>oneI i (fits x.length (onS (qF c x) fun p=>Q (.fro [.str p.1,.str p.2]) σ))
theorem kE (s sub:Str):∀ (l:List Nat) (st:Array Nat×Nat),st.fst.size=1→(forIn l st (StrLaws.occRBody s sub 1)).run.fst=st.fst
 | [],st,h=>rfl
 | a::l,st,h=>by
  rw [List.forIn_cons]
  unfold StrLaws.occRBody
  rw [LU (fun w=>by have:=w.1.1; omega)]
  exact kE s sub l _ h
theorem uH {p q:List Nat} {c:Nat} (hq:c ∉ q):Builtin.Str.occurrencesFromRight ⟨(p++c::q).toArray⟩ ⟨[c].toArray⟩ 1=[p.length]:=by
 rw [StrLaws.occR_eq]
 have hlen:(⟨(p++c::q).toArray⟩:Str).length=p.length+(q.length+1):=by show (p++c::q).toArray.size=_; simp
 rw [hlen]
 have key:∀ (m k:Nat),k≤q.length+1→k+m=p.length+(q.length+1)+1 →
   (forIn (List.range' k m) ((#[]:Array Nat),p.length+(q.length+1)) (StrLaws.occRBody ⟨(p++c::q).toArray⟩ ⟨[c].toArray⟩ 1)).run.fst=#[p.length]:=by
  intro m
  induction m with
  | zero=>intro k h1 h2; have h2:k=_:=h2; rw [h2] at h1; exact absurd (LN (Nat.succ_le_succ (Nat.le_add_left _ p.length)) h1) (Nat.not_succ_le_self _)
  | succ m ih=>
   intro k h1 h2
   have hone:=StrLaws.subAt_one ⟨(p++c::q).toArray⟩ c (p.length+(q.length+1) - k)
   rw [hlen] at hone
   rw [List.range'_succ,List.forIn_cons]
   by_cases hk:k=q.length+1
   ·subst hk
    have e:p.length+(q.length+1) - (q.length+1)=p.length:=Nat.add_sub_cancel ..
    rw [e] at hone
    have h:=hone.mpr (by show (p++c::q).toArray.toList[p.length]?=some c; simp)
    have hb:StrLaws.occRBody ⟨(p++c::q).toArray⟩ ⟨[c].toArray⟩ 1 (q.length+1) (#[],p.length+(q.length+1))=pure (ForInStep.yield (#[p.length],p.length)):=by
     unfold StrLaws.occRBody
     rw [hlen,e]
     exact LV ⟨⟨Nat.zero_lt_one,h.1⟩,h.2⟩
    rw [hb]
    exact kE _ _ _ _ rfl
   ·have hb:StrLaws.occRBody ⟨(p++c::q).toArray⟩ ⟨[c].toArray⟩ 1 k (#[],p.length+(q.length+1))=pure (ForInStep.yield (#[],p.length+(q.length+1))):=by
     unfold StrLaws.occRBody
     rw [hlen]
     refine LU fun w=>?_
     have h:=hone.mp ⟨w.1.2,w.2⟩
     have h:(p++c::q)[p.length+(q.length+1) - k]?=some c:=by simpa using h
     rw [List.getElem?_append_right (Nat.le_sub_of_add_le (Nat.add_le_add_left h1 _))] at h
     have e:p.length+(q.length+1) - k - p.length=(q.length - k)+1:=by rw [Nat.sub_right_comm,Nat.add_sub_cancel_left]; exact Nat.succ_sub (Nat.le_of_lt_succ (Nat.lt_of_le_of_ne h1 hk))
     rw [e,List.getElem?_cons_succ] at h
     exact hq (Mh h)
    rw [hb]
    exact ih (k+1) (Nat.lt_of_le_of_ne h1 hk) ((Nat.add_right_comm k 1 m).trans h2)
 rw [key _ 0 (Mm _) (by omega)]
 rfl
set_option tactic.hygienic true in
theorem tX {p q:List Nat} {c:Nat} (h1:(decide ((⟨(p++c::q).toArray⟩:Str).length<(⟨[c].toArray⟩:Str).length) || decide (Builtin.Str.strKind ⟨(p++c::q).toArray⟩<Builtin.Str.strKind ⟨[c].toArray⟩))=true):False:=by
 rw [Bool.or_eq_true,decide_eq_true_eq,decide_eq_true_eq] at h1
 rcases h1 with h1 | h1
 ·simp [Str.length] at h1
 ·have:∀ k:Nat,((⟨(p++c::q).toArray⟩:Str).cps.all (·<k))=true→((⟨[c].toArray⟩:Str).cps.all (·<k))=true:=fun k h=>by
   simp at h ⊢; exact h.2.1
  unfold Builtin.Str.strKind at h1
  have h256:=this 256
  have h65:=this 65536
  split at h1
  ·rename_i z; rw [LV (h256 z)] at h1; omega
  ·split at h1
   ·rename_i z; split at h1
    ·omega
    ·rw [LV (h65 z)] at h1; omega
   ·split at h1
    ·omega
    ·split at h1 <;> omega
theorem rF (ok:G.Ok):CB G lv (.builtin "str.rsplit") [] (fun vs _=>qe vs):=CB.of (fun a w=>by cases w) fun vs σ Q hd A env X s vals ha R W=>by
 refine W.on3_ hd fun v w z val val' val'' Wv Ww Wz hd=>Wv.str_ hd fun x t hd=>Ww.str_ hd fun y u hd=>?_
 apply bc;intro z_
 obtain ⟨c,rfl,hd⟩:=oneC.out hd
 apply z_;clear z_
 refine Wz.int_ hd fun i j hd=>?_
 apply bc;intro z_
 obtain ⟨rfl,hd⟩:=oneI.out hd
 obtain ⟨hz,hd⟩:=fits.out hd
 obtain ⟨⟨p,q⟩,e,hd2⟩:=onS.out hd
 have hs:=kg (c:=c) (x:=x)
 rw [e] at hs
 obtain ⟨rfl,hq⟩:=hs
 apply z_;clear z_
 dsimp only at hq hd2 hz ⊢
 have hk:(decide (Int.ofNat 1 < -(2 ^ 63:Int)) || decide (Int.ofNat 1 ≥ 2 ^ 63))=false:=by decide
 have el:limitOf ⟨(p++c::q).toArray⟩ (Int.ofNat 1)=1:=rfl
 have ho:=uH (p:=p) hq
 have hparts:Builtin.Str.partsBetween ⟨(p++c::q).toArray⟩ [p.length] (⟨[c].toArray⟩:Str).length=[⟨p.toArray⟩,⟨q.toArray⟩]:=by
  unfold Builtin.Str.partsBetween Builtin.Str.strSub
  simp [Str.length]
  exact List.take_of_length_le (by omega)
 cases h1:(decide ((⟨(p++c::q).toArray⟩:Str).length<(⟨[c].toArray⟩:Str).length) || decide (Builtin.Str.strKind ⟨(p++c::q).toArray⟩<Builtin.Str.strKind ⟨[c].toArray⟩)) with
 | true=>exact (tX h1).elim
 | false=>
  refine call_meets PySem.F.slot_str_rsplit (typeIs_str _ _ _) PySem.F.entry_str_rsplit (PySem.F.args_str_rsplit_3 _ _ _) (meets_str_rsplit_sep_max _ _ _ _ _ _ hk h1 rfl (by rw [el,ho]; rfl) (by rw [bK,L6]; omega) (by rw [el,ho,hparts,L6]; exact LP rfl)) ?_
  rw [el,ho,hparts,strsFrom_eq]
  exact Post.newList ok hd2 R (fN [p,q] _ (numbered_texts _ _))
theorem rZ {o:PySem.Expr} {do_:DE} (ok:G.Ok) (ho:SE G lv sc o do_):SM G lv sc o "rsplit" [] (jF .str (fun vs _=>qe vs) do_):=ci (T:=.str) ho PySem.F.plainAttrs_str PySem.F.slot_str_rsplit (by show builtinType _=_; rw [Md]; kernel_rfl) (rF ok)
theorem vL {a:Addr} {vs:List Value} {n:Nat} {P:PySem.Fin→Shared→Prop} {E:Value→Shared→Prop} (ho:s.heap.get? a=some (seqObj "list" vs.toArray n)) (h2:vs.length≤1)
  (h:∀ h' e,h'.get? a=some (seqObj "list" vs.toArray e)→(∀ b,b≠a→∀ o,s.heap.get? b=some o→h'.get? b=some o)→P (.done (.ret .none)) {s with heap:=h'}) :
  wpAny (model G.prog G.w) A (Builtin.«list.sort» ⟨[.ref a],[]⟩) P E s:=by
 rw [list_sort_plain]
 have ha:a<s.heap.objs.size:=L7 ho
 have hz:vs.toArray.size≤sizeLine:=by rw [LW,L6]; omega
 refine LD (listItems_at ho rfl ?_)
 refine LD (listUpdate_at ho rfl ?_ hz)
 apply bc;intro z_
 obtain ⟨e1,ho1⟩:∃ e1,(s.heap.update a (Obj.mapSeq fun _=>#[])).get? a=some (seqObj "list" #[] e1):=⟨_,get?_update_seq ho (fun _=>#[])⟩
 apply z_;clear z_
 refine LD (seqEpoch_at ho1 rfl ?_)
 refine LD (wpAny_newTuple ?_ (by simpa using hz))
 refine LD (wpAny_newList ?_)
 refine LG ?_
 have ho6:(((s.heap.update a (Obj.mapSeq fun _=>#[])).push (seqObj "tuple" vs.toArray 0)).push (seqObj "list" #[] 0)).get? a=some (seqObj "list" #[] e1):=LM _ (LM _ ho1)
 show wpAny (model G.prog G.w) A _ P E {s with heap:=((s.heap.update a (Obj.mapSeq fun _=>#[])).push (seqObj "tuple" vs.toArray 0)).push (seqObj "list" #[] 0)}
 dsimp only
 have h3:vs.toArray.size<2:=by rw [LW]; omega
 rw [LV h3,LV h3]
 refine LD (LE ?_)
 rw [StateT.run_pure]
 refine LD (LE ?_)
 dsimp only
 have out:(arrOf (SortSt.mk' general' (vs.toArray.zip vs.toArray) #[] 7 none)).map (·.2)=vs.toArray:=by
  show (vs.toArray.zip vs.toArray).map (·.2)=_
  cases vs with
  | nil=>simp
  | cons v r=>cases r with
   | nil=>simp
   | cons=>simp at h2
 refine LD (seqEpoch_at ho6 rfl ?_)
 rw [out]
 refine LD (listUpdate_at ho6 rfl ?_ (by rw [L6]; exact Mm _) (hsz2:=Nat.le_succ_of_le hz))
 simp only [bne_self_eq_false,Bool.false_eq_true,if_false]
 refine LE (h _ _ (get?_update_seq ho6 fun _=>vs.toArray) fun b hb o e=>?_)
 rw [Mg _ _ (Ne.symm hb)]
 refine LM _ (LM _ ?_)
 rw [Mg _ _ (Ne.symm hb)]
 exact e
theorem wm:CB G lv (.builtin "list.sort") [] (fun vs _=>vJ vs):=CB.of (fun a w=>by cases w) fun vs σ Q hd A env X s vals ha R W=>by
 refine W.on1_ hd fun u val Wl hd=>gU R Wl hd fun l xs o items hl q h1 h2 h3 hd=>?_
 apply bc;intro z_
 obtain ⟨q1,hd⟩:=onT.out hd
 have hlen:=h3.length
 have hz:=LP q1
 obtain ⟨c,dct,dt,sl⟩:=o
 obtain ⟨g1,g2,⟨ep,g3⟩,g4⟩:=h2
 apply z_;clear z_
 dsimp only at g1 g2 g3 g4
 subst g1 g2 g3 g4
 refine LJ PySem.F.slot_list_sort ⟨_,h1,rfl⟩ PySem.F.entry_list_sort (vL h1 (by omega) fun h' e h4 h5=>?_) (PySem.F.args_list_sort_1 _)
 exact ⟨_,rfl,_,_,X,hd,.refl,LR _,R.upd (s':={s with heap:=h'}) (o:=.list xs) q h5 ⟨_,items,h4,⟨rfl,rfl,⟨_,rfl⟩,rfl⟩,h3⟩ rfl rfl R.gens,.non⟩
theorem wB {o:PySem.Expr} {do_:DE} (ho:SE G lv sc o do_):SM G lv sc o "sort" [] (jF .list (fun vs _=>vJ vs) do_):=ci (T:=.list) ho PySem.F.plainAttrs_list PySem.F.slot_list_sort (by show builtinType _=_; rw [Md]; kernel_rfl) wm
set_option tactic.hygienic true in
section
variable {prog:Program} {w:World} {A:Around} {E:Value→Shared→Prop} {s:Shared}
end
set_option tactic.hygienic true in
set_option tactic.hygienic true in
set_option tactic.hygienic true in
noncomputable def aH {α β:Type} (f:α→β) (l:List α):List β:=@List.rec α (fun _=>List β) [] (fun a _ ih=>f a::ih) l
noncomputable def aI {α β:Type} (f:α→β) (l:List α):List β:=@List.rec α (fun _=>List β) [] (fun a _ ih=>f a::ih) l
theorem aF {α β:Type} {f g:α→β} {l:List α}:aH f l=aI g l→∀ a∈l,f a=g a:=by
 induction l with
 | nil=>intro _ a h; cases h
 | cons b r ih=>
  intro e
  have e:f b::aH f r=g b::aI g r:=e
  injection e with e1 e2
  exact List.forall_mem_cons.mpr ⟨e1,ih e2⟩
noncomputable def KK (P:Params):Frag:=KH P
noncomputable def jJ:Program:=PySem.Challenge.pw_tp0065_01
noncomputable def P0:Params:=(aWorld 1).params
noncomputable def cT (P:Params) (a:Nat):Option FuncData:=match (KK P).lookup a with
 | some o=>(match o.data with
  | .func d=>some d
  | _=>none)
 | none=>none
noncomputable def bw (o:Option FuncData):List PySem.Stmt:=match o with
 | some d=>(match d.body with
  | .stmts b=>b
  | _=>[])
 | none=>[]
noncomputable def fm:List Str→Bool
 | []=>true
 | x::r=>!(r.contains x) && fm r
theorem aE:∀ {l:List Str},fm l=true→l.Nodup
 | [],_=>.nil
 | x::r,h=>by
  unfold fm at h
  rw [Bool.and_eq_true] at h
  refine List.nodup_cons.mpr ⟨?_,aE h.2⟩
  intro hm
  have:=List.contains_iff_mem.mpr hm
  rw [this] at h; cases h.1
noncomputable def sZ:List (Str×NameKind)→List (Str×NameKind)→Bool
 | [],[]=>true
 | (x,k)::r,(y,l)::t=>(x==y) && decide (k=l) && sZ r t
 | _,_=>false
theorem lg:∀ {a b:List (Str×NameKind)},sZ a b=true→a=b
 | [],[],_=>rfl
 | (x,k)::r,(y,l)::t,h=>by
  have h:((x==y) && decide (k=l) && sZ r t)=true:=h
  rw [Bool.and_eq_true,Bool.and_eq_true,decide_eq_true_eq] at h
  rw [beq_iff_eq.mp h.1.1,h.1.2,lg h.2]
 | [],_::_,h=>by cases h
 | _::_,[],h=>by cases h
noncomputable def iT (K:Frag) (d:FuncData):Bool:=match d.code with
 | .ref c=>(match K.lookup c with
  | some oc=>(match oc.data with
   | .fields vs=>(match (vs[1]?:Option Value) with
    | some (.str q _)=>q==d.qualname
    | _=>false)
   | _=>false)
  | none=>false)
 | _=>false
noncomputable def pT (b:FuncBody):Bool:=match b with | .stmts _=>true | _=>false
noncomputable def sL (v:Value) (c:Nat):Bool:=match v with | .ref a=>Nat.beq a c | _=>false
noncomputable def Aq (K:Frag) (d:FuncData) (names:List (Str×NameKind)) (cd:Nat) (qual:Str):Bool:=
 sL d.code cd && (qual==d.qualname++".<locals>.") && d.closure.isEmpty && Nat.beq d.globals mainGlobals && Nat.beq d.builtins builtinsNs && !d.scope.isCoroutine && !d.scope.isGenerator && decide (d.scope.kind=.function) && sZ names d.scope.names && fm (names.map (·.1)) && iT K d && pT d.body
noncomputable def tn (P:Params) (f:Nat) (names:List (Str×NameKind)) (cd:Nat) (qual:Str):Bool:=match cT P f with
 | some d=>Aq (KK P) d names cd qual
 | none=>false
noncomputable def dE (o:Option FuncData) (d0:FuncData):FuncData:=match o with | some d=>d | none=>d0
structure GA where
 w:World
 hb:Heap
 mb:Str→Option Value
 os:OsState
 drawn:Drawn
 gn:Array GenState→Prop
 hp:Addr→Option Obj
noncomputable def oC:Pos:=⟨296,71,296,96⟩
noncomputable def pV:Str:=Str.ofString "C14NWriterTarget._start.<locals>."++"<lambda>"
noncomputable def GO:(Addr→Option Obj)→Array Value→Prop:=fun F ps=>ps=#[]∨∃ c' o vs t,ps=#[rawInt oC.line,rawInt oC.col,.ref c']∧F c'=some o∧o.cls=.type "code"∧o.data=.fields vs∧vs[1]?=some (.str pV t)
noncomputable def J5:List Str:=(["raw","n","nt","norm","is_simple","longest_run_of_spaces","indent_level","less","_headers","_convert_string_type","get_all","add_header","_write","_data","_with_comments","_strip_text","_exclude_attrs","_exclude_tags","_rewrite_prefixes","_qname_aware_tags","_find_qname_aware_attrs","_declared_ns_stack","_ns_stack","_prefix_map","_preserve_space","_pending_start","_root_seen","_root_done","_ignored_depth","_iter_namespaces","_qname","_start","start","end","_flush"]:List String).map Str.ofString
noncomputable def Gk (g:GA):Glob:=⟨jJ,g.w,KK g.w.params,g.hb,344,g.mb,J5,g.os,g.drawn,GO,g.gn,g.hp⟩
set_option tactic.hygienic true in
theorem FnOk.of {g:GA} {f:Nat} {fd:FuncData} {names:List (Str×NameKind)} {cd:Nat} {qual:Str} (e:cT g.w.params f=some fd) (h:tn g.w.params f names cd qual=true):FnOk (Gk g) f fd (bw (some fd)) ⟨names,true,cd,qual⟩:=by
 unfold tn at h
 rw [e] at h
 dsimp only at h
 unfold Aq at h
 simp only [Bool.and_eq_true] at h
 obtain ⟨⟨⟨⟨⟨⟨⟨⟨⟨⟨⟨q1,q2⟩,h1⟩,h2⟩,h3⟩,h4⟩,h5⟩,h6⟩,h7⟩,h8⟩,h9⟩,h10⟩:=h
 have h7':=lg h7
 refine ⟨?_,?_,List.isEmpty_iff.mp h1,L8 h2,L8 h3,by simpa using h4,by simpa using h5,Mx h6,?_,h7',rfl,aE h8,fun _=>⟨?_,beq_iff_eq.mp q2⟩⟩
 ·unfold cT at e
  show ∃ o,(KK g.w.params).lookup f=some o∧_
  cases q:(KK g.w.params).lookup f with
  | none=>rw [q] at e; cases e
  | some o=>
   rw [q] at e
   dsimp only at e
   refine ⟨o,rfl,?_⟩
   split at e
   ·rename_i d hd; cases e; exact hd
   ·cases e
 ·unfold pT at h10
  unfold bw
  dsimp only
  split at h10
  ·rename_i b hb; rw [hb]
  ·cases h10
 ·unfold iT at h9
  split at h9
  ·rename_i c hc
   split at h9
   ·rename_i oc hoc
    split at h9
    ·rename_i vs hvs
     split at h9
     ·rename_i q t hq
      exact ⟨c,oc,vs,t,hc,hoc,hvs,by rw [hq,beq_iff_eq.mp h9]⟩
     ·cases h9
    ·cases h9
   ·cases h9
  ·cases h9
 ·unfold sL at q1
  split at q1
  ·rename_i a ha; rw [ha,L8 q1]
  ·cases q1
theorem eA {α:Type} {l:List α} (h:l.length=0):l=[]:=List.length_eq_zero_iff.mp h
theorem jt {α:Type} {l:List α} (h:l.length=1):∃ a,l=[a]:=by
 match l,h with | [a],_=>exact ⟨a,rfl⟩
theorem lt {α:Type} {l:List α} (h:l.length=2):∃ a b,l=[a,b]:=by
 match l,h with | [a,b],_=>exact ⟨a,b,rfl⟩
theorem Iq {α:Type} {l:List α} (h:l.length=3):∃ a b c,l=[a,b,c]:=by
 match l,h with | [a,b,c],_=>exact ⟨a,b,c,rfl⟩
theorem Kl {α:Type} {l:List α} (h:l.length=4):∃ a b c d,l=[a,b,c,d]:=by
 match l,h with | [a,b,c,d],_=>exact ⟨a,b,c,d,rfl⟩
noncomputable def tC (scope:Scope) (sc:Sc):List (Nat×Nat)→Bool
 | []=>true
 | (j,i)::r=>(match scope.names[j]? with
  | some p=>(match sc.names[i]? with
   | some q=>decide (p.2=.free) && (decide (q.2=.cell) && p.1==q.1)
   | none=>false)
  | none=>false) && tC scope sc r
noncomputable def pD (sc sc':Sc) (scope:Scope) (fv:List (Nat×Nat)):Bool:=
 decide (scope.kind=.function) && fm (scope.names.map (·.1)) && (scope.names.all fun p=>!decide (p.2=.cell)) && (scope.names.all fun p=>!decide (p.2=.free) || decide (sc.names.lookup p.1=some .cell)) &&
  sZ sc'.names (iq scope.names sc.names) && fm (sc'.names.map (·.1)) && !sc'.fn && sc.fn && Nat.beq sc'.code 0 && tC scope sc fv
theorem ma {scope:Scope} {sc:Sc}:∀ {fv:List (Nat×Nat)},tC scope sc fv=true→∀ p∈fv,∃ x,scope.names[p.1]?=some (x,NameKind.free)∧sc.names[p.2]?=some (x,NameKind.cell)
 | [],_,p,hp=>by cases hp
 | (j,i)::r,h,p,hp=>by
  have h:=Bool.and_eq_true_iff.mp h
  rcases List.mem_cons.mp hp with rfl | hp
  ·have h1:=h.1
   cases q1:scope.names[j]? with
   | none=>rw [q1] at h1; exact nB h1
   | some a=>
    cases q2:sc.names[i]? with
    | none=>rw [q1,q2] at h1; exact nB h1
    | some b=>
     rw [q1,q2] at h1
     have h1:=Bool.and_eq_true_iff.mp h1
     have h2:=Bool.and_eq_true_iff.mp h1.2
     obtain ⟨x,u⟩:=a
     obtain ⟨y,v⟩:=b
     cases Mx h1.1
     cases Mx h2.1
     cases beq_iff_eq.mp h2.2
     exact ⟨x,rfl,rfl⟩
  ·exact ma h.2 p hp
theorem CompOk.of {sc sc':Sc} {scope:Scope} {fv:List (Nat×Nat)} (h:pD sc sc' scope fv=true):CompOk sc sc' scope fv:=by
 unfold pD at h
 simp only [Bool.and_eq_true] at h
 obtain ⟨⟨⟨⟨⟨⟨⟨⟨⟨h1,h2⟩,h3⟩,h4⟩,h5⟩,h6⟩,h7⟩,h8⟩,hc⟩,h9⟩:=h
 refine ⟨Mx h1,aE h2,?_,?_,lg h5,aE h6,by simpa using h7,L8 hc,h8,ma h9⟩
 ·intro x hx
  have:=List.all_eq_true.mp h3 x hx
  simpa using this
 ·intro x hx
  have:=List.all_eq_true.mp h4 _ hx
  simpa using this
noncomputable def ud:List (List Nat):=[[98,97],[98,98],[98,99],[98,100],[98,101],[98,102],[98,103],[98,104],[98,105]]
noncomputable def i6:List (List Nat):=[[66,65],[66,66],[66,67],[66,68],[66,69],[66,70],[66,71],[66,72],[66,73]]
noncomputable def cX:List (List Nat):=[]::(i6++ud)
theorem yL (P:Params):∀ a∈[48,53],∀ x∈cX,∀ t,peek (KK P) ⟨jJ,P⟩ (Builtin.«re.Pattern.search» ⟨[.ref a,.str ⟨x.toArray⟩ t],[]⟩)=some (.done (.ret .none)):=fun a ha x hx t=>
 aF (f:=fun x:List Nat=>peek (KK P) ⟨jJ,P⟩ (Builtin.«re.Pattern.search» ⟨[.ref a,.str ⟨x.toArray⟩ t],[]⟩)) (g:=fun _=>some (.done (.ret .none))) (l:=cX)
  (aF (f:=fun a:Nat=>aH (fun x:List Nat=>peek (KK P) ⟨jJ,P⟩ (Builtin.«re.Pattern.search» ⟨[.ref a,.str ⟨x.toArray⟩ t],[]⟩)) cX) (g:=fun _=>aI (fun _=>some (.done (.ret .none))) cX) (l:=[48,53]) (by kernel_rfl) a ha) x hx
theorem I1 (g:GA):ReOk (Gk g) [48,53] cX where
 obj:=by
  intro a ha
  simp only [List.mem_cons,List.not_mem_nil,or_false] at ha
  rcases ha with rfl | rfl
  ·exact mm (K:=KK g.w.params) (by kernel_rfl)
  ·exact mm (K:=KK g.w.params) (by kernel_rfl)
 none:=yL g.w.params
theorem uF (P:Params):fm ((fG (nK (KK P) 265)).map (·.1))=true:=by kernel_rfl
theorem uE (P:Params):(KK P).lookup 265=some ⟨.type "dict",none,.dict (nK (KK P) 265).toArray (HX (KK P) 265),#[]⟩:=by kernel_rfl
theorem uG {g:GA} (h:Heap) (X:(KK g.w.params).In h):h.DictOf (PySem.strKind jJ g.w) 265 (fG (nK (KK g.w.params) 265)):=
 sQ X (uE _) (by refine ⟨⟨_,_,rfl,rfl⟩,⟨_,_,rfl,rfl⟩,⟨_,_,rfl,rfl⟩,⟨_,_,rfl,rfl⟩,⟨_,_,rfl,rfl⟩,⟨_,_,rfl,rfl⟩,⟨_,_,rfl,rfl⟩,trivial⟩) (aE (uF _))
noncomputable def Ar (K:Frag) (c T:Nat):Bool:=match K.lookup c with
 | some o=>(o.cls==.type "code") && (match o.data with
  | .fields vs=>(match (vs[11]?:Option Value) with
   | some (.ref P)=>Nat.beq P T
   | _=>false) && (match vs.getD 18 .none with | .str _ _=>true | _=>false) && (match vs.getD 7 .none with | .int _ _=>true | _=>false) && (match vs.getD 9 .none with | .bool _=>true | _=>false) && (match vs.getD 10 .none with | .int _ _=>true | _=>false) && !Nat.beq c T
  | _=>false)
 | none=>false
set_option tactic.hygienic true in
theorem tJ {K:Frag} {c T:Nat} (h:Ar K c T=true) (h':Heap) (X:K.In h'):CodeHd h' c T:=by
 unfold Ar at h
 split at h
 ·rename_i o ho
  rw [Bool.and_eq_true] at h
  obtain ⟨h0,h⟩:=h
  split at h
  ·rename_i vs hvs
   simp only [Bool.and_eq_true] at h
   obtain ⟨⟨⟨⟨⟨h1,h2⟩,h3⟩,h4⟩,h5⟩,h6⟩:=h
   split at h1
   ·rename_i P hP
    cases L8 h1
    split at h2
    ·rename_i x t hx
     split at h3
     ·rename_i i3 t3 hx3
      split at h4
      ·rename_i b4 hx4
       split at h5
       ·rename_i i5 t5 hx5
        refine ⟨o,vs,x,t,i3,t3,b4,i5,t5,X _ _ ho,beq_iff_eq.mp h0,hvs,hP,?_,hx,hx3,hx4,hx5,?_⟩
        ·rw [Array.getD_eq_getD_getElem?,hP]; rfl
        ·intro w; rw [w] at h6; simp at h6
       ·cases h5
      ·cases h4
     ·cases h3
    ·cases h2
   ·cases h1
  ·cases h
 ·cases h
theorem t4 (g:GA):LamOk (Gk g) 346 oC pV where
 hC:=fun h X=>tJ (K:=KK g.w.params) (T:=344) (by kernel_rfl) h X
 out:=fun F ps h=>h
 in_:=fun F c' o vs t h1 h2 h3 h4=>.inr ⟨c',o,vs,t,rfl,h1,h2,h3,h4⟩
noncomputable def qS (l:List (Str×NameKind)) (x:Str):Bool:=match l.lookup x with | some .local=>true | _=>false
set_option tactic.hygienic true in
theorem iY {l:List (Str×NameKind)} {x:Str} (h:qS l x=true):l.lookup x=some .local:=by
 unfold qS at h
 split at h
 ·rename_i e; exact e
 ·cases h
noncomputable def tG (K:Frag) (d:FuncData) (x0 xn xr xs:Str):Bool:=
 d.closure.isEmpty && Nat.beq d.globals mainGlobals && Nat.beq d.builtins builtinsNs && !d.scope.isCoroutine && d.scope.isGenerator && decide (d.scope.kind=.function) && iT K d && qS d.scope.names x0 && qS d.scope.names xn && qS d.scope.names xr && qS d.scope.names xs && fm [x0,xs,xr]
noncomputable def pP (P:Params) (f:Nat) (x0 xn xr xs:Str):Bool:=match cT P f with
 | some d=>tG (KK P) d x0 xn xr xs
 | none=>false
set_option tactic.hygienic true in
theorem GenFn.of {g:GA} {f:Nat} {fd:FuncData} {x0 xn xr xs:Str} {p1 p2 p3 p4 p5 p6 p7 p8 p9 p10:Pos} (e:cT g.w.params f=some fd) (h:pP g.w.params f x0 xn xr xs=true) (hbody:fd.body=.stmts (ln xn xr xs p1 p2 p3 p4 p5 p6 p7 p8 p9 p10))
  (dn:cS xn) (dr:cS xr) (ds:cS xs) (hb:∀ sv av,peek (KK g.w.params) ⟨jJ,g.w.params⟩ (bindArgs fd ⟨[sv,av],[]⟩)=some [(x0,sv),(xs,av),(xr,.type "reversed")]):GenFn (Gk g) f fd x0 xn xr xs p1 p2 p3 p4 p5 p6 p7 p8 p9 p10:=by
 unfold pP at h
 rw [e] at h
 dsimp only at h
 unfold tG at h
 simp only [Bool.and_eq_true] at h
 obtain ⟨⟨⟨⟨⟨⟨⟨⟨⟨⟨⟨h1,h2⟩,h3⟩,h4⟩,h5⟩,h6⟩,h9⟩,k0⟩,kn⟩,kr⟩,ks⟩,nd⟩:=h
 refine ⟨?_,hbody,List.isEmpty_iff.mp h1,L8 h2,L8 h3,by simpa using h4,h5,Mx h6,?_,iY k0,iY kn,iY kr,iY ks,dn,dr,ds,aE nd,fun h sv av X=>Looks.of_peek (K:=KK g.w.params) X (hb sv av)⟩
 ·unfold cT at e
  show ∃ o,(KK g.w.params).lookup f=some o∧_
  cases q:(KK g.w.params).lookup f with
  | none=>rw [q] at e; cases e
  | some o=>
   rw [q] at e
   dsimp only at e
   refine ⟨o,rfl,?_⟩
   split at e
   ·rename_i d hd; cases e; exact hd
   ·cases e
 ·unfold iT at h9
  split at h9
  ·rename_i c hc
   split at h9
   ·rename_i oc hoc
    split at h9
    ·rename_i vs hvs
     split at h9
     ·rename_i q t hq
      exact ⟨c,oc,vs,t,hc,hoc,hvs,by rw [hq,beq_iff_eq.mp h9]⟩
     ·cases h9
    ·cases h9
   ·cases h9
  ·cases h9
theorem qY {l:List (Str×NameKind)} (h:(l.all fun p=>!decide (p.2=.cell))=true):∀ p∈l,p.2≠.cell:=fun p hp=>by
 have:=List.all_eq_true.mp h p hp
 simpa using this
noncomputable def Jk (s:PySem.Stmt):List PySem.Stmt×List PySem.Stmt:=match s with
 | .If _ b o _=>(b,o)
 | .While _ b _ _=>(b,[])
 | .For _ _ b _ _=>(b,[])
 | .Try b _ _ _ _=>(b,[])
 | _=>([],[])
noncomputable def aR (b:List PySem.Stmt) (k:Nat):List PySem.Stmt:=(Jk (af b k)).1
noncomputable def bt (s:PySem.Stmt):List PySem.Stmt:=(Jk s).1
noncomputable def gg (s:PySem.Stmt):List PySem.Stmt:=(Jk s).2
noncomputable def GZ (s:PySem.Stmt):List PySem.Stmt:=(Jk s).1
noncomputable def ca (s:PySem.Stmt):List PySem.Stmt:=(Jk s).1
noncomputable def mC (l e:List PySem.Stmt):Nat→Nat→List PySem.Stmt
 | _,0=>e
 | i,n+1=>af l i::mC l e (i+1) n
theorem aP {G:Glob} {lv:Nat} {sc:Sc} {l:List PySem.Stmt} {n:Nat} {d:DS} (e:l=mC l [] 0 n) (h:iQ G lv sc (mC l [] 0 n) d):iQ G lv sc l d:=e.symm ▸ h
theorem Hz {G:Glob} {lv:Nat} {sc:Sc} {l:List PySem.Stmt} {n:Nat} {d:DS} (e:l=mC l (l.drop n) 0 n) (h:iQ G lv sc (mC l (l.drop n) 0 n) d):iQ G lv sc l d:=e.symm ▸ h
structure Bare (g:GA):Prop where
 gn:g.gn=AllBare
noncomputable abbrev aD (lv:Nat) (sc:Sc) (b:PySem.Stmt):=(d:DS) ×' (∀ g:GA,(Gk g).Ok→Bare g→SS (Gk g) lv sc b d)
noncomputable abbrev G6 (lv:Nat) (sc:Sc) (b:PySem.Stmt):=(d:DS) ×' (∀ g:GA,(Gk g).Ok→SS (Gk g) lv sc b d)
noncomputable abbrev Aa (lv:Nat) (sc:Sc) (b:List PySem.Stmt):=(d:DS) ×' (∀ g:GA,(Gk g).Ok→Bare g→iQ (Gk g) lv sc b d)
theorem aG {lv:Nat} {sc:Sc} {b:PySem.Stmt} (q:aD lv sc b) (g:GA) (ok:(Gk g).Ok) (ba:Bare g):SS (Gk g) lv sc b q.1:=q.2 g ok ba
theorem IN {lv:Nat} {sc:Sc} {b:PySem.Stmt} (q:G6 lv sc b) (g:GA) (ok:(Gk g).Ok):SS (Gk g) lv sc b q.1:=q.2 g ok
theorem Hb {lv:Nat} {sc:Sc} {b:List PySem.Stmt} (q:Aa lv sc b) (g:GA) (ok:(Gk g).Ok) (ba:Bare g):iQ (Gk g) lv sc b q.1:=q.2 g ok ba
theorem me {lv:Nat} {sc:Sc} {body:List PySem.Stmt} {db:DS} (g:GA) (ok:(Gk g).Ok) (h:∀ (g:GA) (ok:(Gk g).Ok),iQ (Gk g) lv sc body db):∀ gn hp,iQ ((Gk g).pv gn hp) lv sc body db:=
 fun gn hp=>h {g with gn:=gn,hp:=hp} (ok.pv gn hp)
theorem mf {lv:Nat} {sc:Sc} {t:PySem.Expr} {dt:DT} (g:GA) (ok:(Gk g).Ok) (h:∀ (g:GA) (ok:(Gk g).Ok),ST (Gk g) lv sc t dt):∀ gn hp,ST ((Gk g).pv gn hp) lv sc t dt:=
 fun gn hp=>h {g with gn:=gn,hp:=hp} (ok.pv gn hp)
noncomputable abbrev tS (x:String):Str:=Str.ofString x
noncomputable def Dd:List (Str×NameKind):=[((tS "num"),.local),((tS "val"),.local),((tS "AP"),.local),((tS "mod"),.local),((tS "int"),.globalImplicit),((tS "abs"),.globalImplicit),((tS "divmod"),.globalImplicit)]
noncomputable def eP:Sc:=⟨Dd,true,192,(tS "Int2AP.<locals>.")⟩
theorem fj:NamesOk eP:=by unfold NamesOk; kernel_rfl
noncomputable def nP:FuncData:=dE (cT P0 193) default
noncomputable def gB:List PySem.Stmt:=bw (some nP)
noncomputable abbrev oJ:=af gB
theorem DG (g:GA):FnOk (Gk g) 193 nP gB eP:=FnOk.of (by kernel_rfl) (by kernel_rfl)
noncomputable def El:aD 0 eP (oJ 0):=⟨_,fun g ok ba=>(@ad _ _ _ _ _ _ _ _ z8 (@am _ _ _ _ _ (@aj _ _ _ 1 _ _ _ rfl (.inl rfl)) (fun _=>rfl)) (fun _=>rfl) (fun _ _=>rfl))⟩
noncomputable def Em:aD 0 eP (oJ 1):=⟨_,fun g ok ba=>(@ad _ _ _ _ _ _ _ _ z8 (@am _ _ _ _ _ (@aj _ _ _ 2 _ _ _ rfl (.inl rfl)) (fun _=>rfl)) (fun _=>rfl) (fun _ _=>rfl))⟩
theorem Lw (g:GA):Bltin (Gk g) (tS "abs") (.builtin "abs"):=⟨by kernel_rfl,by decide,PyProof.Rows.Boot.«abs»,by kernel_rfl⟩
theorem Li (g:GA):Bltin (Gk g) (tS "int") (.type "int"):=⟨by kernel_rfl,by decide,PyProof.Rows.Boot.«int»,by kernel_rfl⟩
noncomputable def En:aD 0 eP (oJ 2):=⟨_,fun g ok ba=>(@ad _ _ _ _ _ _ _ _ (@aM _ _ _ _ _ _ _ _ _ _ _ _ (@aJ _ _ _ _ 4 _ _ _ _ ok rfl (Li g) zS) (@ac _ _ _ _ _ _ _ (@aM _ _ _ _ _ _ _ _ _ _ _ _ (@aJ _ _ _ _ 5 _ _ _ _ ok rfl (Lw g) He) (@ac _ _ _ _ _ _ _ (@aa _ _ _ 0 _ _ _ fj rfl rfl) ae (fun _ _=>rfl)) aw (fun _ _=>rfl) (fun _ _=>rfl) (fun _ _=>rfl)) ae (fun _ _=>rfl)) aw (fun _ _=>rfl) (fun _ _=>rfl) (fun _ _=>rfl)) (@am _ _ _ _ _ (@aj _ _ _ 0 _ _ _ rfl (.inl rfl)) (fun _=>rfl)) (fun _=>rfl) (fun _ _=>rfl))⟩
theorem Lx (g:GA):Bltin (Gk g) (tS "divmod") (.builtin "divmod"):=⟨by kernel_rfl,by decide,PyProof.Rows.Boot.«divmod»,by kernel_rfl⟩
noncomputable def Eo:aD 0 eP (af (GZ (oJ 3)) 0):=⟨_,fun g ok ba=>(@ad _ _ _ _ _ _ _ _ (@aM _ _ _ _ _ _ _ _ _ _ _ _ (@aJ _ _ _ _ 6 _ _ _ _ ok rfl (Lx g) (rD ok)) (@ac _ _ _ _ _ _ _ (@aa _ _ _ 0 _ _ _ fj rfl rfl) (@ac _ _ _ _ _ _ _ ay ae (fun _ _=>rfl)) (fun _ _=>rfl)) aw (fun _ _=>rfl) (fun _ _=>rfl) (fun _ _=>rfl)) (@am _ _ _ _ _ (@bX _ _ _ _ _ _ _ (@aO _ _ _ _ _ _ _ (@aj _ _ _ 0 _ _ _ rfl (.inl rfl)) (@aO _ _ _ _ _ _ _ (@aj _ _ _ 3 _ _ _ rfl (.inl rfl)) cG (fun _=>rfl)) (fun _=>rfl)) (fun _=>rfl) (fun _=>rfl)) (fun _=>rfl)) (fun _=>rfl) (fun _ _=>rfl))⟩
noncomputable def Ep:aD 0 eP (af (GZ (oJ 3)) 1):=⟨_,fun g ok ba=>(@ad _ _ _ _ _ _ _ _ (@aQ _ _ _ _ _ _ _ _ _ ok (@bv _ _ _ _ _ _ _ _ _ _ _ ok (@aa _ _ _ 2 _ _ _ fj rfl rfl) (@bN _ _ _ _ _ (@aa _ _ _ 3 _ _ _ fj rfl rfl)) (@bN _ _ _ _ _ (@aQ _ _ _ _ _ _ _ _ _ ok (@aa _ _ _ 3 _ _ _ fj rfl rfl) ay))) (@aa _ _ _ 1 _ _ _ fj rfl rfl)) (@am _ _ _ _ _ (@aj _ _ _ 1 _ _ _ rfl (.inl rfl)) (fun _=>rfl)) (fun _=>rfl) (fun _ _=>rfl))⟩
noncomputable def Er:aD 0 eP (oJ 3):=⟨_,fun g ok ba=>(@kU _ _ _ _ _ _ _ _ 60 (@bo _ _ _ _ _ (@aa _ _ _ 0 _ _ _ fj rfl rfl) (fun _ _=>rfl)) (@aP _ _ _ (GZ (oJ 3)) 2 _ (by kernel_rfl) (@ab _ _ _ _ _ _ _ (@aG _ _ _ Eo g ok ba) (@ab _ _ _ _ _ _ _ (@aG _ _ _ Ep g ok ba) al))))⟩
noncomputable def uQ:(D:List V→List V→DE) ×' (∀ g:GA,(Gk g).Ok→Bare g→FN (Gk g) 1 193 [] D):=⟨_,fun g ok ba=>bf (lv:=0) (fd:=nP) (body:=gB) (sc:=eP) ok (DG g) (@aX _ _ _ _ 1 [(0,.pos 0)] [(tS "num")] ok rfl (bp rfl) (aE (by kernel_rfl)) (bV rfl) (fun h vals kvals X h1 h2=>by obtain ⟨u0,rfl⟩:=jt h1; obtain rfl:=eA h2; exact Looks.of_peek (K:=KK g.w.params) X (by kernel_rfl))) (@aP _ _ _ gB 5 _ (by kernel_rfl) (@ab _ _ _ _ _ _ _ (@aG _ _ _ El g ok ba) (@ab _ _ _ _ _ _ _ (@aG _ _ _ Em g ok ba) (@ab _ _ _ _ _ _ _ (@aG _ _ _ En g ok ba) (@ab _ _ _ _ _ _ _ (@aG _ _ _ Er g ok ba) (@ab _ _ _ _ _ _ _ (@aK _ _ _ _ _ _ (@aa _ _ _ 1 _ _ _ fj rfl rfl)) al))))))⟩
noncomputable def zU:List V→List V→DE:=uQ.1
theorem B9 (g:GA) (ok:(Gk g).Ok) (ba:Bare g):FN (Gk g) 1 193 [] zU:=uQ.2 g ok ba
theorem Co (g:GA) (ok:(Gk g).Ok) (ba:Bare g):FN (Gk g) 1 193 [] (cF zU):=FN.apart ba.gn fun hp=>B9 {g with gn:=AllBare,hp:=hp} (ok.pv AllBare hp) ⟨rfl⟩
noncomputable def Dn:List (Str×NameKind):=[((tS "number"),.local),((tS "Int2AP"),.globalImplicit)]
noncomputable def oX:Sc:=⟨Dn,true,395,(tS "_law_word.<locals>.")⟩
theorem Dw:NamesOk oX:=by unfold NamesOk; kernel_rfl
noncomputable def n6:FuncData:=dE (cT P0 396) default
noncomputable def jh:List PySem.Stmt:=bw (some n6)
noncomputable abbrev LA:=af jh
theorem DW (g:GA):FnOk (Gk g) 396 n6 jh oX:=FnOk.of (by kernel_rfl) (by kernel_rfl)
theorem LB:(tS "ascii")=(⟨([97,115,99,105,105]:List Nat).toArray⟩:Str):=by kernel_rfl
theorem Ka:cS (tS "Int2AP"):=by kernel_rfl
theorem Ly (P:Params):nsIn (KK P) mainGlobals (tS "Int2AP")=some (some (.ref 193)):=by kernel_rfl
noncomputable def u5:(D:List V→List V→DE) ×' (∀ g:GA,(Gk g).Ok→Bare g→FN (Gk g) 2 396 [] D):=⟨_,fun g ok ba=>bf (lv:=1) (fd:=n6) (body:=jh) (sc:=oX) ok (DW g) (@aX _ _ _ _ 1 [(0,.pos 0)] [(tS "number")] ok rfl (bp rfl) (aE (by kernel_rfl)) (bV rfl) (fun h vals kvals X h1 h2=>by obtain ⟨u0,rfl⟩:=jt h1; obtain rfl:=eA h2; exact Looks.of_peek (K:=KK g.w.params) X (by kernel_rfl))) (@ab _ _ _ _ _ _ _ (@aK _ _ _ _ _ _ (@aB _ _ _ _ _ _ _ _ _ _ _ _ _ (@rX _ _ _ _ _ (@aM _ _ _ _ _ _ _ _ _ _ _ _ (@bA _ _ _ _ 1 _ _ _ _ ok Ka rfl (Ly _) (@CB.up _ _ _ _ _ _ (@FN.cb _ _ _ _ _ ok (Co g ok ba)) rfl)) (@ac _ _ _ _ _ _ _ (@aQ _ _ _ _ _ _ _ _ _ ok (@dK _ _ _ _ _ _ ay) (@aa _ _ _ 0 _ _ _ Dw rfl rfl)) ae (fun _ _=>rfl)) aw (fun _ _=>rfl) (fun _ _=>rfl) (fun _ _=>rfl))) (@ac _ _ _ _ _ _ _ (@bn _ _ _ _ _ _ _ LB) ae (fun _ _=>rfl)) aw (fun _=>rfl) rfl (fun _ _=>rfl) (fun _ _=>rfl) (fun _ _=>rfl) (fun _ _=>rfl))) al)⟩
noncomputable def pe:List V→List V→DE:=u5.1
theorem Cf (g:GA) (ok:(Gk g).Ok) (ba:Bare g):FN (Gk g) 2 396 [] pe:=u5.2 g ok ba
theorem Cq (g:GA) (ok:(Gk g).Ok) (ba:Bare g):FN (Gk g) 2 396 [] (cF pe):=FN.apart ba.gn fun hp=>Cf {g with gn:=AllBare,hp:=hp} (ok.pv AllBare hp) ⟨rfl⟩
noncomputable def o9 (vs kvs:List V):Option V:=match kvs with
 | []=>(match vs with
  | [.int (.ofNat n)]=>(match fV i6 n with
   | some w=>some (.str w)
   | none=>none)
  | _=>none)
 | _=>none
noncomputable def JM (P:V→Prop) (p:List Nat×Nat):Prop:=pe [.int (.ofNat p.2)] [] ⟨[],[],0⟩ (fun v _=>P v)
theorem wf (P:V→Prop):aH (JM P) i6.zipIdx=aI (fun p=>P (.str p.1)) i6.zipIdx:=by kernel_rfl
set_option tactic.hygienic true in
theorem zN (vs kvs:List V) (w:V) (h:o9 vs kvs=some w):aU vs=true∧aU kvs=true∧bM w=true∧∀ P:V→Prop,pe vs kvs ⟨[],[],0⟩ (fun v _=>P v)=P w:=by
 unfold o9 at h
 split at h
 ·split at h
  ·rename_i n
   split at h
   ·rename_i x hx
    cases h
    rw [dR] at hx
    exact ⟨rfl,rfl,rfl,fun P=>aF (wf P) (x,n) (List.mem_zipIdx_iff_getElem?.mpr hx)⟩
   ·cases h
  ·cases h
 ·cases h
theorem lm (g:GA) (ok:(Gk g).Ok) (ba:Bare g):FN (Gk g) 2 396 [] (o5 o9):=(Cq g ok ba).tab zN
noncomputable def De:List (Str×NameKind):=[((tS "self"),.local),((tS "ws"),.local),((tS "S"),.local),((tS "T"),.local),((tS "count"),.local),((tS "b"),.local),((tS "n"),.local),((tS "nt"),.local),((tS "ch"),.local),((tS "Whitespace"),.globalImplicit),((tS "len"),.globalImplicit),((tS "tuple"),.globalImplicit)]
noncomputable def bP:Sc:=⟨De,true,209,(tS "Whitespace.__init__.<locals>.")⟩
theorem bb:NamesOk bP:=by unfold NamesOk; kernel_rfl
noncomputable def nQ:FuncData:=dE (cT P0 210) default
noncomputable def gC:List PySem.Stmt:=bw (some nQ)
noncomputable abbrev dH:=af gC
theorem DH (g:GA):FnOk (Gk g) 210 nQ gC bP:=FnOk.of (by kernel_rfl) (by kernel_rfl)
theorem HF (g:GA):(Gk g).an[0]?=some (tS "raw"):=by kernel_rfl
theorem bO (g:GA):ClsOk (Gk g).K 255:=⟨by kernel_rfl,by kernel_rfl,by kernel_rfl,by kernel_rfl,by kernel_rfl⟩
theorem Jp (P:Params):takerIn (KK P) 255 (tS "raw")=some none:=by kernel_rfl
noncomputable def Es:aD 0 bP (dH 0):=⟨_,fun g ok ba=>(@ad _ _ _ _ _ _ _ _ (@aa _ _ _ 1 _ _ _ bb rfl rfl) (@am _ _ _ _ _ (@be _ _ _ _ _ _ _ _ 0 ok (bO g) (HF g) (Jp _) (@aa _ _ _ 0 _ _ _ bb rfl rfl)) (fun _=>rfl)) (fun _=>rfl) (fun _ _=>rfl))⟩
theorem pG:cS (tS "Whitespace"):=by kernel_rfl
theorem xc (P:Params):nsIn (KK P) mainGlobals (tS "Whitespace")=some (some (.ref 255)):=by kernel_rfl
noncomputable def Et:aD 0 bP (dH 1):=⟨_,fun g ok ba=>(@d7 _ _ _ _ _ _ _ [3,2] [(tS "T"),(tS "S")] _ _ (@aV _ _ _ _ _ _ _ ok (@ac _ _ _ _ _ _ _ (@po _ _ _ _ _ _ _ _ 9 (.type "type") [32] 579 ok pG rfl (xc _) (by kernel_rfl) (by kernel_rfl)) (@ac _ _ _ _ _ _ _ (@po _ _ _ _ _ _ _ _ 9 (.type "type") [9] 580 ok pG rfl (xc _) (by kernel_rfl) (by kernel_rfl)) ae (fun _ _=>rfl)) (fun _ _=>rfl)) (by decide)) (fun _=>rfl) (fun env he=>(cK he).trans (by kernel_rfl)) rfl (cj rfl))⟩
noncomputable def Eu:aD 0 bP (dH 2):=⟨_,fun g ok ba=>(@ad _ _ _ _ _ _ _ _ (@b7 _ _ _ _ _ _ ok ae) (@am _ _ _ _ _ (@aj _ _ _ 4 _ _ _ rfl (.inl rfl)) (fun _=>rfl)) (fun _=>rfl) (fun _ _=>rfl))⟩
noncomputable def Ev:aD 0 bP (dH 3):=⟨_,fun g ok ba=>(@ad _ _ _ _ _ _ _ _ ay (@gt _ _ _ _ _ _ _ _ (@aj _ _ _ 5 _ _ _ rfl (.inl rfl)) (@gt _ _ _ _ _ _ _ _ (@aj _ _ _ 6 _ _ _ rfl (.inl rfl)) (@am _ _ _ _ _ (@aj _ _ _ 7 _ _ _ rfl (.inl rfl)) (fun _=>rfl)) (fun _=>rfl) (fun _=>⟨_,_,rfl⟩)) (fun _=>rfl) (fun _=>⟨_,_,rfl⟩)) (fun _=>rfl) (fun _ _=>rfl))⟩
theorem H2 (P:Params):findIn (KK P) (.ref 255) (tS "raw")=some none:=by kernel_rfl
noncomputable def Ew:aD 0 bP (af (bt (af (ca (dH 4)) 0)) 0):=⟨_,fun g ok ba=>(@ad _ _ _ _ _ _ _ _ (@aQ _ _ _ _ _ _ _ _ _ ok (@aa _ _ _ 6 _ _ _ bb rfl rfl) ay) (@am _ _ _ _ _ (@aj _ _ _ 6 _ _ _ rfl (.inl rfl)) (fun _=>rfl)) (fun _=>rfl) (fun _ _=>rfl))⟩
noncomputable def Ex:aD 0 bP (af (bt (af (ca (dH 4)) 0)) 1):=⟨_,fun g ok ba=>(@ad _ _ _ _ _ _ _ _ (@aQ _ _ _ _ _ _ _ _ _ ok (@aa _ _ _ 5 _ _ _ bb rfl rfl) ay) (@am _ _ _ _ _ (@aj _ _ _ 5 _ _ _ rfl (.inl rfl)) (fun _=>rfl)) (fun _=>rfl) (fun _ _=>rfl))⟩
noncomputable def Ey:aD 0 bP (af (bt (af (gg (af (ca (dH 4)) 0)) 0)) 0):=⟨_,fun g ok ba=>(@ad _ _ _ _ _ _ _ _ (@aQ _ _ _ _ _ _ _ _ _ ok (@aa _ _ _ 6 _ _ _ bb rfl rfl) ay) (@am _ _ _ _ _ (@aj _ _ _ 6 _ _ _ rfl (.inl rfl)) (fun _=>rfl)) (fun _=>rfl) (fun _ _=>rfl))⟩
noncomputable def Ez:aD 0 bP (af (bt (af (gg (af (ca (dH 4)) 0)) 0)) 1):=⟨_,fun g ok ba=>(@ad _ _ _ _ _ _ _ _ (@aQ _ _ _ _ _ _ _ _ _ ok (@aa _ _ _ 7 _ _ _ bb rfl rfl) ay) (@am _ _ _ _ _ (@aj _ _ _ 7 _ _ _ rfl (.inl rfl)) (fun _=>rfl)) (fun _=>rfl) (fun _ _=>rfl))⟩
theorem jf (g:GA):Bltin (Gk g) (tS "len") (.builtin "len"):=⟨by kernel_rfl,by decide,PyProof.Rows.Boot.«len»,by kernel_rfl⟩
noncomputable def EA:aD 0 bP (af (bt (af (bt (af (gg (af (ca (dH 4)) 0)) 0)) 2)) 0):=⟨_,fun g ok ba=>(@ad _ _ _ _ _ _ _ _ (@A3 _ _ _ _ _ _ _ _ ok (@aa _ _ _ 4 _ _ _ bb rfl rfl) (@aQ _ _ _ _ _ _ _ _ _ ok (@b7 _ _ _ _ _ _ ok (@ac _ _ _ _ _ _ _ ay ae (fun _ _=>rfl))) (@aQ _ _ _ _ _ _ _ _ _ ok (@aQ _ _ _ _ _ _ _ _ _ ok (@aa _ _ _ 5 _ _ _ bb rfl rfl) (@aM _ _ _ _ _ _ _ _ _ _ _ _ (@aJ _ _ _ _ 10 _ _ _ _ ok rfl (jf g) fP) (@ac _ _ _ _ _ _ _ (@aa _ _ _ 4 _ _ _ bb rfl rfl) ae (fun _ _=>rfl)) aw (fun _ _=>rfl) (fun _ _=>rfl) (fun _ _=>rfl))) ay))) (@am _ _ _ _ _ (@aj _ _ _ 4 _ _ _ rfl (.inl rfl)) (fun _=>rfl)) (fun _=>rfl) (fun _ _=>rfl))⟩
noncomputable def EB:aD 0 bP (af (bt (af (gg (af (ca (dH 4)) 0)) 0)) 2):=⟨_,fun g ok ba=>(@bL _ _ _ _ _ _ _ _ _ _ (@a9 _ _ _ _ _ _ _ _ _ (@aa _ _ _ 5 _ _ _ bb rfl rfl) (@aM _ _ _ _ _ _ _ _ _ _ _ _ (@aJ _ _ _ _ 10 _ _ _ _ ok rfl (jf g) fP) (@ac _ _ _ _ _ _ _ (@aa _ _ _ 4 _ _ _ bb rfl rfl) ae (fun _ _=>rfl)) aw (fun _ _=>rfl) (fun _ _=>rfl) (fun _ _=>rfl)) rfl) (@aP _ _ _ (bt (af (bt (af (gg (af (ca (dH 4)) 0)) 0)) 2)) 1 _ (by kernel_rfl) (@ab _ _ _ _ _ _ _ (@aG _ _ _ EA g ok ba) al)) al)⟩
noncomputable def xE:aD 0 bP (af (bt (af (gg (af (ca (dH 4)) 0)) 0)) 3):=⟨_,fun g ok ba=>(@ad _ _ _ _ _ _ _ _ (@aQ _ _ _ _ _ _ _ _ _ ok (@bS _ _ _ _ _ _ _ _ ok (@aa _ _ _ 4 _ _ _ bb rfl rfl) (@aa _ _ _ 5 _ _ _ bb rfl rfl)) ay) (@am _ _ _ _ _ (@Hq _ _ _ _ _ _ _ _ ok (@aa _ _ _ 4 _ _ _ bb rfl rfl) (@aa _ _ _ 5 _ _ _ bb rfl rfl)) (fun _=>rfl)) (fun _=>rfl) (fun _ _=>rfl))⟩
noncomputable def xF:aD 0 bP (af (bt (af (gg (af (ca (dH 4)) 0)) 0)) 4):=⟨_,fun g ok ba=>(@ad _ _ _ _ _ _ _ _ ay (@am _ _ _ _ _ (@aj _ _ _ 5 _ _ _ rfl (.inl rfl)) (fun _=>rfl)) (fun _=>rfl) (fun _ _=>rfl))⟩
noncomputable def xG:aD 0 bP (af (gg (af (ca (dH 4)) 0)) 0):=⟨_,fun g ok ba=>(@bL _ _ _ _ _ _ _ _ _ _ (@a9 _ _ _ _ _ _ _ _ _ (@aa _ _ _ 8 _ _ _ bb rfl rfl) (@aa _ _ _ 3 _ _ _ bb rfl rfl) rfl) (@aP _ _ _ (bt (af (gg (af (ca (dH 4)) 0)) 0)) 5 _ (by kernel_rfl) (@ab _ _ _ _ _ _ _ (@aG _ _ _ Ey g ok ba) (@ab _ _ _ _ _ _ _ (@aG _ _ _ Ez g ok ba) (@ab _ _ _ _ _ _ _ (@aG _ _ _ EB g ok ba) (@ab _ _ _ _ _ _ _ (@aG _ _ _ xE g ok ba) (@ab _ _ _ _ _ _ _ (@aG _ _ _ xF g ok ba) al)))))) (@ab _ _ _ _ _ _ _ wH al))⟩
noncomputable def xH:aD 0 bP (af (ca (dH 4)) 0):=⟨_,fun g ok ba=>(@bL _ _ _ _ _ _ _ _ _ _ (@a9 _ _ _ _ _ _ _ _ _ (@aa _ _ _ 8 _ _ _ bb rfl rfl) (@aa _ _ _ 2 _ _ _ bb rfl rfl) rfl) (@aP _ _ _ (bt (af (ca (dH 4)) 0)) 2 _ (by kernel_rfl) (@ab _ _ _ _ _ _ _ (@aG _ _ _ Ew g ok ba) (@ab _ _ _ _ _ _ _ (@aG _ _ _ Ex g ok ba) al))) (@aP _ _ _ (gg (af (ca (dH 4)) 0)) 1 _ (by kernel_rfl) (@ab _ _ _ _ _ _ _ (@aG _ _ _ xG g ok ba) al)))⟩
noncomputable def xI:aD 0 bP (dH 4):=⟨_,fun g ok ba=>(@eo _ _ _ false _ _ _ _ _ _ _ 60 (@cO _ _ _ _ _ _ ok (@cV _ _ _ _ _ _ _ _ 0 ok (bO g) (HF g) (H2 _) (@aa _ _ _ 0 _ _ _ bb rfl rfl) (fun _=>rfl))) (fun h=>nomatch h) (@aj _ _ _ 8 _ _ _ rfl (.inl rfl)) (@aP _ _ _ (ca (dH 4)) 1 _ (by kernel_rfl) (@ab _ _ _ _ _ _ _ (@aG _ _ _ xH g ok ba) al)) (fun _ _=>rfl))⟩
theorem si (g:GA):(Gk g).an[1]?=some (tS "n"):=by kernel_rfl
theorem Jq (P:Params):takerIn (KK P) 255 (tS "n")=some none:=by kernel_rfl
noncomputable def xJ:aD 0 bP (dH 5):=⟨_,fun g ok ba=>(@ad _ _ _ _ _ _ _ _ (@aa _ _ _ 6 _ _ _ bb rfl rfl) (@am _ _ _ _ _ (@be _ _ _ _ _ _ _ _ 1 ok (bO g) (si g) (Jq _) (@aa _ _ _ 0 _ _ _ bb rfl rfl)) (fun _=>rfl)) (fun _=>rfl) (fun _ _=>rfl))⟩
theorem pr (g:GA):(Gk g).an[2]?=some (tS "nt"):=by kernel_rfl
theorem Jr (P:Params):takerIn (KK P) 255 (tS "nt")=some none:=by kernel_rfl
noncomputable def xK:aD 0 bP (dH 6):=⟨_,fun g ok ba=>(@ad _ _ _ _ _ _ _ _ (@aa _ _ _ 7 _ _ _ bb rfl rfl) (@am _ _ _ _ _ (@be _ _ _ _ _ _ _ _ 2 ok (bO g) (pr g) (Jr _) (@aa _ _ _ 0 _ _ _ bb rfl rfl)) (fun _=>rfl)) (fun _=>rfl) (fun _ _=>rfl))⟩
theorem HJ (g:GA):Bltin (Gk g) (tS "tuple") (.type "tuple"):=⟨by kernel_rfl,by decide,PyProof.Rows.Boot.«tuple»,by kernel_rfl⟩
theorem pt (g:GA):(Gk g).an[3]?=some (tS "norm"):=by kernel_rfl
theorem Js (P:Params):takerIn (KK P) 255 (tS "norm")=some none:=by kernel_rfl
noncomputable def xL:aD 0 bP (dH 7):=⟨_,fun g ok ba=>(@ad _ _ _ _ _ _ _ _ (@aV _ _ _ _ _ _ _ ok (@ac _ _ _ _ _ _ _ (@aM _ _ _ _ _ _ _ _ _ _ _ _ (@aJ _ _ _ _ 11 _ _ _ _ ok rfl (HJ g) (pd ok)) (@ac _ _ _ _ _ _ _ (@aa _ _ _ 4 _ _ _ bb rfl rfl) ae (fun _ _=>rfl)) aw (fun _ _=>rfl) (fun _ _=>rfl) (fun _ _=>rfl)) (@ac _ _ _ _ _ _ _ (@aa _ _ _ 5 _ _ _ bb rfl rfl) ae (fun _ _=>rfl)) (fun _ _=>rfl)) (by decide)) (@am _ _ _ _ _ (@be _ _ _ _ _ _ _ _ 3 ok (bO g) (pt g) (Js _) (@aa _ _ _ 0 _ _ _ bb rfl rfl)) (fun _=>rfl)) (fun _=>rfl) (fun _ _=>rfl))⟩
theorem sm (g:GA):(Gk g).an[4]?=some (tS "is_simple"):=by kernel_rfl
theorem Jt (P:Params):takerIn (KK P) 255 (tS "is_simple")=some none:=by kernel_rfl
noncomputable def xM:aD 0 bP (dH 8):=⟨_,fun g ok ba=>(@ad _ _ _ _ _ _ _ _ (@pg _ _ _ _ _ _ _ _ _ (@aM _ _ _ _ _ _ _ _ _ _ _ _ (@aJ _ _ _ _ 10 _ _ _ _ ok rfl (jf g) fP) (@ac _ _ _ _ _ _ _ (@aa _ _ _ 4 _ _ _ bb rfl rfl) ae (fun _ _=>rfl)) aw (fun _ _=>rfl) (fun _ _=>rfl) (fun _ _=>rfl)) ay rfl) (@am _ _ _ _ _ (@be _ _ _ _ _ _ _ _ 4 ok (bO g) (sm g) (Jt _) (@aa _ _ _ 0 _ _ _ bb rfl rfl)) (fun _=>rfl)) (fun _=>rfl) (fun _ _=>rfl))⟩
noncomputable def uR:(D:List V→List V→DE) ×' (∀ g:GA,(Gk g).Ok→Bare g→FN (Gk g) 1 210 [] D):=⟨_,fun g ok ba=>bf (lv:=0) (fd:=nQ) (body:=gC) (sc:=bP) ok (DH g) (@aX _ _ _ _ 2 [(0,.pos 0),(1,.pos 1)] [(tS "self"),(tS "ws")] ok rfl (bp rfl) (aE (by kernel_rfl)) (bV rfl) (fun h vals kvals X h1 h2=>by obtain ⟨u0,u1,rfl⟩:=lt h1; obtain rfl:=eA h2; exact Looks.of_peek (K:=KK g.w.params) X (by kernel_rfl))) (@aP _ _ _ gC 9 _ (by kernel_rfl) (@ab _ _ _ _ _ _ _ (@aG _ _ _ Es g ok ba) (@ab _ _ _ _ _ _ _ (@aG _ _ _ Et g ok ba) (@ab _ _ _ _ _ _ _ (@aG _ _ _ Eu g ok ba) (@ab _ _ _ _ _ _ _ (@aG _ _ _ Ev g ok ba) (@ab _ _ _ _ _ _ _ (@aG _ _ _ xI g ok ba) (@ab _ _ _ _ _ _ _ (@aG _ _ _ xJ g ok ba) (@ab _ _ _ _ _ _ _ (@aG _ _ _ xK g ok ba) (@ab _ _ _ _ _ _ _ (@aG _ _ _ xL g ok ba) (@ab _ _ _ _ _ _ _ (@aG _ _ _ xM g ok ba) al))))))))))⟩
noncomputable def Hj:List V→List V→DE:=uR.1
theorem tp (g:GA) (ok:(Gk g).Ok) (ba:Bare g):FN (Gk g) 1 210 [] Hj:=uR.2 g ok ba
noncomputable def Df:List (Str×NameKind):=[((tS "self"),.local),((tS "count"),.local),((tS "trailing"),.local),((tS "max"),.globalImplicit),((tS "len"),.globalImplicit)]
noncomputable def jQ:Sc:=⟨Df,true,216,(tS "Whitespace.longest_run_of_spaces.<locals>.")⟩
theorem oO:NamesOk jQ:=by unfold NamesOk; kernel_rfl
noncomputable def nR:FuncData:=dE (cT P0 217) default
noncomputable def gE:List PySem.Stmt:=bw (some nR)
noncomputable abbrev IA:=af gE
theorem DJ (g:GA):FnOk (Gk g) 217 nR gE jQ:=FnOk.of (by kernel_rfl) (by kernel_rfl)
theorem tl (P:Params):findIn (KK P) (.ref 255) (tS "norm")=some none:=by kernel_rfl
noncomputable def EC:aD 0 jQ (IA 0):=⟨_,fun g ok ba=>(@ad _ _ _ _ _ _ _ _ (@cV _ _ _ _ _ _ _ _ 3 ok (bO g) (pt g) (tl _) (@aa _ _ _ 0 _ _ _ oO rfl rfl) (fun _=>rfl)) (@am _ _ _ _ _ (@bX _ _ _ _ _ _ _ (@aO _ _ _ _ _ _ _ (@aj _ _ _ 1 _ _ _ rfl (.inl rfl)) (@aO _ _ _ _ _ _ _ (@aj _ _ _ 2 _ _ _ rfl (.inl rfl)) cG (fun _=>rfl)) (fun _=>rfl)) (fun _=>rfl) (fun _=>rfl)) (fun _=>rfl)) (fun _=>rfl) (fun _ _=>rfl))⟩
theorem Bk (g:GA):Bltin (Gk g) (tS "max") (.builtin "max"):=⟨by kernel_rfl,by decide,PyProof.Rows.Boot.«max»,by kernel_rfl⟩
noncomputable def ED:aD 0 jQ (IA 1):=⟨_,fun g ok ba=>(@aK _ _ _ _ _ _ (@aM _ _ _ _ _ _ _ _ _ _ _ _ (@aJ _ _ _ _ 3 _ _ _ _ ok rfl (Bk g) rE) (@ac _ _ _ _ _ _ _ (@aQ _ _ _ _ _ _ _ _ _ ok (@aM _ _ _ _ _ _ _ _ _ _ _ _ (@aJ _ _ _ _ 4 _ _ _ _ ok rfl (jf g) fP) (@ac _ _ _ _ _ _ _ (@aa _ _ _ 1 _ _ _ oO rfl rfl) ae (fun _ _=>rfl)) aw (fun _ _=>rfl) (fun _ _=>rfl) (fun _ _=>rfl)) ay) (@ac _ _ _ _ _ _ _ (@aa _ _ _ 2 _ _ _ oO rfl rfl) ae (fun _ _=>rfl)) (fun _ _=>rfl)) aw (fun _ _=>rfl) (fun _ _=>rfl) (fun _ _=>rfl)))⟩
noncomputable def uS:(D:List V→List V→DE) ×' (∀ g:GA,(Gk g).Ok→Bare g→FN (Gk g) 1 217 [] D):=⟨_,fun g ok ba=>bf (lv:=0) (fd:=nR) (body:=gE) (sc:=jQ) ok (DJ g) (@aX _ _ _ _ 1 [(0,.pos 0)] [(tS "self")] ok rfl (bp rfl) (aE (by kernel_rfl)) (bV rfl) (fun h vals kvals X h1 h2=>by obtain ⟨u0,rfl⟩:=jt h1; obtain rfl:=eA h2; exact Looks.of_peek (K:=KK g.w.params) X (by kernel_rfl))) (@aP _ _ _ gE 2 _ (by kernel_rfl) (@ab _ _ _ _ _ _ _ (@aG _ _ _ EC g ok ba) (@ab _ _ _ _ _ _ _ (@aG _ _ _ ED g ok ba) al)))⟩
noncomputable def zV:List V→List V→DE:=uS.1
theorem Ca (g:GA) (ok:(Gk g).Ok) (ba:Bare g):FN (Gk g) 1 217 [] zV:=uS.2 g ok ba
theorem tx (g:GA) (ok:(Gk g).Ok) (ba:Bare g):FN (Gk g) 1 217 [] (cF zV):=FN.apart ba.gn fun hp=>Ca {g with gn:=AllBare,hp:=hp} (ok.pv AllBare hp) ⟨rfl⟩
noncomputable def Dg:List (Str×NameKind):=[((tS "self"),.local),((tS "tabsize"),.local),((tS "count"),.local),((tS "trailing"),.local),((tS "il"),.local),((tS "i"),.local),((tS "range"),.globalImplicit),((tS "len"),.globalImplicit)]
noncomputable def ft:Sc:=⟨Dg,true,223,(tS "Whitespace.indent_level.<locals>.")⟩
theorem dx:NamesOk ft:=by unfold NamesOk; kernel_rfl
noncomputable def nU:FuncData:=dE (cT P0 224) default
noncomputable def gF:List PySem.Stmt:=bw (some nU)
noncomputable abbrev qU:=af gF
theorem DK (g:GA):FnOk (Gk g) 224 nU gF ft:=FnOk.of (by kernel_rfl) (by kernel_rfl)
noncomputable def EE:aD 0 ft (qU 0):=⟨_,fun g ok ba=>(@ad _ _ _ _ _ _ _ _ (@cV _ _ _ _ _ _ _ _ 3 ok (bO g) (pt g) (tl _) (@aa _ _ _ 0 _ _ _ dx rfl rfl) (fun _=>rfl)) (@am _ _ _ _ _ (@bX _ _ _ _ _ _ _ (@aO _ _ _ _ _ _ _ (@aj _ _ _ 2 _ _ _ rfl (.inl rfl)) (@aO _ _ _ _ _ _ _ (@aj _ _ _ 3 _ _ _ rfl (.inl rfl)) cG (fun _=>rfl)) (fun _=>rfl)) (fun _=>rfl) (fun _=>rfl)) (fun _=>rfl)) (fun _=>rfl) (fun _ _=>rfl))⟩
noncomputable def EF:aD 0 ft (qU 1):=⟨_,fun g ok ba=>(@ad _ _ _ _ _ _ _ _ ay (@am _ _ _ _ _ (@aj _ _ _ 4 _ _ _ rfl (.inl rfl)) (fun _=>rfl)) (fun _=>rfl) (fun _ _=>rfl))⟩
theorem nz (g:GA):Bltin (Gk g) (tS "range") (.type "range"):=⟨by kernel_rfl,by decide,PyProof.Rows.Boot.«range»,by kernel_rfl⟩
noncomputable def EG:aD 0 ft (af (ca (qU 2)) 0):=⟨_,fun g ok ba=>(@ad _ _ _ _ _ _ _ _ (@aQ _ _ _ _ _ _ _ _ _ ok (@aa _ _ _ 4 _ _ _ dx rfl rfl) (@aQ _ _ _ _ _ _ _ _ _ ok (@aQ _ _ _ _ _ _ _ _ _ ok (@aa _ _ _ 5 _ _ _ dx rfl rfl) (@aa _ _ _ 1 _ _ _ dx rfl rfl)) (@bS _ _ _ _ _ _ _ _ ok (@aa _ _ _ 2 _ _ _ dx rfl rfl) (@aa _ _ _ 5 _ _ _ dx rfl rfl)))) (@am _ _ _ _ _ (@aj _ _ _ 4 _ _ _ rfl (.inl rfl)) (fun _=>rfl)) (fun _=>rfl) (fun _ _=>rfl))⟩
noncomputable def EH:aD 0 ft (qU 2):=⟨_,fun g ok ba=>(@eo _ _ _ false _ _ _ _ _ _ _ 60 (@cW _ _ _ _ _ 6 _ _ _ _ _ _ ok rfl (nz g) (fun _ h=>nomatch h) (eJ ok) (@ac _ _ _ _ _ _ _ (@aa _ _ _ 1 _ _ _ dx rfl rfl) (@ac _ _ _ _ _ _ _ (@aM _ _ _ _ _ _ _ _ _ _ _ _ (@aJ _ _ _ _ 7 _ _ _ _ ok rfl (jf g) fP) (@ac _ _ _ _ _ _ _ (@aa _ _ _ 2 _ _ _ dx rfl rfl) ae (fun _ _=>rfl)) aw (fun _ _=>rfl) (fun _ _=>rfl) (fun _ _=>rfl)) ae (fun _ _=>rfl)) (fun _ _=>rfl)) (fun _ _=>rfl)) (fun h=>nomatch h) (@aj _ _ _ 5 _ _ _ rfl (.inl rfl)) (@aP _ _ _ (ca (qU 2)) 1 _ (by kernel_rfl) (@ab _ _ _ _ _ _ _ (@aG _ _ _ EG g ok ba) al)) (fun _ _=>rfl))⟩
theorem tm (P:Params):findIn (KK P) (.ref 255) (tS "nt")=some none:=by kernel_rfl
noncomputable def EI:aD 0 ft (qU 3):=⟨_,fun g ok ba=>(@aK _ _ _ _ _ _ (@aQ _ _ _ _ _ _ _ _ _ ok (@aa _ _ _ 3 _ _ _ dx rfl rfl) (@aQ _ _ _ _ _ _ _ _ _ ok (@aa _ _ _ 1 _ _ _ dx rfl rfl) (@aQ _ _ _ _ _ _ _ _ _ ok (@aa _ _ _ 4 _ _ _ dx rfl rfl) (@cV _ _ _ _ _ _ _ _ 2 ok (bO g) (pr g) (tm _) (@aa _ _ _ 0 _ _ _ dx rfl rfl) (fun _=>rfl))))))⟩
noncomputable def uT:(D:List V→List V→DE) ×' (∀ g:GA,(Gk g).Ok→Bare g→FN (Gk g) 1 224 [] D):=⟨_,fun g ok ba=>bf (lv:=0) (fd:=nU) (body:=gF) (sc:=ft) ok (DK g) (@aX _ _ _ _ 2 [(0,.pos 0),(1,.pos 1)] [(tS "self"),(tS "tabsize")] ok rfl (bp rfl) (aE (by kernel_rfl)) (bV rfl) (fun h vals kvals X h1 h2=>by obtain ⟨u0,u1,rfl⟩:=lt h1; obtain rfl:=eA h2; exact Looks.of_peek (K:=KK g.w.params) X (by kernel_rfl))) (@aP _ _ _ gF 4 _ (by kernel_rfl) (@ab _ _ _ _ _ _ _ (@aG _ _ _ EE g ok ba) (@ab _ _ _ _ _ _ _ (@aG _ _ _ EF g ok ba) (@ab _ _ _ _ _ _ _ (@aG _ _ _ EH g ok ba) (@ab _ _ _ _ _ _ _ (@aG _ _ _ EI g ok ba) al)))))⟩
noncomputable def zW:List V→List V→DE:=uT.1
theorem Cb (g:GA) (ok:(Gk g).Ok) (ba:Bare g):FN (Gk g) 1 224 [] zW:=uT.2 g ok ba
theorem ow (g:GA) (ok:(Gk g).Ok) (ba:Bare g):FN (Gk g) 1 224 [] (cF zW):=FN.apart ba.gn fun hp=>Cb {g with gn:=AllBare,hp:=hp} (ok.pv AllBare hp) ⟨rfl⟩
noncomputable def Dh:List (Str×NameKind):=[((tS "self"),.local),((tS "other"),.local),((tS "n"),.local),((tS "ts"),.local),((tS "max"),.globalImplicit),((tS "range"),.globalImplicit)]
noncomputable def fu:Sc:=⟨Dh,true,244,(tS "Whitespace.less.<locals>.")⟩
theorem dj:NamesOk fu:=by unfold NamesOk; kernel_rfl
noncomputable def nV:FuncData:=dE (cT P0 245) default
noncomputable def gG:List PySem.Stmt:=bw (some nV)
noncomputable abbrev qV:=af gG
theorem DL (g:GA):FnOk (Gk g) 245 nV gG fu:=FnOk.of (by kernel_rfl) (by kernel_rfl)
theorem An (P:Params):findIn (KK P) (.ref 255) (tS "n")=some none:=by kernel_rfl
noncomputable def EJ:aD 1 fu (qV 0):=⟨_,fun g ok ba=>(@bL _ _ _ _ _ _ _ _ _ _ (@a9 _ _ _ _ _ _ _ _ _ (@cV _ _ _ _ _ _ _ _ 1 ok (bO g) (si g) (An _) (@aa _ _ _ 0 _ _ _ dj rfl rfl) (fun _=>rfl)) (@cV _ _ _ _ _ _ _ _ 1 ok (bO g) (si g) (An _) (@aa _ _ _ 1 _ _ _ dj rfl rfl) (fun _=>rfl)) rfl) (@ab _ _ _ _ _ _ _ (@aK _ _ _ _ _ _ b0) al) al)⟩
theorem Ao (P:Params):findIn (KK P) (.ref 255) (tS "is_simple")=some none:=by kernel_rfl
noncomputable def EK:aD 1 fu (qV 1):=⟨_,fun g ok ba=>(@bL _ _ _ _ _ _ _ _ _ _ (@du _ _ _ _ _ _ _ (@bH _ _ _ _ _ _ _ (@bo _ _ _ _ _ (@cV _ _ _ _ _ _ _ _ 4 ok (bO g) (sm g) (Ao _) (@aa _ _ _ 0 _ _ _ dj rfl rfl) (fun _=>rfl)) (fun _ _=>rfl)) (@bH _ _ _ _ _ _ _ (@bo _ _ _ _ _ (@cV _ _ _ _ _ _ _ _ 4 ok (bO g) (sm g) (Ao _) (@aa _ _ _ 1 _ _ _ dj rfl rfl) (fun _=>rfl)) (fun _ _=>rfl)) cU))) (@ab _ _ _ _ _ _ _ (@aK _ _ _ _ _ _ (@pg _ _ _ _ _ _ _ _ _ (@cV _ _ _ _ _ _ _ _ 2 ok (bO g) (pr g) (tm _) (@aa _ _ _ 0 _ _ _ dj rfl rfl) (fun _=>rfl)) (@cV _ _ _ _ _ _ _ _ 2 ok (bO g) (pr g) (tm _) (@aa _ _ _ 1 _ _ _ dj rfl rfl) (fun _=>rfl)) rfl)) al) al)⟩
theorem Ac (g:GA):(Gk g).an[5]?=some (tS "longest_run_of_spaces"):=by kernel_rfl
theorem Aw (P:Params):findIn (KK P) (.ref 255) (tS "longest_run_of_spaces")=some (some (.ref 217)):=by kernel_rfl
theorem AT (P:Params):typeIn (KK P) (.ref 217)=some (.type "function"):=by kernel_rfl
noncomputable def EL:aD 1 fu (qV 2):=⟨_,fun g ok ba=>(@ad _ _ _ _ _ _ _ _ (@aQ _ _ _ _ _ _ _ _ _ ok (@aM _ _ _ _ _ _ _ _ _ _ _ _ (@aJ _ _ _ _ 4 _ _ _ _ ok rfl (Bk g) rE) (@ac _ _ _ _ _ _ _ (@aB _ _ _ _ _ _ _ _ _ _ _ _ _ (@hJ _ _ _ _ _ _ _ 5 _ _ _ ok (bO g) (Ac g) (Aw _) (AT _) (@aa _ _ _ 0 _ _ _ dj rfl rfl) (@CB.up _ _ _ _ _ _ (@FN.cb _ _ _ _ _ ok (tx g ok ba)) rfl)) ae aw (fun _=>rfl) rfl (fun _ _=>rfl) (fun _ _=>rfl) (fun _ _=>rfl) (fun _ _=>rfl)) (@ac _ _ _ _ _ _ _ (@aB _ _ _ _ _ _ _ _ _ _ _ _ _ (@hJ _ _ _ _ _ _ _ 5 _ _ _ ok (bO g) (Ac g) (Aw _) (AT _) (@aa _ _ _ 1 _ _ _ dj rfl rfl) (@CB.up _ _ _ _ _ _ (@FN.cb _ _ _ _ _ ok (tx g ok ba)) rfl)) ae aw (fun _=>rfl) rfl (fun _ _=>rfl) (fun _ _=>rfl) (fun _ _=>rfl) (fun _ _=>rfl)) ae (fun _ _=>rfl)) (fun _ _=>rfl)) aw (fun _ _=>rfl) (fun _ _=>rfl) (fun _ _=>rfl)) ay) (@am _ _ _ _ _ (@aj _ _ _ 2 _ _ _ rfl (.inl rfl)) (fun _=>rfl)) (fun _=>rfl) (fun _ _=>rfl))⟩
theorem sn (g:GA):(Gk g).an[6]?=some (tS "indent_level"):=by kernel_rfl
theorem ul (P:Params):findIn (KK P) (.ref 255) (tS "indent_level")=some (some (.ref 224)):=by kernel_rfl
theorem wc (P:Params):typeIn (KK P) (.ref 224)=some (.type "function"):=by kernel_rfl
noncomputable def EM:aD 1 fu (af (ca (qV 3)) 0):=⟨_,fun g ok ba=>(@bL _ _ _ _ _ _ _ _ _ _ (@a9 _ _ _ _ _ _ _ _ _ (@aB _ _ _ _ _ _ _ _ _ _ _ _ _ (@hJ _ _ _ _ _ _ _ 6 _ _ _ ok (bO g) (sn g) (ul _) (wc _) (@aa _ _ _ 0 _ _ _ dj rfl rfl) (@CB.up _ _ _ _ _ _ (@FN.cb _ _ _ _ _ ok (ow g ok ba)) rfl)) (@ac _ _ _ _ _ _ _ (@aa _ _ _ 3 _ _ _ dj rfl rfl) ae (fun _ _=>rfl)) aw (fun _=>rfl) rfl (fun _ _=>rfl) (fun _ _=>rfl) (fun _ _=>rfl) (fun _ _=>rfl)) (@aB _ _ _ _ _ _ _ _ _ _ _ _ _ (@hJ _ _ _ _ _ _ _ 6 _ _ _ ok (bO g) (sn g) (ul _) (wc _) (@aa _ _ _ 1 _ _ _ dj rfl rfl) (@CB.up _ _ _ _ _ _ (@FN.cb _ _ _ _ _ ok (ow g ok ba)) rfl)) (@ac _ _ _ _ _ _ _ (@aa _ _ _ 3 _ _ _ dj rfl rfl) ae (fun _ _=>rfl)) aw (fun _=>rfl) rfl (fun _ _=>rfl) (fun _ _=>rfl) (fun _ _=>rfl) (fun _ _=>rfl)) rfl) (@ab _ _ _ _ _ _ _ (@aK _ _ _ _ _ _ b0) al) al)⟩
noncomputable def EN:aD 1 fu (qV 3):=⟨_,fun g ok ba=>(@eo _ _ _ false _ _ _ _ _ _ _ 60 (@cW _ _ _ _ _ 5 _ _ _ _ _ _ ok rfl (nz g) (fun _ h=>nomatch h) (eJ ok) (@ac _ _ _ _ _ _ _ ay (@ac _ _ _ _ _ _ _ (@aQ _ _ _ _ _ _ _ _ _ ok (@aa _ _ _ 2 _ _ _ dj rfl rfl) ay) ae (fun _ _=>rfl)) (fun _ _=>rfl)) (fun _ _=>rfl)) (fun h=>nomatch h) (@aj _ _ _ 3 _ _ _ rfl (.inl rfl)) (@aP _ _ _ (ca (qV 3)) 1 _ (by kernel_rfl) (@ab _ _ _ _ _ _ _ (@aG _ _ _ EM g ok ba) al)) (fun _ _=>rfl))⟩
noncomputable def uU:(D:List V→List V→DE) ×' (∀ g:GA,(Gk g).Ok→Bare g→FN (Gk g) 2 245 [] D):=⟨_,fun g ok ba=>bf (lv:=1) (fd:=nV) (body:=gG) (sc:=fu) ok (DL g) (@aX _ _ _ _ 2 [(0,.pos 0),(1,.pos 1)] [(tS "self"),(tS "other")] ok rfl (bp rfl) (aE (by kernel_rfl)) (bV rfl) (fun h vals kvals X h1 h2=>by obtain ⟨u0,u1,rfl⟩:=lt h1; obtain rfl:=eA h2; exact Looks.of_peek (K:=KK g.w.params) X (by kernel_rfl))) (@aP _ _ _ gG 5 _ (by kernel_rfl) (@ab _ _ _ _ _ _ _ (@aG _ _ _ EJ g ok ba) (@ab _ _ _ _ _ _ _ (@aG _ _ _ EK g ok ba) (@ab _ _ _ _ _ _ _ (@aG _ _ _ EL g ok ba) (@ab _ _ _ _ _ _ _ (@aG _ _ _ EN g ok ba) (@ab _ _ _ _ _ _ _ (@aK _ _ _ _ _ _ b0) al))))))⟩
noncomputable def zX:List V→List V→DE:=uU.1
theorem Cc (g:GA) (ok:(Gk g).Ok) (ba:Bare g):FN (Gk g) 2 245 [] zX:=uU.2 g ok ba
theorem Cp (g:GA) (ok:(Gk g).Ok) (ba:Bare g):FN (Gk g) 2 245 [] (cF zX):=FN.apart ba.gn fun hp=>Cc {g with gn:=AllBare,hp:=hp} (ok.pv AllBare hp) ⟨rfl⟩
noncomputable def IE:List (Str×NameKind):=[((tS "self"),.local),((tS "value"),.local),((tS "name"),.local),((tS "regex"),.local),((tS "type"),.globalImplicit),((tS "str"),.globalImplicit),((tS "_name_disallowed_re"),.globalImplicit),((tS "_value_disallowed_re"),.globalImplicit),((tS "ValueError"),.globalImplicit),((tS "AssertionError"),.globalImplicit),((tS "repr"),.globalImplicit)]
noncomputable def kL:Sc:=⟨IE,true,82,(tS "Headers._convert_string_type.<locals>.")⟩
theorem mA:NamesOk kL:=by unfold NamesOk; kernel_rfl
noncomputable def tc:FuncData:=dE (cT P0 83) default
noncomputable def iS:List PySem.Stmt:=bw (some tc)
noncomputable abbrev JT:=af iS
theorem IG (g:GA):FnOk (Gk g) 83 tc iS kL:=FnOk.of (by kernel_rfl) (by kernel_rfl)
theorem HL (g:GA):Bltin (Gk g) (tS "type") (.type "type"):=⟨by kernel_rfl,by decide,PyProof.Rows.Boot.«type»,by kernel_rfl⟩
theorem J8 (g:GA):Bltin (Gk g) (tS "str") (.type "str"):=⟨by kernel_rfl,by decide,PyProof.Rows.Boot.«str»,by kernel_rfl⟩
theorem HR:cS (tS "_name_disallowed_re"):=by kernel_rfl
theorem Ke (P:Params):nsIn (KK P) mainGlobals (tS "_name_disallowed_re")=some (some (.ref 48)):=by kernel_rfl
theorem HS:cS (tS "_value_disallowed_re"):=by kernel_rfl
theorem Kf (P:Params):nsIn (KK P) mainGlobals (tS "_value_disallowed_re")=some (some (.ref 53)):=by kernel_rfl
noncomputable def IY:aD 0 kL (af (bt (JT 0)) 0):=⟨_,fun g ok ba=>(@ad _ _ _ _ _ _ _ _ (@eV _ _ _ _ _ _ _ _ _ _ (@bo _ _ _ _ _ (@aa _ _ _ 2 _ _ _ mA rfl rfl) (fun _ _=>rfl)) (@r3 _ _ _ 6 _ _ _ ok HR rfl (Ke _)) (@r3 _ _ _ 7 _ _ _ ok HS rfl (Kf _))) (@am _ _ _ _ _ (@aj _ _ _ 3 _ _ _ rfl (.inl rfl)) (fun _=>rfl)) (fun _=>rfl) (fun _ _=>rfl))⟩
noncomputable def IZ:aD 0 kL (af (bt (JT 0)) 1):=⟨_,fun g ok ba=>(@bL _ _ _ _ _ _ _ _ _ _ (@bo _ _ _ _ _ (@aB _ _ _ _ _ _ _ _ _ _ _ _ _ (@r1 _ _ _ _ _ _ _ ok (I1 g) (@aa _ _ _ 3 _ _ _ mA rfl rfl)) (@ac _ _ _ _ _ _ _ (@aa _ _ _ 1 _ _ _ mA rfl rfl) ae (fun _ _=>rfl)) aw (fun _=>rfl) rfl (fun _ _=>rfl) (fun _ _=>rfl) (fun _ _=>rfl) (fun _ _=>rfl)) (fun _ _=>rfl)) f9 al)⟩
noncomputable def I0:aD 0 kL (JT 0):=⟨_,fun g ok ba=>(@bL _ _ _ _ _ _ _ _ _ _ (@a9 _ _ _ _ _ _ _ _ _ (@aM _ _ _ _ _ _ _ _ _ _ _ _ (@aJ _ _ _ _ 4 _ _ _ _ ok rfl (HL g) rH) (@ac _ _ _ _ _ _ _ (@aa _ _ _ 1 _ _ _ mA rfl rfl) ae (fun _ _=>rfl)) aw (fun _ _=>rfl) (fun _ _=>rfl) (fun _ _=>rfl)) (@Hs _ _ _ 5 _ _ _ ok rfl (J8 g)) rfl) (@aP _ _ _ (bt (JT 0)) 3 _ (by kernel_rfl) (@ab _ _ _ _ _ _ _ (@aG _ _ _ IY g ok ba) (@ab _ _ _ _ _ _ _ (@aG _ _ _ IZ g ok ba) (@ab _ _ _ _ _ _ _ (@aK _ _ _ _ _ _ (@aa _ _ _ 1 _ _ _ mA rfl rfl)) al)))) al)⟩
noncomputable def AC:(D:List V→List V→DE) ×' (∀ g:GA,(Gk g).Ok→Bare g→FN (Gk g) 1 83 [(tS "name")] D):=⟨_,fun g ok ba=>bf (lv:=0) (fd:=tc) (body:=iS) (sc:=kL) ok (IG g) (@aX _ _ _ _ 2 [(0,.pos 0),(1,.pos 1),(2,.kw 0)] [(tS "self"),(tS "value"),(tS "name")] ok rfl (bp rfl) (aE (by kernel_rfl)) (bV rfl) (fun h vals kvals X h1 h2=>by obtain ⟨u0,u1,rfl⟩:=lt h1; obtain ⟨w0,rfl⟩:=jt h2; exact Looks.of_peek (K:=KK g.w.params) X (by kernel_rfl))) (@Hz _ _ _ iS 1 _ (by kernel_rfl) (@ab _ _ _ _ _ _ _ (@aG _ _ _ I0 g ok ba) f9))⟩
noncomputable def rO:List V→List V→DE:=AC.1
theorem H5 (g:GA) (ok:(Gk g).Ok) (ba:Bare g):FN (Gk g) 1 83 [(tS "name")] rO:=AC.2 g ok ba
theorem H8 (g:GA) (ok:(Gk g).Ok) (ba:Bare g):FN (Gk g) 1 83 [(tS "name")] (cF rO):=FN.apart ba.gn fun hp=>H5 {g with gn:=AllBare,hp:=hp} (ok.pv AllBare hp) ⟨rfl⟩
noncomputable def wg (s:List Nat):Bool:=fb s cX
theorem wh {s:List Nat} (h:wg s=true):s∈cX:=by
 unfold wg at h; rw [b8] at h; exact List.contains_iff_mem.mp h
noncomputable def HP (P:V→Prop) (b:Bool) (s:List Nat):Prop:=rO [.junk,.str s] [.boo b] ⟨[],[],0⟩ (fun v _=>P v)
noncomputable def nG (vs kvs:List V):Option V:=match vs with
 | [.junk,.str s]=>(match kvs with
  | [.boo b]=>(match wg s with
   | true=>some (.str s)
   | false=>none)
  | _=>none)
 | _=>none
theorem sM (P:V→Prop) (s:List Nat) (hs:s∈cX) (b:Bool):rO [.junk,.str s] [.boo b] ⟨[],[],0⟩ (fun v _=>P v)=P (.str s):=
 aF (f:=HP P b) (g:=fun s=>P (.str s)) (l:=cX) (by cases b <;> kernel_rfl) s hs
set_option tactic.hygienic true in
theorem wR (vs kvs:List V) (w:V) (h:nG vs kvs=some w):aU vs=true∧aU kvs=true∧bM w=true∧∀ P:V→Prop,rO vs kvs ⟨[],[],0⟩ (fun v _=>P v)=P w:=by
 unfold nG at h
 split at h
 ·split at h
  ·split at h
   ·rename_i b q
    cases h
    exact ⟨rfl,rfl,rfl,fun P=>sM P _ (wh q) _⟩
   ·cases h
  ·cases h
 ·cases h
theorem md (g:GA) (ok:(Gk g).Ok) (ba:Bare g):FN (Gk g) 1 83 [tS "name"] (nA (o5 nG)):=((H8 g ok ba).tab wR).blind
noncomputable def ID:List (Str×NameKind):=[((tS "self"),.local),((tS "headers"),.local),((tS "k"),.local),((tS "v"),.local),((tS "type"),.globalImplicit),((tS "list"),.globalImplicit),((tS "TypeError"),.globalImplicit),((tS "__debug__"),.globalImplicit)]
noncomputable def fZ:Sc:=⟨ID,true,75,(tS "Headers.__init__.<locals>.")⟩
theorem fU:NamesOk fZ:=by unfold NamesOk; kernel_rfl
noncomputable def s8:FuncData:=dE (cT P0 76) default
noncomputable def iR:List PySem.Stmt:=bw (some s8)
noncomputable abbrev xx:=af iR
theorem IF (g:GA):FnOk (Gk g) 76 s8 iR fZ:=FnOk.of (by kernel_rfl) (by kernel_rfl)
noncomputable def IR:aD 1 fZ (xx 0):=⟨_,fun g ok ba=>(@ad _ _ _ _ _ _ _ _ (@eV _ _ _ _ _ _ _ _ _ _ (@a9 _ _ _ _ _ _ _ _ _ (@aa _ _ _ 1 _ _ _ fU rfl rfl) cw rfl) (@aa _ _ _ 1 _ _ _ fU rfl rfl) (@b7 _ _ _ _ _ _ ok ae)) (@am _ _ _ _ _ (@aj _ _ _ 1 _ _ _ rfl (.inl rfl)) (fun _=>rfl)) (fun _=>rfl) (fun _ _=>rfl))⟩
theorem HM (g:GA):Bltin (Gk g) (tS "list") (.type "list"):=⟨by kernel_rfl,by decide,PyProof.Rows.Boot.«list»,by kernel_rfl⟩
noncomputable def IS:aD 1 fZ (xx 1):=⟨_,fun g ok ba=>(@bL _ _ _ _ _ _ _ _ _ _ (@a9 _ _ _ _ _ _ _ _ _ (@aM _ _ _ _ _ _ _ _ _ _ _ _ (@aJ _ _ _ _ 4 _ _ _ _ ok rfl (HL g) rH) (@ac _ _ _ _ _ _ _ (@aa _ _ _ 1 _ _ _ fU rfl rfl) ae (fun _ _=>rfl)) aw (fun _ _=>rfl) (fun _ _=>rfl) (fun _ _=>rfl)) (@Hs _ _ _ 5 _ _ _ ok rfl (HM g)) rfl) f9 al)⟩
theorem so (g:GA):(Gk g).an[8]?=some (tS "_headers"):=by kernel_rfl
theorem dL (g:GA):ClsOk (Gk g).K 182:=⟨by kernel_rfl,by kernel_rfl,by kernel_rfl,by kernel_rfl,by kernel_rfl⟩
theorem Ju (P:Params):takerIn (KK P) 182 (tS "_headers")=some none:=by kernel_rfl
noncomputable def IT:aD 1 fZ (xx 2):=⟨_,fun g ok ba=>(@ad _ _ _ _ _ _ _ _ (@aa _ _ _ 1 _ _ _ fU rfl rfl) (@am _ _ _ _ _ (@be _ _ _ _ _ _ _ _ 8 ok (dL g) (so g) (Ju _) (@aa _ _ _ 0 _ _ _ fU rfl rfl)) (fun _=>rfl)) (fun _=>rfl) (fun _ _=>rfl))⟩
theorem lT (g:GA):(Gk g).an[9]?=some (tS "_convert_string_type"):=by kernel_rfl
theorem mv (P:Params):findIn (KK P) (.ref 182) (tS "_convert_string_type")=some (some (.ref 83)):=by kernel_rfl
theorem nf (P:Params):typeIn (KK P) (.ref 83)=some (.type "function"):=by kernel_rfl
noncomputable def IU:aD 1 fZ (af (ca (af (bt (xx 3)) 0)) 0):=⟨_,fun g ok ba=>(@aS _ _ _ _ _ _ (@aB _ _ _ _ _ _ _ _ _ _ _ _ _ (@d3 _ _ _ _ _ _ _ 9 _ _ _ ok (dL g) (lT g) (mv _) (nf _) (@aa _ _ _ 0 _ _ _ fU rfl rfl) (@CB.up _ _ _ _ _ _ (@FN.cb _ _ _ _ _ ok (md g ok ba)) rfl)) (@ac _ _ _ _ _ _ _ (@aa _ _ _ 2 _ _ _ fU rfl rfl) ae (fun _ _=>rfl)) (@jb _ _ _ _ _ _ _ _ _ b0 aw) (fun _=>rfl) rfl (fun _ _=>rfl) (fun _ _=>rfl) (fun _ _=>rfl) (fun _ _=>rfl)) (fun _=>rfl))⟩
noncomputable def IV:aD 1 fZ (af (ca (af (bt (xx 3)) 0)) 1):=⟨_,fun g ok ba=>(@aS _ _ _ _ _ _ (@aB _ _ _ _ _ _ _ _ _ _ _ _ _ (@d3 _ _ _ _ _ _ _ 9 _ _ _ ok (dL g) (lT g) (mv _) (nf _) (@aa _ _ _ 0 _ _ _ fU rfl rfl) (@CB.up _ _ _ _ _ _ (@FN.cb _ _ _ _ _ ok (md g ok ba)) rfl)) (@ac _ _ _ _ _ _ _ (@aa _ _ _ 3 _ _ _ fU rfl rfl) ae (fun _ _=>rfl)) (@jb _ _ _ _ _ _ _ _ _ b0 aw) (fun _=>rfl) rfl (fun _ _=>rfl) (fun _ _=>rfl) (fun _ _=>rfl) (fun _ _=>rfl)) (fun _=>rfl))⟩
noncomputable def IW:aD 1 fZ (af (bt (xx 3)) 0):=⟨_,fun g ok ba=>(@eo _ _ _ false _ _ _ _ _ _ _ 60 (@cO _ _ _ _ _ _ ok (@aa _ _ _ 1 _ _ _ fU rfl rfl)) (fun h=>nomatch h) (@bX _ _ _ _ _ _ _ (@aO _ _ _ _ _ _ _ (@aj _ _ _ 2 _ _ _ rfl (.inl rfl)) (@aO _ _ _ _ _ _ _ (@aj _ _ _ 3 _ _ _ rfl (.inl rfl)) cG (fun _=>rfl)) (fun _=>rfl)) (fun _=>rfl) (fun _=>rfl)) (@aP _ _ _ (ca (af (bt (xx 3)) 0)) 2 _ (by kernel_rfl) (@ab _ _ _ _ _ _ _ (@aG _ _ _ IU g ok ba) (@ab _ _ _ _ _ _ _ (@aG _ _ _ IV g ok ba) al))) (fun _ _=>rfl))⟩
noncomputable def IX:aD 1 fZ (xx 3):=⟨_,fun g ok ba=>(@bL _ _ _ _ _ _ _ _ _ _ (@bo _ _ _ _ _ b0 (fun _ _=>rfl)) (@aP _ _ _ (bt (xx 3)) 1 _ (by kernel_rfl) (@ab _ _ _ _ _ _ _ (@aG _ _ _ IW g ok ba) al)) al)⟩
noncomputable def AB:(D:List V→List V→DE) ×' (∀ g:GA,(Gk g).Ok→Bare g→FN (Gk g) 2 76 [] D):=⟨_,fun g ok ba=>bf (lv:=1) (fd:=s8) (body:=iR) (sc:=fZ) ok (IF g) (@aX _ _ _ _ 1 [(0,.pos 0),(1,.dfl .non .none)] [(tS "self"),(tS "headers")] ok rfl (bp rfl) (aE (by kernel_rfl)) (bV rfl) (fun h vals kvals X h1 h2=>by obtain ⟨u0,rfl⟩:=jt h1; obtain rfl:=eA h2; exact Looks.of_peek (K:=KK g.w.params) X (by kernel_rfl))) (@aP _ _ _ iR 4 _ (by kernel_rfl) (@ab _ _ _ _ _ _ _ (@aG _ _ _ IR g ok ba) (@ab _ _ _ _ _ _ _ (@aG _ _ _ IS g ok ba) (@ab _ _ _ _ _ _ _ (@aG _ _ _ IT g ok ba) (@ab _ _ _ _ _ _ _ (@aG _ _ _ IX g ok ba) al)))))⟩
noncomputable def JY:List V→List V→DE:=AB.1
theorem H4 (g:GA) (ok:(Gk g).Ok) (ba:Bare g):FN (Gk g) 2 76 [] JY:=AB.2 g ok ba
noncomputable def Dc:List (Str×NameKind):=[((tS "self"),.local),((tS "_name"),.local),((tS "_value"),.local),((tS "_params"),.local),((tS "parts"),.local),((tS "k"),.local),((tS "v"),.local),((tS "_formatparam"),.globalImplicit)]
noncomputable def eO:Sc:=⟨Dc,true,178,(tS "Headers.add_header.<locals>.")⟩
theorem d9:NamesOk eO:=by unfold NamesOk; kernel_rfl
noncomputable def nO:FuncData:=dE (cT P0 179) default
noncomputable def gA:List PySem.Stmt:=bw (some nO)
noncomputable abbrev oI:=af gA
theorem DD (g:GA):FnOk (Gk g) 179 nO gA eO:=FnOk.of (by kernel_rfl) (by kernel_rfl)
noncomputable def Ef:aD 1 eO (oI 0):=⟨_,fun g ok ba=>(@ad _ _ _ _ _ _ _ _ (@b7 _ _ _ _ _ _ ok ae) (@am _ _ _ _ _ (@aj _ _ _ 4 _ _ _ rfl (.inl rfl)) (fun _=>rfl)) (fun _=>rfl) (fun _ _=>rfl))⟩
noncomputable def Eg:aD 1 eO (af (bt (oI 1)) 0):=⟨_,fun g ok ba=>(@ad _ _ _ _ _ _ _ _ (@aB _ _ _ _ _ _ _ _ _ _ _ _ _ (@d3 _ _ _ _ _ _ _ 9 _ _ _ ok (dL g) (lT g) (mv _) (nf _) (@aa _ _ _ 0 _ _ _ d9 rfl rfl) (@CB.up _ _ _ _ _ _ (@FN.cb _ _ _ _ _ ok (md g ok ba)) rfl)) (@ac _ _ _ _ _ _ _ (@aa _ _ _ 2 _ _ _ d9 rfl rfl) ae (fun _ _=>rfl)) (@jb _ _ _ _ _ _ _ _ _ b0 aw) (fun _=>rfl) rfl (fun _ _=>rfl) (fun _ _=>rfl) (fun _ _=>rfl) (fun _ _=>rfl)) (@am _ _ _ _ _ (@aj _ _ _ 2 _ _ _ rfl (.inl rfl)) (fun _=>rfl)) (fun _=>rfl) (fun _ _=>rfl))⟩
noncomputable def Eh:aD 1 eO (af (bt (oI 1)) 1):=⟨_,fun g ok ba=>(@aS _ _ _ _ _ _ (@aB _ _ _ _ _ _ _ _ _ _ _ _ _ (@bJ _ _ _ _ _ (@aa _ _ _ 4 _ _ _ d9 rfl rfl)) (@ac _ _ _ _ _ _ _ (@aa _ _ _ 2 _ _ _ d9 rfl rfl) ae (fun _ _=>rfl)) aw (fun _=>rfl) rfl (fun _ _=>rfl) (fun _ _=>rfl) (fun _ _=>rfl) (fun _ _=>rfl)) (fun _=>rfl))⟩
noncomputable def Ei:aD 1 eO (oI 1):=⟨_,fun g ok ba=>(@bL _ _ _ _ _ _ _ _ _ _ (@a9 _ _ _ _ _ _ _ _ _ (@aa _ _ _ 2 _ _ _ d9 rfl rfl) cw rfl) (@aP _ _ _ (bt (oI 1)) 2 _ (by kernel_rfl) (@ab _ _ _ _ _ _ _ (@aG _ _ _ Eg g ok ba) (@ab _ _ _ _ _ _ _ (@aG _ _ _ Eh g ok ba) al))) al)⟩
noncomputable def Ej:aD 1 eO (oI 2):=⟨_,fun g ok ba=>(@sa _ _ _ _ _ _ _ _ _ _ ok (@aa _ _ _ 3 _ _ _ d9 rfl rfl) (fun _=>rfl) rfl (fun _ _=>rfl))⟩
theorem KF:(tS "; ")=(⟨([59,32]:List Nat).toArray⟩:Str):=by kernel_rfl
theorem Ap (P:Params):findIn (KK P) (.ref 182) (tS "_headers")=some none:=by kernel_rfl
noncomputable def Ek:aD 1 eO (oI 3):=⟨_,fun g ok ba=>(@aS _ _ _ _ _ _ (@aB _ _ _ _ _ _ _ _ _ _ _ _ _ (@bJ _ _ _ _ _ (@aY _ _ _ _ _ _ _ _ 8 ok (dL g) (so g) (Ap _) (@aa _ _ _ 0 _ _ _ d9 rfl rfl) (fun _=>rfl))) (@ac _ _ _ _ _ _ _ (@aV _ _ _ _ _ _ _ ok (@ac _ _ _ _ _ _ _ (@aB _ _ _ _ _ _ _ _ _ _ _ _ _ (@d3 _ _ _ _ _ _ _ 9 _ _ _ ok (dL g) (lT g) (mv _) (nf _) (@aa _ _ _ 0 _ _ _ d9 rfl rfl) (@CB.up _ _ _ _ _ _ (@FN.cb _ _ _ _ _ ok (md g ok ba)) rfl)) (@ac _ _ _ _ _ _ _ (@aa _ _ _ 1 _ _ _ d9 rfl rfl) ae (fun _ _=>rfl)) (@jb _ _ _ _ _ _ _ _ _ b0 aw) (fun _=>rfl) rfl (fun _ _=>rfl) (fun _ _=>rfl) (fun _ _=>rfl) (fun _ _=>rfl)) (@ac _ _ _ _ _ _ _ (@aB _ _ _ _ _ _ _ _ _ _ _ _ _ (@kQ _ _ _ _ _ (@bn _ _ _ _ _ _ _ KF)) (@ac _ _ _ _ _ _ _ (@aa _ _ _ 4 _ _ _ d9 rfl rfl) ae (fun _ _=>rfl)) aw (fun _=>rfl) rfl (fun _ _=>rfl) (fun _ _=>rfl) (fun _ _=>rfl) (fun _ _=>rfl)) ae (fun _ _=>rfl)) (fun _ _=>rfl)) (by decide)) ae (fun _ _=>rfl)) aw (fun _=>rfl) rfl (fun _ _=>rfl) (fun _ _=>rfl) (fun _ _=>rfl) (fun _ _=>rfl)) (fun _=>rfl))⟩
noncomputable def uP:(D:List V→List V→DE) ×' (∀ g:GA,(Gk g).Ok→Bare g→FN (Gk g) 2 179 [] D):=⟨_,fun g ok ba=>bf (lv:=1) (fd:=nO) (body:=gA) (sc:=eO) ok (DD g) (@qp _ _ _ 3 3 [0,1,2] [(tS "self"),(tS "_name"),(tS "_value")] _ ok rfl rfl (xi rfl) rfl (aE (by kernel_rfl)) (fun vals h1=>by obtain ⟨u0,u1,u2,rfl⟩:=Iq h1; kernel_rfl)) (@aP _ _ _ gA 4 _ (by kernel_rfl) (@ab _ _ _ _ _ _ _ (@aG _ _ _ Ef g ok ba) (@ab _ _ _ _ _ _ _ (@aG _ _ _ Ei g ok ba) (@ab _ _ _ _ _ _ _ (@aG _ _ _ Ej g ok ba) (@ab _ _ _ _ _ _ _ (@aG _ _ _ Ek g ok ba) al)))))⟩
noncomputable def Hi:List V→List V→DE:=uP.1
theorem to (g:GA) (ok:(Gk g).Ok) (ba:Bare g):FN (Gk g) 2 179 [] Hi:=uP.2 g ok ba
noncomputable def Db:List (Str×NameKind):=[((tS "self"),.local),((tS "name"),.cell)]
noncomputable def jP:Sc:=⟨Db,true,120,(tS "Headers.get_all.<locals>.")⟩
theorem oN:NamesOk jP:=by unfold NamesOk; kernel_rfl
noncomputable def nM:FuncData:=dE (cT P0 121) default
noncomputable def gz:List PySem.Stmt:=bw (some nM)
noncomputable abbrev Iz:=af gz
theorem Dz (g:GA):FnOk (Gk g) 121 nM gz jP:=FnOk.of (by kernel_rfl) (by kernel_rfl)
noncomputable def Ed:aD 1 jP (Iz 0):=⟨_,fun g ok ba=>(@ad _ _ _ _ _ _ _ _ (@aB _ _ _ _ _ _ _ _ _ _ _ _ _ (@d3 _ _ _ _ _ _ _ 9 _ _ _ ok (dL g) (lT g) (mv _) (nf _) (@aa _ _ _ 0 _ _ _ oN rfl rfl) (@CB.up _ _ _ _ _ _ (@FN.cb _ _ _ _ _ ok (md g ok ba)) rfl)) (@ac _ _ _ _ _ _ _ (@aB _ _ _ _ _ _ _ _ _ _ _ _ _ (@kR _ _ _ _ _ (@aa _ _ _ 1 _ _ _ oN rfl rfl)) ae aw (fun _=>rfl) rfl (fun _ _=>rfl) (fun _ _=>rfl) (fun _ _=>rfl) (fun _ _=>rfl)) ae (fun _ _=>rfl)) (@jb _ _ _ _ _ _ _ _ _ b0 aw) (fun _=>rfl) rfl (fun _ _=>rfl) (fun _ _=>rfl) (fun _ _=>rfl) (fun _ _=>rfl)) (@am _ _ _ _ _ (@aj _ _ _ 1 _ _ _ rfl (.inr ⟨rfl,rfl⟩)) (fun _=>rfl)) (fun _=>rfl) (fun _ _=>rfl))⟩
noncomputable def uq:List (Str×NameKind):=[((tS ".0"),.local),((tS "kv"),.local),((tS "name"),.cell)]
noncomputable def mS:Sc:=⟨uq,false,0,(tS "")⟩
theorem jC:NamesOk mS:=by unfold NamesOk; kernel_rfl
noncomputable def Ee:aD 1 jP (Iz 1):=⟨_,fun g ok ba=>(@aK _ _ _ _ _ _ (@dJ _ _ _ mS false _ _ _ _ _ _ _ _ _ _ ok (@CompOk.of _ _ _ [(2,1)] (by kernel_rfl)) (@cO _ _ _ _ _ _ ok (@aY _ _ _ _ _ _ _ _ 8 ok (dL g) (so g) (Ap _) (@aa _ _ _ 0 _ _ _ oN rfl rfl) (fun _=>rfl))) (fun _ _=>rfl) (@dI _ _ _ _ _ _ _ _ _ _ _ _ _ 60 (fun h=>nomatch h) (@aj _ _ _ 1 _ _ _ rfl (.inl rfl)) (@rU _ _ _ _ _ (@a9 _ _ _ _ _ _ _ _ _ (@aB _ _ _ _ _ _ _ _ _ _ _ _ _ (@kR _ _ _ _ _ (@bS _ _ _ _ _ _ _ _ ok (@aa _ _ _ 1 _ _ _ jC rfl rfl) ay)) ae aw (fun _=>rfl) rfl (fun _ _=>rfl) (fun _ _=>rfl) (fun _ _=>rfl) (fun _ _=>rfl)) (@aa _ _ _ 2 _ _ _ jC rfl rfl) rfl)) (@bS _ _ _ _ _ _ _ _ ok (@aa _ _ _ 1 _ _ _ jC rfl rfl) ay))))⟩
noncomputable def uO:(D:List V→List V→DE) ×' (∀ g:GA,(Gk g).Ok→Bare g→FN (Gk g) 2 121 [] D):=⟨_,fun g ok ba=>bf (lv:=1) (fd:=nM) (body:=gz) (sc:=jP) ok (Dz g) (@aX _ _ _ _ 2 [(0,.pos 0),(1,.pos 1)] [(tS "self"),(tS "name")] ok rfl (bp rfl) (aE (by kernel_rfl)) (bV rfl) (fun h vals kvals X h1 h2=>by obtain ⟨u0,u1,rfl⟩:=lt h1; obtain rfl:=eA h2; exact Looks.of_peek (K:=KK g.w.params) X (by kernel_rfl))) (@aP _ _ _ gz 2 _ (by kernel_rfl) (@ab _ _ _ _ _ _ _ (@aG _ _ _ Ed g ok ba) (@ab _ _ _ _ _ _ _ (@aG _ _ _ Ee g ok ba) al)))⟩
noncomputable def Hh:List V→List V→DE:=uO.1
theorem B8 (g:GA) (ok:(Gk g).Ok) (ba:Bare g):FN (Gk g) 2 121 [] Hh:=uO.2 g ok ba
noncomputable def Di:List (Str×NameKind):=[((tS "self"),.local),((tS "write"),.local),((tS "with_comments"),.local),((tS "strip_text"),.local),((tS "rewrite_prefixes"),.local),((tS "qname_aware_tags"),.local),((tS "qname_aware_attrs"),.local),((tS "exclude_attrs"),.local),((tS "exclude_tags"),.local),((tS "set"),.globalImplicit),((tS "list"),.globalImplicit),((tS "_namespace_map"),.globalImplicit)]
noncomputable def bj:Sc:=⟨Di,true,287,(tS "C14NWriterTarget.__init__.<locals>.")⟩
theorem a7:NamesOk bj:=by unfold NamesOk; kernel_rfl
noncomputable def nW:FuncData:=dE (cT P0 288) default
noncomputable def gH:List PySem.Stmt:=bw (some nW)
noncomputable abbrev c7:=af gH
theorem DO (g:GA):FnOk (Gk g) 288 nW gH bj:=FnOk.of (by kernel_rfl) (by kernel_rfl)
theorem sq (g:GA):(Gk g).an[12]?=some (tS "_write"):=by kernel_rfl
theorem az (g:GA):ClsOk (Gk g).K 371:=⟨by kernel_rfl,by kernel_rfl,by kernel_rfl,by kernel_rfl,by kernel_rfl⟩
theorem Jv (P:Params):takerIn (KK P) 371 (tS "_write")=some none:=by kernel_rfl
noncomputable def EO:aD 0 bj (c7 0):=⟨_,fun g ok ba=>(@ad _ _ _ _ _ _ _ _ (@aa _ _ _ 1 _ _ _ a7 rfl rfl) (@am _ _ _ _ _ (@be _ _ _ _ _ _ _ _ 12 ok (az g) (sq g) (Jv _) (@aa _ _ _ 0 _ _ _ a7 rfl rfl)) (fun _=>rfl)) (fun _=>rfl) (fun _ _=>rfl))⟩
theorem sr (g:GA):(Gk g).an[13]?=some (tS "_data"):=by kernel_rfl
theorem Jw (P:Params):takerIn (KK P) 371 (tS "_data")=some none:=by kernel_rfl
noncomputable def EP:aD 0 bj (c7 1):=⟨_,fun g ok ba=>(@ad _ _ _ _ _ _ _ _ (@b7 _ _ _ _ _ _ ok ae) (@am _ _ _ _ _ (@be _ _ _ _ _ _ _ _ 13 ok (az g) (sr g) (Jw _) (@aa _ _ _ 0 _ _ _ a7 rfl rfl)) (fun _=>rfl)) (fun _=>rfl) (fun _ _=>rfl))⟩
theorem HD (g:GA):(Gk g).an[14]?=some (tS "_with_comments"):=by kernel_rfl
theorem Jx (P:Params):takerIn (KK P) 371 (tS "_with_comments")=some none:=by kernel_rfl
noncomputable def EQ:aD 0 bj (c7 2):=⟨_,fun g ok ba=>(@ad _ _ _ _ _ _ _ _ (@aa _ _ _ 2 _ _ _ a7 rfl rfl) (@am _ _ _ _ _ (@be _ _ _ _ _ _ _ _ 14 ok (az g) (HD g) (Jx _) (@aa _ _ _ 0 _ _ _ a7 rfl rfl)) (fun _=>rfl)) (fun _=>rfl) (fun _ _=>rfl))⟩
theorem HE (g:GA):(Gk g).an[15]?=some (tS "_strip_text"):=by kernel_rfl
theorem Jy (P:Params):takerIn (KK P) 371 (tS "_strip_text")=some none:=by kernel_rfl
noncomputable def ER:aD 0 bj (c7 3):=⟨_,fun g ok ba=>(@ad _ _ _ _ _ _ _ _ (@aa _ _ _ 3 _ _ _ a7 rfl rfl) (@am _ _ _ _ _ (@be _ _ _ _ _ _ _ _ 15 ok (az g) (HE g) (Jy _) (@aa _ _ _ 0 _ _ _ a7 rfl rfl)) (fun _=>rfl)) (fun _=>rfl) (fun _ _=>rfl))⟩
theorem Ad (g:GA):(Gk g).an[16]?=some (tS "_exclude_attrs"):=by kernel_rfl
theorem Jz (P:Params):takerIn (KK P) 371 (tS "_exclude_attrs")=some none:=by kernel_rfl
noncomputable def ES:aD 0 bj (c7 4):=⟨_,fun g ok ba=>(@ad _ _ _ _ _ _ _ _ (@eV _ _ _ _ _ _ _ _ _ _ (@bo _ _ _ _ _ (@aa _ _ _ 7 _ _ _ a7 rfl rfl) (fun _ _=>rfl)) eU cw) (@am _ _ _ _ _ (@be _ _ _ _ _ _ _ _ 16 ok (az g) (Ad g) (Jz _) (@aa _ _ _ 0 _ _ _ a7 rfl rfl)) (fun _=>rfl)) (fun _=>rfl) (fun _ _=>rfl))⟩
theorem su (g:GA):(Gk g).an[17]?=some (tS "_exclude_tags"):=by kernel_rfl
theorem JA (P:Params):takerIn (KK P) 371 (tS "_exclude_tags")=some none:=by kernel_rfl
noncomputable def ET:aD 0 bj (c7 5):=⟨_,fun g ok ba=>(@ad _ _ _ _ _ _ _ _ (@eV _ _ _ _ _ _ _ _ _ _ (@bo _ _ _ _ _ (@aa _ _ _ 8 _ _ _ a7 rfl rfl) (fun _ _=>rfl)) eU cw) (@am _ _ _ _ _ (@be _ _ _ _ _ _ _ _ 17 ok (az g) (su g) (JA _) (@aa _ _ _ 0 _ _ _ a7 rfl rfl)) (fun _=>rfl)) (fun _=>rfl) (fun _ _=>rfl))⟩
theorem Ae (g:GA):(Gk g).an[18]?=some (tS "_rewrite_prefixes"):=by kernel_rfl
theorem JB (P:Params):takerIn (KK P) 371 (tS "_rewrite_prefixes")=some none:=by kernel_rfl
noncomputable def EU:aD 0 bj (c7 6):=⟨_,fun g ok ba=>(@ad _ _ _ _ _ _ _ _ (@aa _ _ _ 4 _ _ _ a7 rfl rfl) (@am _ _ _ _ _ (@be _ _ _ _ _ _ _ _ 18 ok (az g) (Ae g) (JB _) (@aa _ _ _ 0 _ _ _ a7 rfl rfl)) (fun _=>rfl)) (fun _=>rfl) (fun _ _=>rfl))⟩
theorem pu (g:GA):(Gk g).an[19]?=some (tS "_qname_aware_tags"):=by kernel_rfl
theorem AN (P:Params):takerIn (KK P) 371 (tS "_qname_aware_tags")=some none:=by kernel_rfl
noncomputable def EV:aD 0 bj (af (bt (c7 7)) 0):=⟨_,fun g ok ba=>(@ad _ _ _ _ _ _ _ _ eU (@am _ _ _ _ _ (@be _ _ _ _ _ _ _ _ 19 ok (az g) (pu g) (AN _) (@aa _ _ _ 0 _ _ _ a7 rfl rfl)) (fun _=>rfl)) (fun _=>rfl) (fun _ _=>rfl))⟩
noncomputable def EW:aD 0 bj (af (gg (c7 7)) 0):=⟨_,fun g ok ba=>(@ad _ _ _ _ _ _ _ _ cw (@am _ _ _ _ _ (@be _ _ _ _ _ _ _ _ 19 ok (az g) (pu g) (AN _) (@aa _ _ _ 0 _ _ _ a7 rfl rfl)) (fun _=>rfl)) (fun _=>rfl) (fun _ _=>rfl))⟩
noncomputable def EX:aD 0 bj (c7 7):=⟨_,fun g ok ba=>(@bL _ _ _ _ _ _ _ _ _ _ (@bo _ _ _ _ _ (@aa _ _ _ 5 _ _ _ a7 rfl rfl) (fun _ _=>rfl)) (@aP _ _ _ (bt (c7 7)) 1 _ (by kernel_rfl) (@ab _ _ _ _ _ _ _ (@aG _ _ _ EV g ok ba) al)) (@aP _ _ _ (gg (c7 7)) 1 _ (by kernel_rfl) (@ab _ _ _ _ _ _ _ (@aG _ _ _ EW g ok ba) al)))⟩
theorem sx (g:GA):(Gk g).an[20]?=some (tS "_find_qname_aware_attrs"):=by kernel_rfl
theorem AP (P:Params):takerIn (KK P) 371 (tS "_find_qname_aware_attrs")=some none:=by kernel_rfl
noncomputable def xN:aD 0 bj (af (bt (c7 8)) 0):=⟨_,fun g ok ba=>(@ad _ _ _ _ _ _ _ _ eU (@am _ _ _ _ _ (@be _ _ _ _ _ _ _ _ 20 ok (az g) (sx g) (AP _) (@aa _ _ _ 0 _ _ _ a7 rfl rfl)) (fun _=>rfl)) (fun _=>rfl) (fun _ _=>rfl))⟩
noncomputable def xO:aD 0 bj (af (gg (c7 8)) 0):=⟨_,fun g ok ba=>(@ad _ _ _ _ _ _ _ _ cw (@am _ _ _ _ _ (@be _ _ _ _ _ _ _ _ 20 ok (az g) (sx g) (AP _) (@aa _ _ _ 0 _ _ _ a7 rfl rfl)) (fun _=>rfl)) (fun _=>rfl) (fun _ _=>rfl))⟩
noncomputable def xP:aD 0 bj (c7 8):=⟨_,fun g ok ba=>(@bL _ _ _ _ _ _ _ _ _ _ (@bo _ _ _ _ _ (@aa _ _ _ 6 _ _ _ a7 rfl rfl) (fun _ _=>rfl)) (@aP _ _ _ (bt (c7 8)) 1 _ (by kernel_rfl) (@ab _ _ _ _ _ _ _ (@aG _ _ _ xN g ok ba) al)) (@aP _ _ _ (gg (c7 8)) 1 _ (by kernel_rfl) (@ab _ _ _ _ _ _ _ (@aG _ _ _ xO g ok ba) al)))⟩
theorem KG:(tS "http://www.w3.org/XML/1998/namespace")=(⟨([104,116,116,112,58,47,47,119,119,119,46,119,51,46,111,114,103,47,88,77,76,47,49,57,57,56,47,110,97,109,101,115,112,97,99,101]:List Nat).toArray⟩:Str):=by kernel_rfl
theorem KJ:(tS "xml")=(⟨([120,109,108]:List Nat).toArray⟩:Str):=by kernel_rfl
theorem j9 (g:GA):(Gk g).an[21]?=some (tS "_declared_ns_stack"):=by kernel_rfl
theorem JC (P:Params):takerIn (KK P) 371 (tS "_declared_ns_stack")=some none:=by kernel_rfl
noncomputable def xQ:aD 0 bj (c7 9):=⟨_,fun g ok ba=>(@ad _ _ _ _ _ _ _ _ (@b7 _ _ _ _ _ _ ok (@ac _ _ _ _ _ _ _ (@b7 _ _ _ _ _ _ ok (@ac _ _ _ _ _ _ _ (@aV _ _ _ _ _ _ _ ok (@ac _ _ _ _ _ _ _ (@bn _ _ _ _ _ _ _ KG) (@ac _ _ _ _ _ _ _ (@bn _ _ _ _ _ _ _ KJ) ae (fun _ _=>rfl)) (fun _ _=>rfl)) (by decide)) ae (fun _ _=>rfl))) ae (fun _ _=>rfl))) (@am _ _ _ _ _ (@be _ _ _ _ _ _ _ _ 21 ok (az g) (j9 g) (JC _) (@aa _ _ _ 0 _ _ _ a7 rfl rfl)) (fun _=>rfl)) (fun _=>rfl) (fun _ _=>rfl))⟩
theorem ka (g:GA):(Gk g).an[22]?=some (tS "_ns_stack"):=by kernel_rfl
theorem JD (P:Params):takerIn (KK P) 371 (tS "_ns_stack")=some none:=by kernel_rfl
noncomputable def xR:aD 0 bj (c7 10):=⟨_,fun g ok ba=>(@ad _ _ _ _ _ _ _ _ (@b7 _ _ _ _ _ _ ok ae) (@am _ _ _ _ _ (@be _ _ _ _ _ _ _ _ 22 ok (az g) (ka g) (JD _) (@aa _ _ _ 0 _ _ _ a7 rfl rfl)) (fun _=>rfl)) (fun _=>rfl) (fun _ _=>rfl))⟩
theorem Kg (P:Params):nsIn (KK P) mainGlobals (tS "_namespace_map")=some (some (.ref 265)):=by kernel_rfl
theorem HT:cS (tS "_namespace_map"):=by kernel_rfl
theorem l7 (P:Params):findIn (KK P) (.ref 371) (tS "_ns_stack")=some none:=by kernel_rfl
noncomputable def xS:aD 0 bj (af (bt (c7 11)) 0):=⟨_,fun g ok ba=>(@aS _ _ _ _ _ _ (@aB _ _ _ _ _ _ _ _ _ _ _ _ _ (@bJ _ _ _ _ _ (@aY _ _ _ _ _ _ _ _ 22 ok (az g) (ka g) (l7 _) (@aa _ _ _ 0 _ _ _ a7 rfl rfl) (fun _=>rfl))) (@ac _ _ _ _ _ _ _ (@wE _ _ _ _ _ 10 11 _ _ _ _ _ _ _ ok rfl (HM g) rfl (Kg _) HT uG (by kernel_rfl) (LP (by kernel_rfl)) rfl) ae (fun _ _=>rfl)) aw (fun _=>rfl) rfl (fun _ _=>rfl) (fun _ _=>rfl) (fun _ _=>rfl) (fun _ _=>rfl)) (fun _=>rfl))⟩
noncomputable def xT:aD 0 bj (c7 11):=⟨_,fun g ok ba=>(@bL _ _ _ _ _ _ _ _ _ _ (@pq _ _ _ _ _ _ (@bo _ _ _ _ _ (@aa _ _ _ 4 _ _ _ a7 rfl rfl) (fun _ _=>rfl))) (@aP _ _ _ (bt (c7 11)) 1 _ (by kernel_rfl) (@ab _ _ _ _ _ _ _ (@aG _ _ _ xS g ok ba) al)) al)⟩
noncomputable def xU:aD 0 bj (c7 12):=⟨_,fun g ok ba=>(@aS _ _ _ _ _ _ (@aB _ _ _ _ _ _ _ _ _ _ _ _ _ (@bJ _ _ _ _ _ (@aY _ _ _ _ _ _ _ _ 22 ok (az g) (ka g) (l7 _) (@aa _ _ _ 0 _ _ _ a7 rfl rfl) (fun _=>rfl))) (@ac _ _ _ _ _ _ _ (@b7 _ _ _ _ _ _ ok ae) ae (fun _ _=>rfl)) aw (fun _=>rfl) rfl (fun _ _=>rfl) (fun _ _=>rfl) (fun _ _=>rfl) (fun _ _=>rfl)) (fun _=>rfl))⟩
theorem lU (g:GA):(Gk g).an[23]?=some (tS "_prefix_map"):=by kernel_rfl
theorem JE (P:Params):takerIn (KK P) 371 (tS "_prefix_map")=some none:=by kernel_rfl
noncomputable def xV:aD 0 bj (c7 13):=⟨_,fun g ok ba=>(@ad _ _ _ _ _ _ _ _ (@iP _ _ _ _ ok) (@am _ _ _ _ _ (@be _ _ _ _ _ _ _ _ 23 ok (az g) (lU g) (JE _) (@aa _ _ _ 0 _ _ _ a7 rfl rfl)) (fun _=>rfl)) (fun _=>rfl) (fun _ _=>rfl))⟩
theorem lV (g:GA):(Gk g).an[24]?=some (tS "_preserve_space"):=by kernel_rfl
theorem JF (P:Params):takerIn (KK P) 371 (tS "_preserve_space")=some none:=by kernel_rfl
noncomputable def xW:aD 0 bj (c7 14):=⟨_,fun g ok ba=>(@ad _ _ _ _ _ _ _ _ (@b7 _ _ _ _ _ _ ok (@ac _ _ _ _ _ _ _ b0 ae (fun _ _=>rfl))) (@am _ _ _ _ _ (@be _ _ _ _ _ _ _ _ 24 ok (az g) (lV g) (JF _) (@aa _ _ _ 0 _ _ _ a7 rfl rfl)) (fun _=>rfl)) (fun _=>rfl) (fun _ _=>rfl))⟩
theorem Af (g:GA):(Gk g).an[25]?=some (tS "_pending_start"):=by kernel_rfl
theorem AQ (P:Params):takerIn (KK P) 371 (tS "_pending_start")=some none:=by kernel_rfl
noncomputable def xX:aD 0 bj (c7 15):=⟨_,fun g ok ba=>(@ad _ _ _ _ _ _ _ _ cw (@am _ _ _ _ _ (@be _ _ _ _ _ _ _ _ 25 ok (az g) (Af g) (AQ _) (@aa _ _ _ 0 _ _ _ a7 rfl rfl)) (fun _=>rfl)) (fun _=>rfl) (fun _ _=>rfl))⟩
theorem Ag (g:GA):(Gk g).an[26]?=some (tS "_root_seen"):=by kernel_rfl
theorem AR (P:Params):takerIn (KK P) 371 (tS "_root_seen")=some none:=by kernel_rfl
noncomputable def xY:aD 0 bj (c7 16):=⟨_,fun g ok ba=>(@ad _ _ _ _ _ _ _ _ b0 (@am _ _ _ _ _ (@be _ _ _ _ _ _ _ _ 26 ok (az g) (Ag g) (AR _) (@aa _ _ _ 0 _ _ _ a7 rfl rfl)) (fun _=>rfl)) (fun _=>rfl) (fun _ _=>rfl))⟩
theorem Ah (g:GA):(Gk g).an[27]?=some (tS "_root_done"):=by kernel_rfl
theorem AS (P:Params):takerIn (KK P) 371 (tS "_root_done")=some none:=by kernel_rfl
noncomputable def xZ:aD 0 bj (c7 17):=⟨_,fun g ok ba=>(@ad _ _ _ _ _ _ _ _ b0 (@am _ _ _ _ _ (@be _ _ _ _ _ _ _ _ 27 ok (az g) (Ah g) (AS _) (@aa _ _ _ 0 _ _ _ a7 rfl rfl)) (fun _=>rfl)) (fun _=>rfl) (fun _ _=>rfl))⟩
theorem sy (g:GA):(Gk g).an[28]?=some (tS "_ignored_depth"):=by kernel_rfl
theorem JG (P:Params):takerIn (KK P) 371 (tS "_ignored_depth")=some none:=by kernel_rfl
noncomputable def x1:aD 0 bj (c7 18):=⟨_,fun g ok ba=>(@ad _ _ _ _ _ _ _ _ ay (@am _ _ _ _ _ (@be _ _ _ _ _ _ _ _ 28 ok (az g) (sy g) (JG _) (@aa _ _ _ 0 _ _ _ a7 rfl rfl)) (fun _=>rfl)) (fun _=>rfl) (fun _ _=>rfl))⟩
noncomputable def uV:(D:List V→List V→DE) ×' (∀ g:GA,(Gk g).Ok→Bare g→FN (Gk g) 1 288 [] D):=⟨_,fun g ok ba=>bf (lv:=0) (fd:=nW) (body:=gH) (sc:=bj) ok (DO g) (@aX _ _ _ _ 2 [(0,.pos 0),(1,.pos 1),(2,.dfl (.boo false) (.bool false)),(3,.dfl (.boo false) (.bool false)),(4,.dfl (.boo false) (.bool false)),(5,.dfl .non .none),(6,.dfl .non .none),(7,.dfl .non .none),(8,.dfl .non .none)] [(tS "self"),(tS "write"),(tS "with_comments"),(tS "strip_text"),(tS "rewrite_prefixes"),(tS "qname_aware_tags"),(tS "qname_aware_attrs"),(tS "exclude_attrs"),(tS "exclude_tags")] ok rfl (bp rfl) (aE (by kernel_rfl)) (bV rfl) (fun h vals kvals X h1 h2=>by obtain ⟨u0,u1,rfl⟩:=lt h1; obtain rfl:=eA h2; exact Looks.of_peek (K:=KK g.w.params) X (by kernel_rfl))) (@aP _ _ _ gH 19 _ (by kernel_rfl) (@ab _ _ _ _ _ _ _ (@aG _ _ _ EO g ok ba) (@ab _ _ _ _ _ _ _ (@aG _ _ _ EP g ok ba) (@ab _ _ _ _ _ _ _ (@aG _ _ _ EQ g ok ba) (@ab _ _ _ _ _ _ _ (@aG _ _ _ ER g ok ba) (@ab _ _ _ _ _ _ _ (@aG _ _ _ ES g ok ba) (@ab _ _ _ _ _ _ _ (@aG _ _ _ ET g ok ba) (@ab _ _ _ _ _ _ _ (@aG _ _ _ EU g ok ba) (@ab _ _ _ _ _ _ _ (@aG _ _ _ EX g ok ba) (@ab _ _ _ _ _ _ _ (@aG _ _ _ xP g ok ba) (@ab _ _ _ _ _ _ _ (@aG _ _ _ xQ g ok ba) (@ab _ _ _ _ _ _ _ (@aG _ _ _ xR g ok ba) (@ab _ _ _ _ _ _ _ (@aG _ _ _ xT g ok ba) (@ab _ _ _ _ _ _ _ (@aG _ _ _ xU g ok ba) (@ab _ _ _ _ _ _ _ (@aG _ _ _ xV g ok ba) (@ab _ _ _ _ _ _ _ (@aG _ _ _ xW g ok ba) (@ab _ _ _ _ _ _ _ (@aG _ _ _ xX g ok ba) (@ab _ _ _ _ _ _ _ (@aG _ _ _ xY g ok ba) (@ab _ _ _ _ _ _ _ (@aG _ _ _ xZ g ok ba) (@ab _ _ _ _ _ _ _ (@aG _ _ _ x1 g ok ba) al))))))))))))))))))))⟩
noncomputable def Hk:List V→List V→DE:=uV.1
theorem Cd (g:GA) (ok:(Gk g).Ok) (ba:Bare g):FN (Gk g) 1 288 [] Hk:=uV.2 g ok ba
noncomputable def Dj:List (Str×NameKind):=[((tS "self"),.local),((tS "qname"),.local),((tS "uri"),.local),((tS "tag"),.local),((tS "prefixes_seen"),.local),((tS "u"),.local),((tS "prefix"),.local),((tS "set"),.globalImplicit),((tS "len"),.globalImplicit),((tS "ValueError"),.globalImplicit)]
noncomputable def bQ:Sc:=⟨Dj,true,310,(tS "C14NWriterTarget._qname.<locals>.")⟩
theorem aC:NamesOk bQ:=by unfold NamesOk; kernel_rfl
noncomputable def nX:FuncData:=dE (cT P0 311) default
noncomputable def gI:List PySem.Stmt:=bw (some nX)
noncomputable abbrev dh:=af gI
theorem DP (g:GA):FnOk (Gk g) 311 nX gI bQ:=FnOk.of (by kernel_rfl) (by kernel_rfl)
theorem I3:(tS "{")=(⟨([123]:List Nat).toArray⟩:Str):=by kernel_rfl
theorem AF:(tS "}")=(⟨([125]:List Nat).toArray⟩:Str):=by kernel_rfl
theorem fY:(tS "")=(⟨([]:List Nat).toArray⟩:Str):=by kernel_rfl
noncomputable def EY:aD 0 bQ (af (bt (dh 0)) 0):=⟨_,fun g ok ba=>(@ad _ _ _ _ _ _ _ _ (@eV _ _ _ _ _ _ _ _ _ _ (@a9 _ _ _ _ _ _ _ _ _ (@bv _ _ _ _ _ _ _ _ _ _ _ ok (@aa _ _ _ 1 _ _ _ aC rfl rfl) ck (@bN _ _ _ _ _ ay)) (@bn _ _ _ _ _ _ _ I3) rfl) (@aB _ _ _ _ _ _ _ _ _ _ _ _ _ (@rZ _ _ _ _ _ ok (@bv _ _ _ _ _ _ _ _ _ _ _ ok (@aa _ _ _ 1 _ _ _ aC rfl rfl) (@bN _ _ _ _ _ ay) ck)) (@ac _ _ _ _ _ _ _ (@bn _ _ _ _ _ _ _ AF) (@ac _ _ _ _ _ _ _ ay ae (fun _ _=>rfl)) (fun _ _=>rfl)) aw (fun _=>rfl) rfl (fun _ _=>rfl) (fun _ _=>rfl) (fun _ _=>rfl) (fun _ _=>rfl)) (@aV _ _ _ _ _ _ _ ok (@ac _ _ _ _ _ _ _ (@bn _ _ _ _ _ _ _ fY) (@ac _ _ _ _ _ _ _ (@aa _ _ _ 1 _ _ _ aC rfl rfl) ae (fun _ _=>rfl)) (fun _ _=>rfl)) (by decide))) (@am _ _ _ _ _ (@bX _ _ _ _ _ _ _ (@aO _ _ _ _ _ _ _ (@aj _ _ _ 2 _ _ _ rfl (.inl rfl)) (@aO _ _ _ _ _ _ _ (@aj _ _ _ 3 _ _ _ rfl (.inl rfl)) cG (fun _=>rfl)) (fun _=>rfl)) (fun _=>rfl) (fun _=>rfl)) (fun _=>rfl)) (fun _=>rfl) (fun _ _=>rfl))⟩
noncomputable def EZ:aD 0 bQ (af (gg (dh 0)) 0):=⟨_,fun g ok ba=>(@ad _ _ _ _ _ _ _ _ (@aa _ _ _ 1 _ _ _ aC rfl rfl) (@am _ _ _ _ _ (@aj _ _ _ 3 _ _ _ rfl (.inl rfl)) (fun _=>rfl)) (fun _=>rfl) (fun _ _=>rfl))⟩
noncomputable def E0:aD 0 bQ (dh 0):=⟨_,fun g ok ba=>(@bL _ _ _ _ _ _ _ _ _ _ (@a9 _ _ _ _ _ _ _ _ _ (@aa _ _ _ 2 _ _ _ aC rfl rfl) cw rfl) (@aP _ _ _ (bt (dh 0)) 1 _ (by kernel_rfl) (@ab _ _ _ _ _ _ _ (@aG _ _ _ EY g ok ba) al)) (@aP _ _ _ (gg (dh 0)) 1 _ (by kernel_rfl) (@ab _ _ _ _ _ _ _ (@aG _ _ _ EZ g ok ba) al)))⟩
theorem HH (g:GA):Bltin (Gk g) (tS "set") (.type "set"):=⟨by kernel_rfl,by decide,PyProof.Rows.Boot.«set»,by kernel_rfl⟩
noncomputable def E1:aD 0 bQ (dh 1):=⟨_,fun g ok ba=>(@ad _ _ _ _ _ _ _ _ (@aM _ _ _ _ _ _ _ _ _ _ _ _ (@aJ _ _ _ _ 7 _ _ _ _ ok rfl (HH g) (AZ ok)) ae aw (fun _ _=>rfl) (fun _ _=>rfl) (fun _ _=>rfl)) (@am _ _ _ _ _ (@aj _ _ _ 4 _ _ _ rfl (.inl rfl)) (fun _=>rfl)) (fun _=>rfl) (fun _ _=>rfl))⟩
theorem sb (g:GA):(Gk g).an[29]?=some (tS "_iter_namespaces"):=by kernel_rfl
noncomputable def BE:FuncData:=dE (cT P0 296) default
theorem tI (g:GA):GenFn (Gk g) 296 BE (tS "self") (tS "namespaces") (tS "_reversed") (tS "ns_stack") ⟨203,12,203,22⟩ ⟨203,26,203,35⟩ ⟨203,36,203,44⟩ ⟨203,26,203,45⟩ ⟨204,15,204,25⟩ ⟨205,27,205,37⟩ ⟨205,16,205,37⟩ ⟨205,16,205,37⟩ ⟨204,12,205,37⟩ ⟨203,8,205,37⟩:=GenFn.of (by kernel_rfl) (by kernel_rfl) (by kernel_rfl) (by kernel_rfl) (by kernel_rfl) (by kernel_rfl) (fun sv av=>by kernel_rfl)
theorem uf (P:Params):findIn (KK P) (.ref 371) (tS "_iter_namespaces")=some (some (.ref 296)):=by kernel_rfl
theorem v6 (P:Params):typeIn (KK P) (.ref 296)=some (.type "function"):=by kernel_rfl
theorem jk (P:Params):findIn (KK P) (.ref 371) (tS "_declared_ns_stack")=some none:=by kernel_rfl
theorem vA:(tS ":")=(⟨([58]:List Nat).toArray⟩:Str):=by kernel_rfl
noncomputable def E2:G6 0 bQ (af (ca (dh 2)) 0):=⟨_,fun g ok=>(@bL _ _ _ _ _ _ _ _ _ _ (@du _ _ _ _ _ _ _ (@bH _ _ _ _ _ _ _ (@a9 _ _ _ _ _ _ _ _ _ (@aa _ _ _ 5 _ _ _ aC rfl rfl) (@aa _ _ _ 2 _ _ _ aC rfl rfl) rfl) (@bH _ _ _ _ _ _ _ (@a9 _ _ _ _ _ _ _ _ _ (@aa _ _ _ 6 _ _ _ aC rfl rfl) (@aa _ _ _ 4 _ _ _ aC rfl rfl) rfl) cU))) (@ab _ _ _ _ _ _ _ (@aK _ _ _ _ _ _ (@aV _ _ _ _ _ _ _ ok (@ac _ _ _ _ _ _ _ (@eV _ _ _ _ _ _ _ _ _ _ (@bo _ _ _ _ _ (@aa _ _ _ 6 _ _ _ aC rfl rfl) (fun _ _=>rfl)) (@en _ _ _ _ _ _ (@gu _ _ _ _ _ _ _ _ (@aa _ _ _ 6 _ _ _ aC rfl rfl) (@dD _ _ _ _ _ _ _ _ _ vA rfl (@gu _ _ _ _ _ _ _ _ (@aa _ _ _ 3 _ _ _ aC rfl rfl) j8 (fun _=>rfl)) (fun _=>rfl)) (fun _=>rfl)) (by decide) (by decide)) (@aa _ _ _ 3 _ _ _ aC rfl rfl)) (@ac _ _ _ _ _ _ _ (@aa _ _ _ 3 _ _ _ aC rfl rfl) (@ac _ _ _ _ _ _ _ (@aa _ _ _ 2 _ _ _ aC rfl rfl) ae (fun _ _=>rfl)) (fun _ _=>rfl)) (fun _ _=>rfl)) (by decide))) al) al)⟩
noncomputable def E3:G6 0 bQ (af (ca (dh 2)) 1):=⟨_,fun g ok=>(@aS _ _ _ _ _ _ (@aB _ _ _ _ _ _ _ _ _ _ _ _ _ (@rW _ _ _ _ _ (@aa _ _ _ 4 _ _ _ aC rfl rfl)) (@ac _ _ _ _ _ _ _ (@aa _ _ _ 6 _ _ _ aC rfl rfl) ae (fun _ _=>rfl)) aw (fun _=>rfl) rfl (fun _ _=>rfl) (fun _ _=>rfl) (fun _ _=>rfl) (fun _ _=>rfl)) (fun _=>rfl))⟩
noncomputable def E4:aD 0 bQ (dh 2):=⟨_,fun g ok ba=>(@Ab _ _ _ _ _ _ _ _ _ _ _ _ _ _ _ _ 29 _ _ _ _ _ _ _ _ _ _ _ _ _ _ _ _ ok ba.gn (az g) (sb g) (uf _) (v6 _) (tI g) (@aa _ _ _ 0 _ _ _ aC rfl rfl) (@aY _ _ _ _ _ _ _ _ 21 ok (az g) (j9 g) (jk _) (@aa _ _ _ 0 _ _ _ aC rfl rfl) (fun _=>rfl)) (fun _=>rfl) rfl (fun _ _=>rfl) (fun _ _=>rfl) (fun _ _=>rfl) (fun _ _=>rfl) (mf g ok (fun g ok=>(@bX _ _ _ _ _ _ _ (@aO _ _ _ _ _ _ _ (@aj _ _ _ 5 _ _ _ rfl (.inl rfl)) (@aO _ _ _ _ _ _ _ (@aj _ _ _ 6 _ _ _ rfl (.inl rfl)) cG (fun _=>rfl)) (fun _=>rfl)) (fun _=>rfl) (fun _=>rfl)))) (me g ok (fun g ok=>(@aP _ _ _ (ca (dh 2)) 2 _ (by kernel_rfl) (@ab _ _ _ _ _ _ _ (@IN _ _ _ E2 g ok) (@ab _ _ _ _ _ _ _ (@IN _ _ _ E3 g ok) al))))))⟩
theorem B3 (P:Params):findIn (KK P) (.ref 371) (tS "_rewrite_prefixes")=some none:=by kernel_rfl
theorem li (P:Params):findIn (KK P) (.ref 371) (tS "_prefix_map")=some none:=by kernel_rfl
noncomputable def E5:aD 0 bQ (af (bt (af (bt (dh 3)) 0)) 0):=⟨_,fun g ok ba=>(@ad _ _ _ _ _ _ _ _ (@bS _ _ _ _ _ _ _ _ ok (@aY _ _ _ _ _ _ _ _ 23 ok (az g) (lU g) (li _) (@aa _ _ _ 0 _ _ _ aC rfl rfl) (fun _=>rfl)) (@aa _ _ _ 2 _ _ _ aC rfl rfl)) (@am _ _ _ _ _ (@aj _ _ _ 6 _ _ _ rfl (.inl rfl)) (fun _=>rfl)) (fun _=>rfl) (fun _ _=>rfl))⟩
theorem I4:(tS "n")=(⟨([110]:List Nat).toArray⟩:Str):=by kernel_rfl
noncomputable def E6:aD 0 bQ (af (gg (af (bt (dh 3)) 0)) 0):=⟨_,fun g ok ba=>(@ad _ _ _ _ _ _ _ _ (@en _ _ _ _ _ _ (@dD _ _ _ _ _ _ _ _ _ I4 rfl (@Ht _ _ _ _ _ _ _ _ (@aM _ _ _ _ _ _ _ _ _ _ _ _ (@aJ _ _ _ _ 8 _ _ _ _ ok rfl (jf g) AY) (@ac _ _ _ _ _ _ _ (@aY _ _ _ _ _ _ _ _ 23 ok (az g) (lU g) (li _) (@aa _ _ _ 0 _ _ _ aC rfl rfl) (fun _=>rfl)) ae (fun _ _=>rfl)) aw (fun _ _=>rfl) (fun _ _=>rfl) (fun _ _=>rfl)) j8 (fun _=>rfl)) (fun _=>rfl)) (by decide) (by decide)) (@gt _ _ _ _ _ _ _ _ (@aj _ _ _ 6 _ _ _ rfl (.inl rfl)) (@am _ _ _ _ _ (@nq _ _ _ _ _ _ _ _ ok (@aY _ _ _ _ _ _ _ _ 23 ok (az g) (lU g) (li _) (@aa _ _ _ 0 _ _ _ aC rfl rfl) (fun _=>rfl)) (@aa _ _ _ 2 _ _ _ aC rfl rfl)) (fun _=>rfl)) (fun _=>rfl) (fun _=>⟨_,_,rfl⟩)) (fun _=>rfl) (fun _ _=>rfl))⟩
noncomputable def E7:aD 0 bQ (af (bt (dh 3)) 0):=⟨_,fun g ok ba=>(@bL _ _ _ _ _ _ _ _ _ _ (@a9 _ _ _ _ _ _ _ _ _ (@aa _ _ _ 2 _ _ _ aC rfl rfl) (@aY _ _ _ _ _ _ _ _ 23 ok (az g) (lU g) (li _) (@aa _ _ _ 0 _ _ _ aC rfl rfl) (fun _=>rfl)) rfl) (@aP _ _ _ (bt (af (bt (dh 3)) 0)) 1 _ (by kernel_rfl) (@ab _ _ _ _ _ _ _ (@aG _ _ _ E5 g ok ba) al)) (@aP _ _ _ (gg (af (bt (dh 3)) 0)) 1 _ (by kernel_rfl) (@ab _ _ _ _ _ _ _ (@aG _ _ _ E6 g ok ba) al)))⟩
noncomputable def x2:aD 0 bQ (af (bt (dh 3)) 1):=⟨_,fun g ok ba=>(@aS _ _ _ _ _ _ (@aB _ _ _ _ _ _ _ _ _ _ _ _ _ (@bJ _ _ _ _ _ (@bS _ _ _ _ _ _ _ _ ok (@aY _ _ _ _ _ _ _ _ 21 ok (az g) (j9 g) (jk _) (@aa _ _ _ 0 _ _ _ aC rfl rfl) (fun _=>rfl)) (@dK _ _ _ _ _ _ ay))) (@ac _ _ _ _ _ _ _ (@aV _ _ _ _ _ _ _ ok (@ac _ _ _ _ _ _ _ (@aa _ _ _ 2 _ _ _ aC rfl rfl) (@ac _ _ _ _ _ _ _ (@aa _ _ _ 6 _ _ _ aC rfl rfl) ae (fun _ _=>rfl)) (fun _ _=>rfl)) (by decide)) ae (fun _ _=>rfl)) aw (fun _=>rfl) rfl (fun _ _=>rfl) (fun _ _=>rfl) (fun _ _=>rfl) (fun _ _=>rfl)) (fun _=>rfl))⟩
noncomputable def x3:aD 0 bQ (af (bt (dh 3)) 2):=⟨_,fun g ok ba=>(@aK _ _ _ _ _ _ (@aV _ _ _ _ _ _ _ ok (@ac _ _ _ _ _ _ _ (@en _ _ _ _ _ _ (@gu _ _ _ _ _ _ _ _ (@aa _ _ _ 6 _ _ _ aC rfl rfl) (@dD _ _ _ _ _ _ _ _ _ vA rfl (@gu _ _ _ _ _ _ _ _ (@aa _ _ _ 3 _ _ _ aC rfl rfl) j8 (fun _=>rfl)) (fun _=>rfl)) (fun _=>rfl)) (by decide) (by decide)) (@ac _ _ _ _ _ _ _ (@aa _ _ _ 3 _ _ _ aC rfl rfl) (@ac _ _ _ _ _ _ _ (@aa _ _ _ 2 _ _ _ aC rfl rfl) ae (fun _ _=>rfl)) (fun _ _=>rfl)) (fun _ _=>rfl)) (by decide)))⟩
noncomputable def x4:aD 0 bQ (dh 3):=⟨_,fun g ok ba=>(@bL _ _ _ _ _ _ _ _ _ _ (@bo _ _ _ _ _ (@aY _ _ _ _ _ _ _ _ 18 ok (az g) (Ae g) (B3 _) (@aa _ _ _ 0 _ _ _ aC rfl rfl) (fun _=>rfl)) (fun _ _=>rfl)) (@aP _ _ _ (bt (dh 3)) 3 _ (by kernel_rfl) (@ab _ _ _ _ _ _ _ (@aG _ _ _ E7 g ok ba) (@ab _ _ _ _ _ _ _ (@aG _ _ _ x2 g ok ba) (@ab _ _ _ _ _ _ _ (@aG _ _ _ x3 g ok ba) al)))) al)⟩
noncomputable def x5:aD 0 bQ (dh 4):=⟨_,fun g ok ba=>(@bL _ _ _ _ _ _ _ _ _ _ (@du _ _ _ _ _ _ _ (@bH _ _ _ _ _ _ _ (@pq _ _ _ _ _ _ (@bo _ _ _ _ _ (@aa _ _ _ 2 _ _ _ aC rfl rfl) (fun _ _=>rfl))) (@bH _ _ _ _ _ _ _ (@a9 _ _ _ _ _ _ _ _ _ (@bn _ _ _ _ _ _ _ fY) (@aa _ _ _ 4 _ _ _ aC rfl rfl) rfl) cU))) (@ab _ _ _ _ _ _ _ (@aK _ _ _ _ _ _ (@aV _ _ _ _ _ _ _ ok (@ac _ _ _ _ _ _ _ (@aa _ _ _ 3 _ _ _ aC rfl rfl) (@ac _ _ _ _ _ _ _ (@aa _ _ _ 3 _ _ _ aC rfl rfl) (@ac _ _ _ _ _ _ _ (@aa _ _ _ 2 _ _ _ aC rfl rfl) ae (fun _ _=>rfl)) (fun _ _=>rfl)) (fun _ _=>rfl)) (by decide))) al) al)⟩
noncomputable def x6:G6 0 bQ (af (bt (af (ca (dh 5)) 0)) 0):=⟨_,fun g ok=>(@aS _ _ _ _ _ _ (@aB _ _ _ _ _ _ _ _ _ _ _ _ _ (@bJ _ _ _ _ _ (@bS _ _ _ _ _ _ _ _ ok (@aY _ _ _ _ _ _ _ _ 21 ok (az g) (j9 g) (jk _) (@aa _ _ _ 0 _ _ _ aC rfl rfl) (fun _=>rfl)) (@dK _ _ _ _ _ _ ay))) (@ac _ _ _ _ _ _ _ (@aV _ _ _ _ _ _ _ ok (@ac _ _ _ _ _ _ _ (@aa _ _ _ 2 _ _ _ aC rfl rfl) (@ac _ _ _ _ _ _ _ (@aa _ _ _ 6 _ _ _ aC rfl rfl) ae (fun _ _=>rfl)) (fun _ _=>rfl)) (by decide)) ae (fun _ _=>rfl)) aw (fun _=>rfl) rfl (fun _ _=>rfl) (fun _ _=>rfl) (fun _ _=>rfl) (fun _ _=>rfl)) (fun _=>rfl))⟩
noncomputable def x7:G6 0 bQ (af (bt (af (ca (dh 5)) 0)) 1):=⟨_,fun g ok=>(@aK _ _ _ _ _ _ (@aV _ _ _ _ _ _ _ ok (@ac _ _ _ _ _ _ _ (@eV _ _ _ _ _ _ _ _ _ _ (@bo _ _ _ _ _ (@aa _ _ _ 6 _ _ _ aC rfl rfl) (fun _ _=>rfl)) (@en _ _ _ _ _ _ (@gu _ _ _ _ _ _ _ _ (@aa _ _ _ 6 _ _ _ aC rfl rfl) (@dD _ _ _ _ _ _ _ _ _ vA rfl (@gu _ _ _ _ _ _ _ _ (@aa _ _ _ 3 _ _ _ aC rfl rfl) j8 (fun _=>rfl)) (fun _=>rfl)) (fun _=>rfl)) (by decide) (by decide)) (@aa _ _ _ 3 _ _ _ aC rfl rfl)) (@ac _ _ _ _ _ _ _ (@aa _ _ _ 3 _ _ _ aC rfl rfl) (@ac _ _ _ _ _ _ _ (@aa _ _ _ 2 _ _ _ aC rfl rfl) ae (fun _ _=>rfl)) (fun _ _=>rfl)) (fun _ _=>rfl)) (by decide)))⟩
noncomputable def x8:G6 0 bQ (af (ca (dh 5)) 0):=⟨_,fun g ok=>(@bL _ _ _ _ _ _ _ _ _ _ (@a9 _ _ _ _ _ _ _ _ _ (@aa _ _ _ 5 _ _ _ aC rfl rfl) (@aa _ _ _ 2 _ _ _ aC rfl rfl) rfl) (@aP _ _ _ (bt (af (ca (dh 5)) 0)) 2 _ (by kernel_rfl) (@ab _ _ _ _ _ _ _ (@IN _ _ _ x6 g ok) (@ab _ _ _ _ _ _ _ (@IN _ _ _ x7 g ok) al))) al)⟩
noncomputable def x9:aD 0 bQ (dh 5):=⟨_,fun g ok ba=>(@Ab _ _ _ _ _ _ _ _ _ _ _ _ _ _ _ _ 29 _ _ _ _ _ _ _ _ _ _ _ _ _ _ _ _ ok ba.gn (az g) (sb g) (uf _) (v6 _) (tI g) (@aa _ _ _ 0 _ _ _ aC rfl rfl) (@aY _ _ _ _ _ _ _ _ 22 ok (az g) (ka g) (l7 _) (@aa _ _ _ 0 _ _ _ aC rfl rfl) (fun _=>rfl)) (fun _=>rfl) rfl (fun _ _=>rfl) (fun _ _=>rfl) (fun _ _=>rfl) (fun _ _=>rfl) (mf g ok (fun g ok=>(@bX _ _ _ _ _ _ _ (@aO _ _ _ _ _ _ _ (@aj _ _ _ 5 _ _ _ rfl (.inl rfl)) (@aO _ _ _ _ _ _ _ (@aj _ _ _ 6 _ _ _ rfl (.inl rfl)) cG (fun _=>rfl)) (fun _=>rfl)) (fun _=>rfl) (fun _=>rfl)))) (me g ok (fun g ok=>(@aP _ _ _ (ca (dh 5)) 1 _ (by kernel_rfl) (@ab _ _ _ _ _ _ _ (@IN _ _ _ x8 g ok) al)))))⟩
noncomputable def ya:aD 0 bQ (dh 6):=⟨_,fun g ok ba=>(@bL _ _ _ _ _ _ _ _ _ _ (@pq _ _ _ _ _ _ (@bo _ _ _ _ _ (@aa _ _ _ 2 _ _ _ aC rfl rfl) (fun _ _=>rfl))) (@ab _ _ _ _ _ _ _ (@aK _ _ _ _ _ _ (@aV _ _ _ _ _ _ _ ok (@ac _ _ _ _ _ _ _ (@aa _ _ _ 3 _ _ _ aC rfl rfl) (@ac _ _ _ _ _ _ _ (@aa _ _ _ 3 _ _ _ aC rfl rfl) (@ac _ _ _ _ _ _ _ (@aa _ _ _ 2 _ _ _ aC rfl rfl) ae (fun _ _=>rfl)) (fun _ _=>rfl)) (fun _ _=>rfl)) (by decide))) al) al)⟩
noncomputable def uW:(D:List V→List V→DE) ×' (∀ g:GA,(Gk g).Ok→Bare g→FN (Gk g) 1 311 [] D):=⟨_,fun g ok ba=>bf (lv:=0) (fd:=nX) (body:=gI) (sc:=bQ) ok (DP g) (@aX _ _ _ _ 2 [(0,.pos 0),(1,.pos 1),(2,.dfl .non .none)] [(tS "self"),(tS "qname"),(tS "uri")] ok rfl (bp rfl) (aE (by kernel_rfl)) (bV rfl) (fun h vals kvals X h1 h2=>by obtain ⟨u0,u1,rfl⟩:=lt h1; obtain rfl:=eA h2; exact Looks.of_peek (K:=KK g.w.params) X (by kernel_rfl))) (@Hz _ _ _ gI 7 _ (by kernel_rfl) (@ab _ _ _ _ _ _ _ (@aG _ _ _ E0 g ok ba) (@ab _ _ _ _ _ _ _ (@aG _ _ _ E1 g ok ba) (@ab _ _ _ _ _ _ _ (@aG _ _ _ E4 g ok ba) (@ab _ _ _ _ _ _ _ (@aG _ _ _ x4 g ok ba) (@ab _ _ _ _ _ _ _ (@aG _ _ _ x5 g ok ba) (@ab _ _ _ _ _ _ _ (@aG _ _ _ x9 g ok ba) (@ab _ _ _ _ _ _ _ (@aG _ _ _ ya g ok ba) f9))))))))⟩
noncomputable def Hl:List V→List V→DE:=uW.1
theorem tq (g:GA) (ok:(Gk g).Ok) (ba:Bare g):FN (Gk g) 1 311 [] Hl:=uW.2 g ok ba
noncomputable def Dl:List (Str×NameKind):=[((tS "self"),.cell),((tS "tag"),.local),((tS "attrs"),.local),((tS "new_namespaces"),.local),((tS "qname_text"),.local),((tS "k"),.local),((tS "v"),.local),((tS "qnames"),.local),((tS "resolved_names"),.local),((tS "qname"),.local),((tS "qattrs"),.local),((tS "attr_name"),.local),((tS "value"),.local),((tS "parse_qname"),.cell),((tS "parsed_qnames"),.local),((tS "uri"),.local),((tS "attr_list"),.local),((tS "attr_qname"),.local),((tS "space_behaviour"),.local),((tS "write"),.local),((tS "_looks_like_prefix_name"),.globalImplicit),((tS "sorted"),.globalImplicit),((tS "_escape_cdata_c14n"),.globalImplicit)]
noncomputable def aN:Sc:=⟨Dl,true,346,(tS "C14NWriterTarget._start.<locals>.")⟩
theorem aA:NamesOk aN:=by unfold NamesOk; kernel_rfl
noncomputable def nZ:FuncData:=dE (cT P0 347) default
noncomputable def gK:List PySem.Stmt:=bw (some nZ)
noncomputable abbrev bq:=af gK
theorem DR (g:GA):FnOk (Gk g) 347 nZ gK aN:=FnOk.of (by kernel_rfl) (by kernel_rfl)
theorem B4 (P:Params):findIn (KK P) (.ref 371) (tS "_exclude_attrs")=some none:=by kernel_rfl
noncomputable def Fg:aD 3 aN (bq 0):=⟨_,fun g ok ba=>(@bL _ _ _ _ _ _ _ _ _ _ (@du _ _ _ _ _ _ _ (@bH _ _ _ _ _ _ _ (@a9 _ _ _ _ _ _ _ _ _ (@aY _ _ _ _ _ _ _ _ 16 ok (az g) (Ad g) (B4 _) (@aa _ _ _ 0 _ _ _ aA rfl rfl) (fun _=>rfl)) cw rfl) (@bH _ _ _ _ _ _ _ (@bo _ _ _ _ _ (@aa _ _ _ 2 _ _ _ aA rfl rfl) (fun _ _=>rfl)) cU))) f9 al)⟩
theorem CQ (P:Params):kdsCode (KK P) (.ref 346)=true:=by kernel_rfl
noncomputable def Fh:aD 3 aN (bq 1):=⟨_,fun g ok ba=>(@ad _ _ _ _ _ _ _ _ (@A6 _ _ _ _ _ _ _ _ _ ok (by decide) (CQ _) (@aa _ _ _ 1 _ _ _ aA rfl rfl) (@aa _ _ _ 2 _ _ _ aA rfl rfl) (fun _=>rfl) rfl) (@am _ _ _ _ _ (@aj _ _ _ 7 _ _ _ rfl (.inl rfl)) (fun _=>rfl)) (fun _=>rfl) (fun _ _=>rfl))⟩
noncomputable def Fi:aD 3 aN (bq 2):=⟨_,fun g ok ba=>(@ad _ _ _ _ _ _ _ _ (@iP _ _ _ _ ok) (@am _ _ _ _ _ (@aj _ _ _ 8 _ _ _ rfl (.inl rfl)) (fun _=>rfl)) (fun _=>rfl) (fun _ _=>rfl))⟩
noncomputable def Fj:aD 3 aN (af (bt (bq 3)) 0):=⟨_,fun g ok ba=>(@ad _ _ _ _ _ _ _ _ eU (@gt _ _ _ _ _ _ _ _ (@aj _ _ _ 9 _ _ _ rfl (.inl rfl)) (@am _ _ _ _ _ (@nq _ _ _ _ _ _ _ _ ok (@aa _ _ _ 8 _ _ _ aA rfl rfl) (@aa _ _ _ 4 _ _ _ aA rfl rfl)) (fun _=>rfl)) (fun _=>rfl) (fun _=>⟨_,_,rfl⟩)) (fun _=>rfl) (fun _ _=>rfl))⟩
noncomputable def Fk:aD 3 aN (af (bt (bq 3)) 1):=⟨_,fun g ok ba=>(@aS _ _ _ _ _ _ (@aB _ _ _ _ _ _ _ _ _ _ _ _ _ (@rW _ _ _ _ _ (@aa _ _ _ 7 _ _ _ aA rfl rfl)) (@ac _ _ _ _ _ _ _ (@aa _ _ _ 9 _ _ _ aA rfl rfl) ae (fun _ _=>rfl)) aw (fun _=>rfl) rfl (fun _ _=>rfl) (fun _ _=>rfl) (fun _ _=>rfl) (fun _ _=>rfl)) (fun _=>rfl))⟩
noncomputable def Fm:aD 3 aN (bq 3):=⟨_,fun g ok ba=>(@bL _ _ _ _ _ _ _ _ _ _ (@a9 _ _ _ _ _ _ _ _ _ (@aa _ _ _ 4 _ _ _ aA rfl rfl) cw rfl) (@aP _ _ _ (bt (bq 3)) 2 _ (by kernel_rfl) (@ab _ _ _ _ _ _ _ (@aG _ _ _ Fj g ok ba) (@ab _ _ _ _ _ _ _ (@aG _ _ _ Fk g ok ba) al))) al)⟩
theorem B5 (P:Params):findIn (KK P) (.ref 371) (tS "_find_qname_aware_attrs")=some none:=by kernel_rfl
noncomputable def Fn:aD 3 aN (af (bt (bq 4)) 0):=⟨_,fun g ok ba=>(@ad _ _ _ _ _ _ _ _ eU (@am _ _ _ _ _ (@aj _ _ _ 10 _ _ _ rfl (.inl rfl)) (fun _=>rfl)) (fun _=>rfl) (fun _ _=>rfl))⟩
noncomputable def Fp:aD 3 aN (af (ca (af (bt (af (bt (bq 4)) 1)) 0)) 0):=⟨_,fun g ok ba=>(@ad _ _ _ _ _ _ _ _ (@bS _ _ _ _ _ _ _ _ ok (@aa _ _ _ 2 _ _ _ aA rfl rfl) (@aa _ _ _ 11 _ _ _ aA rfl rfl)) (@am _ _ _ _ _ (@aj _ _ _ 12 _ _ _ rfl (.inl rfl)) (fun _=>rfl)) (fun _=>rfl) (fun _ _=>rfl))⟩
noncomputable def Fq:aD 3 aN (af (bt (af (ca (af (bt (af (bt (bq 4)) 1)) 0)) 1)) 0):=⟨_,fun g ok ba=>(@ad _ _ _ _ _ _ _ _ eU (@gt _ _ _ _ _ _ _ _ (@aj _ _ _ 9 _ _ _ rfl (.inl rfl)) (@am _ _ _ _ _ (@nq _ _ _ _ _ _ _ _ ok (@aa _ _ _ 8 _ _ _ aA rfl rfl) (@aa _ _ _ 12 _ _ _ aA rfl rfl)) (fun _=>rfl)) (fun _=>rfl) (fun _=>⟨_,_,rfl⟩)) (fun _=>rfl) (fun _ _=>rfl))⟩
noncomputable def Fr:aD 3 aN (af (bt (af (ca (af (bt (af (bt (bq 4)) 1)) 0)) 1)) 1):=⟨_,fun g ok ba=>(@aS _ _ _ _ _ _ (@aB _ _ _ _ _ _ _ _ _ _ _ _ _ (@rW _ _ _ _ _ (@aa _ _ _ 7 _ _ _ aA rfl rfl)) (@ac _ _ _ _ _ _ _ (@aa _ _ _ 9 _ _ _ aA rfl rfl) ae (fun _ _=>rfl)) aw (fun _=>rfl) rfl (fun _ _=>rfl) (fun _ _=>rfl) (fun _ _=>rfl) (fun _ _=>rfl)) (fun _=>rfl))⟩
noncomputable def yb:aD 3 aN (af (ca (af (bt (af (bt (bq 4)) 1)) 0)) 1):=⟨_,fun g ok ba=>(@bL _ _ _ _ _ _ _ _ _ _ HA (@aP _ _ _ (bt (af (ca (af (bt (af (bt (bq 4)) 1)) 0)) 1)) 2 _ (by kernel_rfl) (@ab _ _ _ _ _ _ _ (@aG _ _ _ Fq g ok ba) (@ab _ _ _ _ _ _ _ (@aG _ _ _ Fr g ok ba) al))) al)⟩
noncomputable def yc:aD 3 aN (af (bt (af (bt (bq 4)) 1)) 0):=⟨_,fun g ok ba=>(@eo _ _ _ false _ _ _ _ _ _ _ 60 (@cO _ _ _ _ _ _ ok (@aa _ _ _ 10 _ _ _ aA rfl rfl)) (fun h=>nomatch h) (@aj _ _ _ 11 _ _ _ rfl (.inl rfl)) (@aP _ _ _ (ca (af (bt (af (bt (bq 4)) 1)) 0)) 2 _ (by kernel_rfl) (@ab _ _ _ _ _ _ _ (@aG _ _ _ Fp g ok ba) (@ab _ _ _ _ _ _ _ (@aG _ _ _ yb g ok ba) al))) (fun _ _=>rfl))⟩
noncomputable def yd:aD 3 aN (af (gg (af (bt (bq 4)) 1)) 0):=⟨_,fun g ok ba=>(@ad _ _ _ _ _ _ _ _ cw (@am _ _ _ _ _ (@aj _ _ _ 10 _ _ _ rfl (.inl rfl)) (fun _=>rfl)) (fun _=>rfl) (fun _ _=>rfl))⟩
noncomputable def ye:aD 3 aN (af (bt (bq 4)) 1):=⟨_,fun g ok ba=>(@bL _ _ _ _ _ _ _ _ _ _ (@bo _ _ _ _ _ (@aa _ _ _ 10 _ _ _ aA rfl rfl) (fun _ _=>rfl)) (@aP _ _ _ (bt (af (bt (bq 4)) 1)) 1 _ (by kernel_rfl) (@ab _ _ _ _ _ _ _ (@aG _ _ _ yc g ok ba) al)) (@aP _ _ _ (gg (af (bt (bq 4)) 1)) 1 _ (by kernel_rfl) (@ab _ _ _ _ _ _ _ (@aG _ _ _ yd g ok ba) al)))⟩
noncomputable def yf:aD 3 aN (af (gg (bq 4)) 0):=⟨_,fun g ok ba=>(@ad _ _ _ _ _ _ _ _ cw (@am _ _ _ _ _ (@aj _ _ _ 10 _ _ _ rfl (.inl rfl)) (fun _=>rfl)) (fun _=>rfl) (fun _ _=>rfl))⟩
noncomputable def yg:aD 3 aN (bq 4):=⟨_,fun g ok ba=>(@bL _ _ _ _ _ _ _ _ _ _ (@du _ _ _ _ _ _ _ (@bH _ _ _ _ _ _ _ (@a9 _ _ _ _ _ _ _ _ _ (@aY _ _ _ _ _ _ _ _ 20 ok (az g) (sx g) (B5 _) (@aa _ _ _ 0 _ _ _ aA rfl rfl) (fun _=>rfl)) cw rfl) (@bH _ _ _ _ _ _ _ (@bo _ _ _ _ _ (@aa _ _ _ 2 _ _ _ aA rfl rfl) (fun _ _=>rfl)) cU))) (@aP _ _ _ (bt (bq 4)) 2 _ (by kernel_rfl) (@ab _ _ _ _ _ _ _ (@aG _ _ _ Fn g ok ba) (@ab _ _ _ _ _ _ _ (@aG _ _ _ ye g ok ba) al))) (@aP _ _ _ (gg (bq 4)) 1 _ (by kernel_rfl) (@ab _ _ _ _ _ _ _ (@aG _ _ _ yf g ok ba) al)))⟩
theorem se (g:GA):(Gk g).an[30]?=some (tS "_qname"):=by kernel_rfl
theorem ug (P:Params):findIn (KK P) (.ref 371) (tS "_qname")=some (some (.ref 311)):=by kernel_rfl
theorem v7 (P:Params):typeIn (KK P) (.ref 311)=some (.type "function"):=by kernel_rfl
noncomputable def yh:aD 3 aN (bq 5):=⟨_,fun g ok ba=>(@ad _ _ _ _ _ _ _ _ (@JZ _ _ _ _ _ _ _ _ 30 _ ok (az g) (se g) (ug _) (v7 _) (by kernel_rfl) (by kernel_rfl) (by kernel_rfl) (@aa _ _ _ 0 _ _ _ aA rfl rfl) (fun _=>rfl)) (@am _ _ _ _ _ (@aj _ _ _ 13 _ _ _ rfl (.inr ⟨rfl,rfl⟩)) (fun _=>rfl)) (fun _=>rfl) (fun _ _=>rfl))⟩
noncomputable def ur:List (Str×NameKind):=[((tS ".0"),.local),((tS "n"),.local),((tS "parse_qname"),.cell)]
noncomputable def mT:Sc:=⟨ur,false,0,(tS "")⟩
theorem jD:NamesOk mT:=by unfold NamesOk; kernel_rfl
noncomputable def uu:List (Str×NameKind):=[((tS "n"),.local)]
noncomputable def mW:Sc:=⟨uu,true,0,(tS "")⟩
theorem uB:NamesOk mW:=by unfold NamesOk; kernel_rfl
theorem HI (g:GA):Bltin (Gk g) (tS "sorted") (.builtin "sorted"):=⟨by kernel_rfl,by decide,PyProof.Rows.Boot.«sorted»,by kernel_rfl⟩
noncomputable def yi:aD 3 aN (bq 6):=⟨_,fun g ok ba=>(@nu _ _ _ mT false _ _ _ _ _ _ _ _ _ _ _ _ 14 _ _ ok (@CompOk.of _ _ _ [(2,13)] (by kernel_rfl)) (@cO _ _ _ _ _ _ ok (@qw _ _ _ mW _ 21 _ _ _ _ _ _ _ _ (tS "n") _ _ ok rfl (HI g) (by decide) (t4 g) ⟨rfl,rfl,rfl,aE (by kernel_rfl),rfl,rfl,rfl,qY (by kernel_rfl),rfl,fun _ _ _ _ _=>by kernel_rfl,fun _=>rfl,fun _=>rfl⟩ (@aa _ _ _ 7 _ _ _ aA rfl rfl) (@aB _ _ _ _ _ _ _ _ _ _ _ _ _ (@pn _ _ _ _ _ ok (@aa _ _ _ 0 _ _ _ uB rfl rfl)) (@ac _ _ _ _ _ _ _ (@bn _ _ _ _ _ _ _ AF) (@ac _ _ _ _ _ _ _ ay ae (fun _ _=>rfl)) (fun _ _=>rfl)) aw (fun _=>rfl) rfl (fun _ _=>rfl) (fun _ _=>rfl) (fun _ _=>rfl) (fun _ _=>rfl)) (fun _ _=>rfl) (fun _ _=>rfl) (fun _ _=>rfl) (fun _ _=>rfl))) (fun _ _=>rfl) (@rJ _ _ _ _ _ _ _ _ _ _ _ _ _ _ _ 60 (fun h=>nomatch h) (@aj _ _ _ 1 _ _ _ rfl (.inl rfl)) eZ (@aa _ _ _ 1 _ _ _ jD rfl rfl) (@gr _ _ _ _ _ _ _ _ _ _ _ _ (@J2 _ _ _ _ 2 _ _ _ _ _ ok jD rfl rfl (@FN.up _ _ _ _ _ _ (tq g ok ba) rfl)) (@ac _ _ _ _ _ _ _ (@aa _ _ _ 1 _ _ _ jD rfl rfl) ae (fun _ _=>rfl)) aw (fun _ _=>rfl) (fun _ _=>rfl) (fun _ _=>rfl))) rfl (fun env he=>(lH he).trans (by kernel_rfl)))⟩
noncomputable def us:List (Str×NameKind):=[((tS ".0"),.local),((tS "uri"),.local),((tS "prefix"),.local)]
noncomputable def mU:Sc:=⟨us,false,0,(tS "")⟩
theorem jE:NamesOk mU:=by unfold NamesOk; kernel_rfl
theorem I5:(tS "xmlns:")=(⟨([120,109,108,110,115,58]:List Nat).toArray⟩:Str):=by kernel_rfl
theorem I6:(tS "xmlns")=(⟨([120,109,108,110,115]:List Nat).toArray⟩:Str):=by kernel_rfl
noncomputable def yj:aD 3 aN (af (bt (bq 7)) 0):=⟨_,fun g ok ba=>(@f7 _ _ _ mU false _ _ _ _ _ _ _ _ _ _ _ 16 _ _ ok (@CompOk.of _ _ _ [] (by kernel_rfl)) (@cO _ _ _ _ _ _ ok (@aa _ _ _ 3 _ _ _ aA rfl rfl)) (fun _ _=>rfl) (@dI _ _ _ _ _ _ _ _ _ _ _ _ _ 60 (fun h=>nomatch h) (@bX _ _ _ _ _ _ _ (@aO _ _ _ _ _ _ _ (@aj _ _ _ 1 _ _ _ rfl (.inl rfl)) (@aO _ _ _ _ _ _ _ (@aj _ _ _ 2 _ _ _ rfl (.inl rfl)) cG (fun _=>rfl)) (fun _=>rfl)) (fun _=>rfl) (fun _=>rfl)) eZ (@aV _ _ _ _ _ _ _ ok (@ac _ _ _ _ _ _ _ (@eV _ _ _ _ _ _ _ _ _ _ (@bo _ _ _ _ _ (@aa _ _ _ 2 _ _ _ jE rfl rfl) (fun _ _=>rfl)) (@aQ _ _ _ _ _ _ _ _ _ ok (@bn _ _ _ _ _ _ _ I5) (@aa _ _ _ 2 _ _ _ jE rfl rfl)) (@bn _ _ _ _ _ _ _ I6)) (@ac _ _ _ _ _ _ _ (@aa _ _ _ 1 _ _ _ jE rfl rfl) ae (fun _ _=>rfl)) (fun _ _=>rfl)) (by decide))) rfl (fun env he=>(lH he).trans (by kernel_rfl)))⟩
noncomputable def yk:aD 3 aN (af (bt (bq 7)) 1):=⟨_,fun g ok ba=>(@aS _ _ _ _ _ _ (@aB _ _ _ _ _ _ _ _ _ _ _ _ _ (@wB _ _ _ _ _ (@aa _ _ _ 16 _ _ _ aA rfl rfl)) ae aw (fun _=>rfl) rfl (fun _ _=>rfl) (fun _ _=>rfl) (fun _ _=>rfl) (fun _ _=>rfl)) (fun _=>rfl))⟩
noncomputable def yl:aD 3 aN (af (gg (bq 7)) 0):=⟨_,fun g ok ba=>(@ad _ _ _ _ _ _ _ _ (@b7 _ _ _ _ _ _ ok ae) (@am _ _ _ _ _ (@aj _ _ _ 16 _ _ _ rfl (.inl rfl)) (fun _=>rfl)) (fun _=>rfl) (fun _ _=>rfl))⟩
noncomputable def ym:aD 3 aN (bq 7):=⟨_,fun g ok ba=>(@bL _ _ _ _ _ _ _ _ _ _ (@bo _ _ _ _ _ (@aa _ _ _ 3 _ _ _ aA rfl rfl) (fun _ _=>rfl)) (@aP _ _ _ (bt (bq 7)) 2 _ (by kernel_rfl) (@ab _ _ _ _ _ _ _ (@aG _ _ _ yj g ok ba) (@ab _ _ _ _ _ _ _ (@aG _ _ _ yk g ok ba) al))) (@aP _ _ _ (gg (bq 7)) 1 _ (by kernel_rfl) (@ab _ _ _ _ _ _ _ (@aG _ _ _ yl g ok ba) al)))⟩
noncomputable def yn:aD 3 aN (af (bt (af (ca (af (bt (bq 8)) 0)) 0)) 0):=⟨_,fun g ok ba=>(@ad _ _ _ _ _ _ _ _ (@bS _ _ _ _ _ _ _ _ ok (@bS _ _ _ _ _ _ _ _ ok (@aa _ _ _ 14 _ _ _ aA rfl rfl) (@bS _ _ _ _ _ _ _ _ ok (@aa _ _ _ 8 _ _ _ aA rfl rfl) (@aa _ _ _ 6 _ _ _ aA rfl rfl))) ay) (@am _ _ _ _ _ (@aj _ _ _ 6 _ _ _ rfl (.inl rfl)) (fun _=>rfl)) (fun _=>rfl) (fun _ _=>rfl))⟩
noncomputable def yo:aD 3 aN (af (ca (af (bt (bq 8)) 0)) 0):=⟨_,fun g ok ba=>(@bL _ _ _ _ _ _ _ _ _ _ (@du _ _ _ _ _ _ _ (@bH _ _ _ _ _ _ _ (@a9 _ _ _ _ _ _ _ _ _ (@aa _ _ _ 10 _ _ _ aA rfl rfl) cw rfl) (@bH _ _ _ _ _ _ _ (@a9 _ _ _ _ _ _ _ _ _ (@aa _ _ _ 5 _ _ _ aA rfl rfl) (@aa _ _ _ 10 _ _ _ aA rfl rfl) rfl) (@bH _ _ _ _ _ _ _ (@a9 _ _ _ _ _ _ _ _ _ (@aa _ _ _ 6 _ _ _ aA rfl rfl) (@aa _ _ _ 8 _ _ _ aA rfl rfl) rfl) cU)))) (@aP _ _ _ (bt (af (ca (af (bt (bq 8)) 0)) 0)) 1 _ (by kernel_rfl) (@ab _ _ _ _ _ _ _ (@aG _ _ _ yn g ok ba) al)) al)⟩
noncomputable def yq:aD 3 aN (af (ca (af (bt (bq 8)) 0)) 1):=⟨_,fun g ok ba=>(@ad _ _ _ _ _ _ _ _ (@bS _ _ _ _ _ _ _ _ ok (@aa _ _ _ 14 _ _ _ aA rfl rfl) (@aa _ _ _ 5 _ _ _ aA rfl rfl)) (@am _ _ _ _ _ (@bX _ _ _ _ _ _ _ (@aO _ _ _ _ _ _ _ (@aj _ _ _ 17 _ _ _ rfl (.inl rfl)) (@aO _ _ _ _ _ _ _ (@aj _ _ _ 11 _ _ _ rfl (.inl rfl)) (@aO _ _ _ _ _ _ _ (@aj _ _ _ 15 _ _ _ rfl (.inl rfl)) cG (fun _=>rfl)) (fun _=>rfl)) (fun _=>rfl)) (fun _=>rfl) (fun _=>rfl)) (fun _=>rfl)) (fun _=>rfl) (fun _ _=>rfl))⟩
noncomputable def yr:aD 3 aN (af (ca (af (bt (bq 8)) 0)) 2):=⟨_,fun g ok ba=>(@aS _ _ _ _ _ _ (@aB _ _ _ _ _ _ _ _ _ _ _ _ _ (@bJ _ _ _ _ _ (@aa _ _ _ 16 _ _ _ aA rfl rfl)) (@ac _ _ _ _ _ _ _ (@aV _ _ _ _ _ _ _ ok (@ac _ _ _ _ _ _ _ (@eV _ _ _ _ _ _ _ _ _ _ (@bo _ _ _ _ _ (@aa _ _ _ 15 _ _ _ aA rfl rfl) (fun _ _=>rfl)) (@aa _ _ _ 17 _ _ _ aA rfl rfl) (@aa _ _ _ 11 _ _ _ aA rfl rfl)) (@ac _ _ _ _ _ _ _ (@aa _ _ _ 6 _ _ _ aA rfl rfl) ae (fun _ _=>rfl)) (fun _ _=>rfl)) (by decide)) ae (fun _ _=>rfl)) aw (fun _=>rfl) rfl (fun _ _=>rfl) (fun _ _=>rfl) (fun _ _=>rfl) (fun _ _=>rfl)) (fun _=>rfl))⟩
noncomputable def yt:aD 3 aN (af (bt (bq 8)) 0):=⟨_,fun g ok ba=>(@eo _ _ _ false _ _ _ _ _ _ _ 60 (@cO _ _ _ _ _ _ ok eU) (fun h=>nomatch h) (@bX _ _ _ _ _ _ _ (@aO _ _ _ _ _ _ _ (@aj _ _ _ 5 _ _ _ rfl (.inl rfl)) (@aO _ _ _ _ _ _ _ (@aj _ _ _ 6 _ _ _ rfl (.inl rfl)) cG (fun _=>rfl)) (fun _=>rfl)) (fun _=>rfl) (fun _=>rfl)) (@aP _ _ _ (ca (af (bt (bq 8)) 0)) 3 _ (by kernel_rfl) (@ab _ _ _ _ _ _ _ (@aG _ _ _ yo g ok ba) (@ab _ _ _ _ _ _ _ (@aG _ _ _ yq g ok ba) (@ab _ _ _ _ _ _ _ (@aG _ _ _ yr g ok ba) al)))) (fun _ _=>rfl))⟩
noncomputable def yu:aD 3 aN (bq 8):=⟨_,fun g ok ba=>(@bL _ _ _ _ _ _ _ _ _ _ (@bo _ _ _ _ _ (@aa _ _ _ 2 _ _ _ aA rfl rfl) (fun _ _=>rfl)) (@aP _ _ _ (bt (bq 8)) 1 _ (by kernel_rfl) (@ab _ _ _ _ _ _ _ (@aG _ _ _ yt g ok ba) al)) al)⟩
theorem I7:(tS "{http://www.w3.org/XML/1998/namespace}space")=(⟨([123,104,116,116,112,58,47,47,119,119,119,46,119,51,46,111,114,103,47,88,77,76,47,49,57,57,56,47,110,97,109,101,115,112,97,99,101,125,115,112,97,99,101]:List Nat).toArray⟩:Str):=by kernel_rfl
noncomputable def yv:aD 3 aN (bq 9):=⟨_,fun g ok ba=>(@ad _ _ _ _ _ _ _ _ (@aB _ _ _ _ _ _ _ _ _ _ _ _ _ (@A8 _ _ _ _ _ (@aa _ _ _ 2 _ _ _ aA rfl rfl)) (@ac _ _ _ _ _ _ _ (@bn _ _ _ _ _ _ _ I7) ae (fun _ _=>rfl)) aw (fun _=>rfl) rfl (fun _ _=>rfl) (fun _ _=>rfl) (fun _ _=>rfl) (fun _ _=>rfl)) (@am _ _ _ _ _ (@aj _ _ _ 18 _ _ _ rfl (.inl rfl)) (fun _=>rfl)) (fun _=>rfl) (fun _ _=>rfl))⟩
theorem I8:(tS "preserve")=(⟨([112,114,101,115,101,114,118,101]:List Nat).toArray⟩:Str):=by kernel_rfl
theorem lj (P:Params):findIn (KK P) (.ref 371) (tS "_preserve_space")=some none:=by kernel_rfl
noncomputable def yw:aD 3 aN (bq 10):=⟨_,fun g ok ba=>(@aS _ _ _ _ _ _ (@aB _ _ _ _ _ _ _ _ _ _ _ _ _ (@bJ _ _ _ _ _ (@aY _ _ _ _ _ _ _ _ 24 ok (az g) (lV g) (lj _) (@aa _ _ _ 0 _ _ _ aA rfl rfl) (fun _=>rfl))) (@ac _ _ _ _ _ _ _ (@eV _ _ _ _ _ _ _ _ _ _ (@bo _ _ _ _ _ (@aa _ _ _ 18 _ _ _ aA rfl rfl) (fun _ _=>rfl)) (@pg _ _ _ _ _ _ _ _ _ (@aa _ _ _ 18 _ _ _ aA rfl rfl) (@bn _ _ _ _ _ _ _ I8) rfl) (@bS _ _ _ _ _ _ _ _ ok (@aY _ _ _ _ _ _ _ _ 24 ok (az g) (lV g) (lj _) (@aa _ _ _ 0 _ _ _ aA rfl rfl) (fun _=>rfl)) (@dK _ _ _ _ _ _ ay))) ae (fun _ _=>rfl)) aw (fun _=>rfl) rfl (fun _ _=>rfl) (fun _ _=>rfl) (fun _ _=>rfl) (fun _ _=>rfl)) (fun _=>rfl))⟩
theorem te (P:Params):findIn (KK P) (.ref 371) (tS "_write")=some none:=by kernel_rfl
noncomputable def yx:aD 3 aN (bq 11):=⟨_,fun g ok ba=>(@ad _ _ _ _ _ _ _ _ (@aY _ _ _ _ _ _ _ _ 12 ok (az g) (sq g) (te _) (@aa _ _ _ 0 _ _ _ aA rfl rfl) (fun _=>rfl)) (@am _ _ _ _ _ (@aj _ _ _ 19 _ _ _ rfl (.inl rfl)) (fun _=>rfl)) (fun _=>rfl) (fun _ _=>rfl))⟩
theorem AG:(tS "<")=(⟨([60]:List Nat).toArray⟩:Str):=by kernel_rfl
noncomputable def yy:aD 3 aN (bq 12):=⟨_,fun g ok ba=>(@aS _ _ _ _ _ _ (@gr _ _ _ _ _ _ _ _ _ _ _ _ (@wD _ _ _ _ 19 _ _ aA rfl rfl) (@ac _ _ _ _ _ _ _ (@aQ _ _ _ _ _ _ _ _ _ ok (@bn _ _ _ _ _ _ _ AG) (@bS _ _ _ _ _ _ _ _ ok (@bS _ _ _ _ _ _ _ _ ok (@aa _ _ _ 14 _ _ _ aA rfl rfl) (@aa _ _ _ 1 _ _ _ aA rfl rfl)) ay)) ae (fun _ _=>rfl)) aw (fun _ _=>rfl) (fun _ _=>rfl) (fun _ _=>rfl)) (fun _=>rfl))⟩
noncomputable def ut:List (Str×NameKind):=[((tS ".0"),.local),((tS "k"),.local),((tS "v"),.local),((tS "_escape_attrib_c14n"),.globalImplicit)]
noncomputable def mV:Sc:=⟨ut,false,0,(tS "")⟩
theorem uA:NamesOk mV:=by unfold NamesOk; kernel_rfl
theorem AH:(tS " ")=(⟨([32]:List Nat).toArray⟩:Str):=by kernel_rfl
theorem I9:(tS "=\"")=(⟨([61,34]:List Nat).toArray⟩:Str):=by kernel_rfl
theorem Ja:(tS "\"")=(⟨([34]:List Nat).toArray⟩:Str):=by kernel_rfl
noncomputable def yz:aD 3 aN (af (bt (bq 13)) 0):=⟨_,fun g ok ba=>(@aS _ _ _ _ _ _ (@gr _ _ _ _ _ _ _ _ _ _ _ _ (@wD _ _ _ _ 19 _ _ aA rfl rfl) (@ac _ _ _ _ _ _ _ (@aB _ _ _ _ _ _ _ _ _ _ _ _ _ (@kQ _ _ _ _ _ (@bn _ _ _ _ _ _ _ fY)) (@ac _ _ _ _ _ _ _ (@dJ _ _ _ mV false _ _ _ _ _ _ _ _ _ _ ok (@CompOk.of _ _ _ [] (by kernel_rfl)) (@cO _ _ _ _ _ _ ok (@aa _ _ _ 16 _ _ _ aA rfl rfl)) (fun _ _=>rfl) (@dI _ _ _ _ _ _ _ _ _ _ _ _ _ 60 (fun h=>nomatch h) (@bX _ _ _ _ _ _ _ (@aO _ _ _ _ _ _ _ (@aj _ _ _ 1 _ _ _ rfl (.inl rfl)) (@aO _ _ _ _ _ _ _ (@aj _ _ _ 2 _ _ _ rfl (.inl rfl)) cG (fun _=>rfl)) (fun _=>rfl)) (fun _=>rfl) (fun _=>rfl)) eZ (@en _ _ _ _ _ _ (@dD _ _ _ _ _ _ _ _ _ AH rfl (@gu _ _ _ _ _ _ _ _ (@aa _ _ _ 1 _ _ _ uA rfl rfl) (@dD _ _ _ _ _ _ _ _ _ I9 rfl (@gu _ _ _ _ _ _ _ _ eU (@dD _ _ _ _ _ _ _ _ _ Ja rfl j8 (fun _=>rfl)) (fun _=>rfl)) (fun _=>rfl)) (fun _=>rfl)) (fun _=>rfl)) (by decide) (by decide)))) ae (fun _ _=>rfl)) aw (fun _=>rfl) rfl (fun _ _=>rfl) (fun _ _=>rfl) (fun _ _=>rfl) (fun _ _=>rfl)) ae (fun _ _=>rfl)) aw (fun _ _=>rfl) (fun _ _=>rfl) (fun _ _=>rfl)) (fun _=>rfl))⟩
noncomputable def yA:aD 3 aN (bq 13):=⟨_,fun g ok ba=>(@bL _ _ _ _ _ _ _ _ _ _ (@bo _ _ _ _ _ (@aa _ _ _ 16 _ _ _ aA rfl rfl) (fun _ _=>rfl)) (@aP _ _ _ (bt (bq 13)) 1 _ (by kernel_rfl) (@ab _ _ _ _ _ _ _ (@aG _ _ _ yz g ok ba) al)) al)⟩
theorem AI:(tS ">")=(⟨([62]:List Nat).toArray⟩:Str):=by kernel_rfl
noncomputable def yB:aD 3 aN (bq 14):=⟨_,fun g ok ba=>(@aS _ _ _ _ _ _ (@gr _ _ _ _ _ _ _ _ _ _ _ _ (@wD _ _ _ _ 19 _ _ aA rfl rfl) (@ac _ _ _ _ _ _ _ (@bn _ _ _ _ _ _ _ AI) ae (fun _ _=>rfl)) aw (fun _ _=>rfl) (fun _ _=>rfl) (fun _ _=>rfl)) (fun _=>rfl))⟩
noncomputable def yC:aD 3 aN (af (bt (bq 15)) 0):=⟨_,fun g ok ba=>(@aS _ _ _ _ _ _ (@gr _ _ _ _ _ _ _ _ _ _ _ _ (@wD _ _ _ _ 19 _ _ aA rfl rfl) (@ac _ _ _ _ _ _ _ eU ae (fun _ _=>rfl)) aw (fun _ _=>rfl) (fun _ _=>rfl) (fun _ _=>rfl)) (fun _=>rfl))⟩
noncomputable def yD:aD 3 aN (bq 15):=⟨_,fun g ok ba=>(@bL _ _ _ _ _ _ _ _ _ _ (@a9 _ _ _ _ _ _ _ _ _ (@aa _ _ _ 4 _ _ _ aA rfl rfl) cw rfl) (@aP _ _ _ (bt (bq 15)) 1 _ (by kernel_rfl) (@ab _ _ _ _ _ _ _ (@aG _ _ _ yC g ok ba) al)) al)⟩
noncomputable def yE:aD 3 aN (bq 16):=⟨_,fun g ok ba=>(@ad _ _ _ _ _ _ _ _ b0 (@am _ _ _ _ _ (@be _ _ _ _ _ _ _ _ 26 ok (az g) (Ag g) (AR _) (@aa _ _ _ 0 _ _ _ aA rfl rfl)) (fun _=>rfl)) (fun _=>rfl) (fun _ _=>rfl))⟩
noncomputable def yF:aD 3 aN (bq 17):=⟨_,fun g ok ba=>(@aS _ _ _ _ _ _ (@aB _ _ _ _ _ _ _ _ _ _ _ _ _ (@bJ _ _ _ _ _ (@aY _ _ _ _ _ _ _ _ 22 ok (az g) (ka g) (l7 _) (@aa _ _ _ 0 _ _ _ aA rfl rfl) (fun _=>rfl))) (@ac _ _ _ _ _ _ _ (@b7 _ _ _ _ _ _ ok ae) ae (fun _ _=>rfl)) aw (fun _=>rfl) rfl (fun _ _=>rfl) (fun _ _=>rfl) (fun _ _=>rfl) (fun _ _=>rfl)) (fun _=>rfl))⟩
noncomputable def uY:(D:List V→List V→DE) ×' (∀ g:GA,(Gk g).Ok→Bare g→FN (Gk g) 4 347 [] D):=⟨_,fun g ok ba=>bf (lv:=3) (fd:=nZ) (body:=gK) (sc:=aN) ok (DR g) (@aX _ _ _ _ 4 [(0,.pos 0),(1,.pos 1),(2,.pos 2),(3,.pos 3),(4,.dfl .non .none)] [(tS "self"),(tS "tag"),(tS "attrs"),(tS "new_namespaces"),(tS "qname_text")] ok rfl (bp rfl) (aE (by kernel_rfl)) (bV rfl) (fun h vals kvals X h1 h2=>by obtain ⟨u0,u1,u2,u3,rfl⟩:=Kl h1; obtain rfl:=eA h2; exact Looks.of_peek (K:=KK g.w.params) X (by kernel_rfl))) (@aP _ _ _ gK 18 _ (by kernel_rfl) (@ab _ _ _ _ _ _ _ (@aG _ _ _ Fg g ok ba) (@ab _ _ _ _ _ _ _ (@aG _ _ _ Fh g ok ba) (@ab _ _ _ _ _ _ _ (@aG _ _ _ Fi g ok ba) (@ab _ _ _ _ _ _ _ (@aG _ _ _ Fm g ok ba) (@ab _ _ _ _ _ _ _ (@aG _ _ _ yg g ok ba) (@ab _ _ _ _ _ _ _ (@aG _ _ _ yh g ok ba) (@ab _ _ _ _ _ _ _ (@aG _ _ _ yi g ok ba) (@ab _ _ _ _ _ _ _ (@aG _ _ _ ym g ok ba) (@ab _ _ _ _ _ _ _ (@aG _ _ _ yu g ok ba) (@ab _ _ _ _ _ _ _ (@aG _ _ _ yv g ok ba) (@ab _ _ _ _ _ _ _ (@aG _ _ _ yw g ok ba) (@ab _ _ _ _ _ _ _ (@aG _ _ _ yx g ok ba) (@ab _ _ _ _ _ _ _ (@aG _ _ _ yy g ok ba) (@ab _ _ _ _ _ _ _ (@aG _ _ _ yA g ok ba) (@ab _ _ _ _ _ _ _ (@aG _ _ _ yB g ok ba) (@ab _ _ _ _ _ _ _ (@aG _ _ _ yD g ok ba) (@ab _ _ _ _ _ _ _ (@aG _ _ _ yE g ok ba) (@ab _ _ _ _ _ _ _ (@aG _ _ _ yF g ok ba) al)))))))))))))))))))⟩
noncomputable def Hn:List V→List V→DE:=uY.1
theorem Ce (g:GA) (ok:(Gk g).Ok) (ba:Bare g):FN (Gk g) 4 347 [] Hn:=uY.2 g ok ba
noncomputable def Dk:List (Str×NameKind):=[((tS "self"),.local),((tS "tag"),.local),((tS "attrs"),.local),((tS "new_namespaces"),.local)]
noncomputable def eg:Sc:=⟨Dk,true,340,(tS "C14NWriterTarget.start.<locals>.")⟩
theorem cq:NamesOk eg:=by unfold NamesOk; kernel_rfl
noncomputable def nY:FuncData:=dE (cT P0 341) default
noncomputable def gJ:List PySem.Stmt:=bw (some nY)
noncomputable abbrev ly:=af gJ
theorem DQ (g:GA):FnOk (Gk g) 341 nY gJ eg:=FnOk.of (by kernel_rfl) (by kernel_rfl)
theorem tf (P:Params):findIn (KK P) (.ref 371) (tS "_exclude_tags")=some none:=by kernel_rfl
theorem th (P:Params):findIn (KK P) (.ref 371) (tS "_ignored_depth")=some none:=by kernel_rfl
noncomputable def E8:aD 4 eg (ly 0):=⟨_,fun g ok ba=>(@bL _ _ _ _ _ _ _ _ _ _ (@du _ _ _ _ _ _ _ (@bH _ _ _ _ _ _ _ (@a9 _ _ _ _ _ _ _ _ _ (@aY _ _ _ _ _ _ _ _ 17 ok (az g) (su g) (tf _) (@aa _ _ _ 0 _ _ _ cq rfl rfl) (fun _=>rfl)) cw rfl) (@bH _ _ _ _ _ _ _ (@du _ _ _ _ _ _ _ (@zT _ _ _ _ _ _ _ (@bo _ _ _ _ _ (@aY _ _ _ _ _ _ _ _ 28 ok (az g) (sy g) (th _) (@aa _ _ _ 0 _ _ _ cq rfl rfl) (fun _=>rfl)) (fun _ _=>rfl)) (@zT _ _ _ _ _ _ _ (@a9 _ _ _ _ _ _ _ _ _ (@aa _ _ _ 1 _ _ _ cq rfl rfl) (@aY _ _ _ _ _ _ _ _ 17 ok (az g) (su g) (tf _) (@aa _ _ _ 0 _ _ _ cq rfl rfl) (fun _=>rfl)) rfl) wo))) cU))) f9 al)⟩
theorem ti (P:Params):findIn (KK P) (.ref 371) (tS "_data")=some none:=by kernel_rfl
noncomputable def E9:aD 4 eg (ly 1):=⟨_,fun g ok ba=>(@bL _ _ _ _ _ _ _ _ _ _ (@bo _ _ _ _ _ (@aY _ _ _ _ _ _ _ _ 13 ok (az g) (sr g) (ti _) (@aa _ _ _ 0 _ _ _ cq rfl rfl) (fun _=>rfl)) (fun _ _=>rfl)) (@aP _ _ _ (bt (ly 1)) 1 _ (by kernel_rfl) (@ab _ _ _ _ _ _ _ (@aS _ _ _ _ _ _ eU (fun _=>rfl)) al)) al)⟩
noncomputable def Fb:aD 4 eg (ly 2):=⟨_,fun g ok ba=>(@ad _ _ _ _ _ _ _ _ (@b7 _ _ _ _ _ _ ok ae) (@am _ _ _ _ _ (@aj _ _ _ 3 _ _ _ rfl (.inl rfl)) (fun _=>rfl)) (fun _=>rfl) (fun _ _=>rfl))⟩
noncomputable def Fc:aD 4 eg (ly 3):=⟨_,fun g ok ba=>(@aS _ _ _ _ _ _ (@aB _ _ _ _ _ _ _ _ _ _ _ _ _ (@bJ _ _ _ _ _ (@aY _ _ _ _ _ _ _ _ 21 ok (az g) (j9 g) (jk _) (@aa _ _ _ 0 _ _ _ cq rfl rfl) (fun _=>rfl))) (@ac _ _ _ _ _ _ _ (@aa _ _ _ 3 _ _ _ cq rfl rfl) ae (fun _ _=>rfl)) aw (fun _=>rfl) rfl (fun _ _=>rfl) (fun _ _=>rfl) (fun _ _=>rfl) (fun _ _=>rfl)) (fun _=>rfl))⟩
theorem tj (P:Params):findIn (KK P) (.ref 371) (tS "_qname_aware_tags")=some none:=by kernel_rfl
noncomputable def Fd:aD 4 eg (af (bt (ly 4)) 0):=⟨_,fun g ok ba=>(@ad _ _ _ _ _ _ _ _ (@aV _ _ _ _ _ _ _ ok (@ac _ _ _ _ _ _ _ (@aa _ _ _ 1 _ _ _ cq rfl rfl) (@ac _ _ _ _ _ _ _ (@aa _ _ _ 2 _ _ _ cq rfl rfl) (@ac _ _ _ _ _ _ _ (@aa _ _ _ 3 _ _ _ cq rfl rfl) ae (fun _ _=>rfl)) (fun _ _=>rfl)) (fun _ _=>rfl)) (by decide)) (@am _ _ _ _ _ (@be _ _ _ _ _ _ _ _ 25 ok (az g) (Af g) (AQ _) (@aa _ _ _ 0 _ _ _ cq rfl rfl)) (fun _=>rfl)) (fun _=>rfl) (fun _ _=>rfl))⟩
noncomputable def Fe:aD 4 eg (ly 4):=⟨_,fun g ok ba=>(@bL _ _ _ _ _ _ _ _ _ _ (@du _ _ _ _ _ _ _ (@bH _ _ _ _ _ _ _ (@a9 _ _ _ _ _ _ _ _ _ (@aY _ _ _ _ _ _ _ _ 19 ok (az g) (pu g) (tj _) (@aa _ _ _ 0 _ _ _ cq rfl rfl) (fun _=>rfl)) cw rfl) (@bH _ _ _ _ _ _ _ (@a9 _ _ _ _ _ _ _ _ _ (@aa _ _ _ 1 _ _ _ cq rfl rfl) (@aY _ _ _ _ _ _ _ _ 19 ok (az g) (pu g) (tj _) (@aa _ _ _ 0 _ _ _ cq rfl rfl) (fun _=>rfl)) rfl) cU))) (@aP _ _ _ (bt (ly 4)) 2 _ (by kernel_rfl) (@ab _ _ _ _ _ _ _ (@aG _ _ _ Fd g ok ba) (@ab _ _ _ _ _ _ _ qy al))) al)⟩
theorem Bf (g:GA):(Gk g).an[31]?=some (tS "_start"):=by kernel_rfl
theorem CZ (P:Params):findIn (KK P) (.ref 371) (tS "_start")=some (some (.ref 347)):=by kernel_rfl
theorem GS (P:Params):typeIn (KK P) (.ref 347)=some (.type "function"):=by kernel_rfl
noncomputable def Ff:aD 4 eg (ly 5):=⟨_,fun g ok ba=>(@aS _ _ _ _ _ _ (@aB _ _ _ _ _ _ _ _ _ _ _ _ _ (@d3 _ _ _ _ _ _ _ 31 _ _ _ ok (az g) (Bf g) (CZ _) (GS _) (@aa _ _ _ 0 _ _ _ cq rfl rfl) (@CB.up _ _ _ _ _ _ (@FN.cb _ _ _ _ _ ok (Ce g ok ba)) rfl)) (@ac _ _ _ _ _ _ _ (@aa _ _ _ 1 _ _ _ cq rfl rfl) (@ac _ _ _ _ _ _ _ (@aa _ _ _ 2 _ _ _ cq rfl rfl) (@ac _ _ _ _ _ _ _ (@aa _ _ _ 3 _ _ _ cq rfl rfl) ae (fun _ _=>rfl)) (fun _ _=>rfl)) (fun _ _=>rfl)) aw (fun _=>rfl) rfl (fun _ _=>rfl) (fun _ _=>rfl) (fun _ _=>rfl) (fun _ _=>rfl)) (fun _=>rfl))⟩
noncomputable def uX:(D:List V→List V→DE) ×' (∀ g:GA,(Gk g).Ok→Bare g→FN (Gk g) 5 341 [] D):=⟨_,fun g ok ba=>bf (lv:=4) (fd:=nY) (body:=gJ) (sc:=eg) ok (DQ g) (@aX _ _ _ _ 3 [(0,.pos 0),(1,.pos 1),(2,.pos 2)] [(tS "self"),(tS "tag"),(tS "attrs")] ok rfl (bp rfl) (aE (by kernel_rfl)) (bV rfl) (fun h vals kvals X h1 h2=>by obtain ⟨u0,u1,u2,rfl⟩:=Iq h1; obtain rfl:=eA h2; exact Looks.of_peek (K:=KK g.w.params) X (by kernel_rfl))) (@aP _ _ _ gJ 6 _ (by kernel_rfl) (@ab _ _ _ _ _ _ _ (@aG _ _ _ E8 g ok ba) (@ab _ _ _ _ _ _ _ (@aG _ _ _ E9 g ok ba) (@ab _ _ _ _ _ _ _ (@aG _ _ _ Fb g ok ba) (@ab _ _ _ _ _ _ _ (@aG _ _ _ Fc g ok ba) (@ab _ _ _ _ _ _ _ (@aG _ _ _ Fe g ok ba) (@ab _ _ _ _ _ _ _ (@aG _ _ _ Ff g ok ba) al)))))))⟩
noncomputable def Hm:List V→List V→DE:=uX.1
theorem tr (g:GA) (ok:(Gk g).Ok) (ba:Bare g):FN (Gk g) 5 341 [] Hm:=uX.2 g ok ba
noncomputable def Dm:List (Str×NameKind):=[((tS "self"),.local),((tS "tag"),.local),((tS "len"),.globalImplicit)]
noncomputable def eh:Sc:=⟨Dm,true,353,(tS "C14NWriterTarget.end.<locals>.")⟩
theorem ed:NamesOk eh:=by unfold NamesOk; kernel_rfl
noncomputable def n5:FuncData:=dE (cT P0 354) default
noncomputable def gL:List PySem.Stmt:=bw (some n5)
noncomputable abbrev mx:=af gL
theorem DV (g:GA):FnOk (Gk g) 354 n5 gL eh:=FnOk.of (by kernel_rfl) (by kernel_rfl)
noncomputable def Fs:aD 1 eh (mx 0):=⟨_,fun g ok ba=>(@bL _ _ _ _ _ _ _ _ _ _ (@bo _ _ _ _ _ (@aY _ _ _ _ _ _ _ _ 28 ok (az g) (sy g) (th _) (@aa _ _ _ 0 _ _ _ ed rfl rfl) (fun _=>rfl)) (fun _ _=>rfl)) f9 al)⟩
noncomputable def Ft:aD 1 eh (mx 1):=⟨_,fun g ok ba=>(@bL _ _ _ _ _ _ _ _ _ _ (@bo _ _ _ _ _ (@aY _ _ _ _ _ _ _ _ 13 ok (az g) (sr g) (ti _) (@aa _ _ _ 0 _ _ _ ed rfl rfl) (fun _=>rfl)) (fun _ _=>rfl)) (@aP _ _ _ (bt (mx 1)) 1 _ (by kernel_rfl) (@ab _ _ _ _ _ _ _ (@aS _ _ _ _ _ _ eU (fun _=>rfl)) al)) al)⟩
theorem Jb:(tS "</")=(⟨([60,47]:List Nat).toArray⟩:Str):=by kernel_rfl
noncomputable def Fu:aD 1 eh (mx 2):=⟨_,fun g ok ba=>(@aS _ _ _ _ _ _ (@aB _ _ _ _ _ _ _ _ _ _ _ _ _ (@J1 _ _ _ _ _ _ _ 12 ok (az g) (sq g) (te _) (@aa _ _ _ 0 _ _ _ ed rfl rfl)) (@ac _ _ _ _ _ _ _ (@en _ _ _ _ _ _ (@dD _ _ _ _ _ _ _ _ _ Jb rfl (@gu _ _ _ _ _ _ _ _ (@bS _ _ _ _ _ _ _ _ ok (@aB _ _ _ _ _ _ _ _ _ _ _ _ _ (@d3 _ _ _ _ _ _ _ 30 _ _ _ ok (az g) (se g) (ug _) (v7 _) (@aa _ _ _ 0 _ _ _ ed rfl rfl) (@CB.up _ _ _ _ _ _ (@FN.cb _ _ _ _ _ ok (tq g ok ba)) rfl)) (@ac _ _ _ _ _ _ _ (@aa _ _ _ 1 _ _ _ ed rfl rfl) ae (fun _ _=>rfl)) aw (fun _=>rfl) rfl (fun _ _=>rfl) (fun _ _=>rfl) (fun _ _=>rfl) (fun _ _=>rfl)) ay) (@dD _ _ _ _ _ _ _ _ _ AI rfl j8 (fun _=>rfl)) (fun _=>rfl)) (fun _=>rfl)) (by decide) (by decide)) ae (fun _ _=>rfl)) aw (fun _=>rfl) rfl (fun _ _=>rfl) (fun _ _=>rfl) (fun _ _=>rfl) (fun _ _=>rfl)) (fun _=>rfl))⟩
noncomputable def Fv:aD 1 eh (mx 3):=⟨_,fun g ok ba=>(@aS _ _ _ _ _ _ (@aB _ _ _ _ _ _ _ _ _ _ _ _ _ (@rY _ _ _ _ _ (@aY _ _ _ _ _ _ _ _ 24 ok (az g) (lV g) (lj _) (@aa _ _ _ 0 _ _ _ ed rfl rfl) (fun _=>rfl))) ae aw (fun _=>rfl) rfl (fun _ _=>rfl) (fun _ _=>rfl) (fun _ _=>rfl) (fun _ _=>rfl)) (fun _=>rfl))⟩
noncomputable def Fw:aD 1 eh (mx 4):=⟨_,fun g ok ba=>(@ad _ _ _ _ _ _ _ _ (@pg _ _ _ _ _ _ _ _ _ (@aM _ _ _ _ _ _ _ _ _ _ _ _ (@aJ _ _ _ _ 2 _ _ _ _ ok rfl (jf g) fP) (@ac _ _ _ _ _ _ _ (@aY _ _ _ _ _ _ _ _ 24 ok (az g) (lV g) (lj _) (@aa _ _ _ 0 _ _ _ ed rfl rfl) (fun _=>rfl)) ae (fun _ _=>rfl)) aw (fun _ _=>rfl) (fun _ _=>rfl) (fun _ _=>rfl)) ay rfl) (@am _ _ _ _ _ (@be _ _ _ _ _ _ _ _ 27 ok (az g) (Ah g) (AS _) (@aa _ _ _ 0 _ _ _ ed rfl rfl)) (fun _=>rfl)) (fun _=>rfl) (fun _ _=>rfl))⟩
noncomputable def Fx:aD 1 eh (mx 5):=⟨_,fun g ok ba=>(@aS _ _ _ _ _ _ (@aB _ _ _ _ _ _ _ _ _ _ _ _ _ (@rY _ _ _ _ _ (@aY _ _ _ _ _ _ _ _ 21 ok (az g) (j9 g) (jk _) (@aa _ _ _ 0 _ _ _ ed rfl rfl) (fun _=>rfl))) ae aw (fun _=>rfl) rfl (fun _ _=>rfl) (fun _ _=>rfl) (fun _ _=>rfl) (fun _ _=>rfl)) (fun _=>rfl))⟩
noncomputable def Fy:aD 1 eh (mx 6):=⟨_,fun g ok ba=>(@aS _ _ _ _ _ _ (@aB _ _ _ _ _ _ _ _ _ _ _ _ _ (@rY _ _ _ _ _ (@aY _ _ _ _ _ _ _ _ 22 ok (az g) (ka g) (l7 _) (@aa _ _ _ 0 _ _ _ ed rfl rfl) (fun _=>rfl))) ae aw (fun _=>rfl) rfl (fun _ _=>rfl) (fun _ _=>rfl) (fun _ _=>rfl) (fun _ _=>rfl)) (fun _=>rfl))⟩
noncomputable def uZ:(D:List V→List V→DE) ×' (∀ g:GA,(Gk g).Ok→Bare g→FN (Gk g) 2 354 [] D):=⟨_,fun g ok ba=>bf (lv:=1) (fd:=n5) (body:=gL) (sc:=eh) ok (DV g) (@aX _ _ _ _ 2 [(0,.pos 0),(1,.pos 1)] [(tS "self"),(tS "tag")] ok rfl (bp rfl) (aE (by kernel_rfl)) (bV rfl) (fun h vals kvals X h1 h2=>by obtain ⟨u0,u1,rfl⟩:=lt h1; obtain rfl:=eA h2; exact Looks.of_peek (K:=KK g.w.params) X (by kernel_rfl))) (@aP _ _ _ gL 7 _ (by kernel_rfl) (@ab _ _ _ _ _ _ _ (@aG _ _ _ Fs g ok ba) (@ab _ _ _ _ _ _ _ (@aG _ _ _ Ft g ok ba) (@ab _ _ _ _ _ _ _ (@aG _ _ _ Fu g ok ba) (@ab _ _ _ _ _ _ _ (@aG _ _ _ Fv g ok ba) (@ab _ _ _ _ _ _ _ (@aG _ _ _ Fw g ok ba) (@ab _ _ _ _ _ _ _ (@aG _ _ _ Fx g ok ba) (@ab _ _ _ _ _ _ _ (@aG _ _ _ Fy g ok ba) al))))))))⟩
noncomputable def Ho:List V→List V→DE:=uZ.1
theorem tt (g:GA) (ok:(Gk g).Ok) (ba:Bare g):FN (Gk g) 2 354 [] Ho:=uZ.2 g ok ba
noncomputable def Do:List (Str×NameKind):=[((tS "cells"),.local),((tS "tower"),.local),((tS "depths"),.local),((tS "leads"),.local),((tS "cell"),.local),((tS "depth"),.local),((tS "under"),.local),((tS "len"),.globalImplicit)]
noncomputable def dy:Sc:=⟨Do,true,402,(tS "_law_page.<locals>.")⟩
theorem cP:NamesOk dy:=by unfold NamesOk; kernel_rfl
noncomputable def n7:FuncData:=dE (cT P0 403) default
noncomputable def cx:List PySem.Stmt:=bw (some n7)
noncomputable abbrev C8:=af cx
theorem DX (g:GA):FnOk (Gk g) 403 n7 cx dy:=FnOk.of (by kernel_rfl) (by kernel_rfl)
noncomputable def Fz:aD 0 dy (af (aR cx 1) 0):=⟨_,fun g ok ba=>(@ad _ _ _ _ _ _ _ _ (@A4 _ _ _ _ _ _ _ _ ok (@aa _ _ _ 4 _ _ _ cP rfl rfl) (@aQ _ _ _ _ _ _ _ _ _ ok (@aM _ _ _ _ _ _ _ _ _ _ _ _ (@aJ _ _ _ _ 7 _ _ _ _ ok rfl (jf g) fP) (@ac _ _ _ _ _ _ _ (@aa _ _ _ 1 _ _ _ cP rfl rfl) ae (fun _ _=>rfl)) aw (fun _ _=>rfl) (fun _ _=>rfl) (fun _ _=>rfl)) ay)) (@am _ _ _ _ _ (@aj _ _ _ 5 _ _ _ rfl (.inl rfl)) (fun _=>rfl)) (fun _=>rfl) (fun _ _=>rfl))⟩
noncomputable def FA:aD 0 dy (af (aR cx 1) 1):=⟨_,fun g ok ba=>(@ad _ _ _ _ _ _ _ _ (@bv _ _ _ _ _ _ _ _ _ _ _ ok (@aa _ _ _ 1 _ _ _ cP rfl rfl) ck (@bN _ _ _ _ _ (@aa _ _ _ 5 _ _ _ cP rfl rfl))) (@am _ _ _ _ _ (@aj _ _ _ 6 _ _ _ rfl (.inl rfl)) (fun _=>rfl)) (fun _=>rfl) (fun _ _=>rfl))⟩
theorem AJ:(tS "\t")=(⟨([9]:List Nat).toArray⟩:Str):=by kernel_rfl
theorem Jc:(tS "  ")=(⟨([32,32]:List Nat).toArray⟩:Str):=by kernel_rfl
noncomputable def FC:aD 0 dy (af (aR cx 1) 2):=⟨_,fun g ok ba=>(@ad _ _ _ _ _ _ _ _ (@eV _ _ _ _ _ _ _ _ _ _ (@bo _ _ _ _ _ (@aa _ _ _ 6 _ _ _ cP rfl rfl) (fun _ _=>rfl)) (@aQ _ _ _ _ _ _ _ _ _ ok (@aa _ _ _ 6 _ _ _ cP rfl rfl) (@bW _ _ _ _ _ _ ok (@ac _ _ _ _ _ _ _ (@aQ _ _ _ _ _ _ _ _ _ ok (@bS _ _ _ _ _ _ _ _ ok (@aa _ _ _ 6 _ _ _ cP rfl rfl) (@dK _ _ _ _ _ _ ay)) (@bS _ _ _ _ _ _ _ _ ok (@bW _ _ _ _ _ _ ok (@ac _ _ _ _ _ _ _ (@bn _ _ _ _ _ _ _ AJ) (@ac _ _ _ _ _ _ _ (@bn _ _ _ _ _ _ _ Jc) ae (fun _ _=>rfl)) (fun _ _=>rfl))) (@A5 _ _ _ _ _ _ _ _ _ _ _ 1 ok (@aa _ _ _ 4 _ _ _ cP rfl rfl)))) ae (fun _ _=>rfl)))) (@bW _ _ _ _ _ _ ok (@ac _ _ _ _ _ _ _ (@bn _ _ _ _ _ _ _ fY) ae (fun _ _=>rfl)))) (@am _ _ _ _ _ (@aj _ _ _ 1 _ _ _ rfl (.inl rfl)) (fun _=>rfl)) (fun _=>rfl) (fun _ _=>rfl))⟩
noncomputable def FD:aD 0 dy (af (aR cx 1) 3):=⟨_,fun g ok ba=>(@aS _ _ _ _ _ _ (@aB _ _ _ _ _ _ _ _ _ _ _ _ _ (@bJ _ _ _ _ _ (@aa _ _ _ 2 _ _ _ cP rfl rfl)) (@ac _ _ _ _ _ _ _ (@aa _ _ _ 5 _ _ _ cP rfl rfl) ae (fun _ _=>rfl)) aw (fun _=>rfl) rfl (fun _ _=>rfl) (fun _ _=>rfl) (fun _ _=>rfl) (fun _ _=>rfl)) (fun _=>rfl))⟩
noncomputable def FE:aD 0 dy (af (aR cx 1) 4):=⟨_,fun g ok ba=>(@aS _ _ _ _ _ _ (@aB _ _ _ _ _ _ _ _ _ _ _ _ _ (@bJ _ _ _ _ _ (@aa _ _ _ 3 _ _ _ cP rfl rfl)) (@ac _ _ _ _ _ _ _ (@bS _ _ _ _ _ _ _ _ ok (@aa _ _ _ 1 _ _ _ cP rfl rfl) (@dK _ _ _ _ _ _ ay)) ae (fun _ _=>rfl)) aw (fun _=>rfl) rfl (fun _ _=>rfl) (fun _ _=>rfl) (fun _ _=>rfl) (fun _ _=>rfl)) (fun _=>rfl))⟩
noncomputable def mI:Aa 0 dy (aR cx 1):=⟨_,fun g ok ba=>(@aP _ _ _ (aR cx 1) 5 _ (by kernel_rfl) (@ab _ _ _ _ _ _ _ (@aG _ _ _ Fz g ok ba) (@ab _ _ _ _ _ _ _ (@aG _ _ _ FA g ok ba) (@ab _ _ _ _ _ _ _ (@aG _ _ _ FC g ok ba) (@ab _ _ _ _ _ _ _ (@aG _ _ _ FD g ok ba) (@ab _ _ _ _ _ _ _ (@aG _ _ _ FE g ok ba) al))))))⟩
noncomputable def bY:DS:=mI.1
noncomputable def FG:aD 0 dy (C8 0):=⟨_,fun g ok ba=>(@d7 _ _ _ _ _ _ _ [3,2,1] [(tS "leads"),(tS "depths"),(tS "tower")] _ _ (@aV _ _ _ _ _ _ _ ok (@ac _ _ _ _ _ _ _ (@bW _ _ _ _ _ _ ok (@ac _ _ _ _ _ _ _ (@bn _ _ _ _ _ _ _ fY) ae (fun _ _=>rfl))) (@ac _ _ _ _ _ _ _ (@b7 _ _ _ _ _ _ ok (@ac _ _ _ _ _ _ _ ay ae (fun _ _=>rfl))) (@ac _ _ _ _ _ _ _ (@b7 _ _ _ _ _ _ ok (@ac _ _ _ _ _ _ _ (@bn _ _ _ _ _ _ _ fY) ae (fun _ _=>rfl))) ae (fun _ _=>rfl)) (fun _ _=>rfl)) (fun _ _=>rfl)) (by decide)) (fun _=>rfl) (fun env he=>(cK he).trans (by kernel_rfl)) rfl (cj rfl))⟩
noncomputable def FH:aD 0 dy (C8 1):=⟨_,fun g ok ba=>(@eo _ _ _ false _ _ _ _ _ _ _ 60 (@cO _ _ _ _ _ _ ok (@aa _ _ _ 0 _ _ _ cP rfl rfl)) (fun h=>nomatch h) (@aj _ _ _ 4 _ _ _ rfl (.inl rfl)) (@Hb _ _ _ mI g ok ba) (fun _ _=>rfl))⟩
noncomputable def FI:aD 0 dy (C8 2):=⟨_,fun g ok ba=>(@aK _ _ _ _ _ _ (@aV _ _ _ _ _ _ _ ok (@ac _ _ _ _ _ _ _ (@iy _ _ _ _ _ ok (@aa _ _ _ 2 _ _ _ cP rfl rfl)) (@ac _ _ _ _ _ _ _ (@iy _ _ _ _ _ ok (@aa _ _ _ 3 _ _ _ cP rfl rfl)) ae (fun _ _=>rfl)) (fun _ _=>rfl)) (by decide)))⟩
noncomputable def u6:(D:List V→List V→DE) ×' (∀ g:GA,(Gk g).Ok→Bare g→FN (Gk g) 1 403 [] D):=⟨_,fun g ok ba=>bf (lv:=0) (fd:=n7) (body:=cx) (sc:=dy) ok (DX g) (@aX _ _ _ _ 1 [(0,.pos 0)] [(tS "cells")] ok rfl (bp rfl) (aE (by kernel_rfl)) (bV rfl) (fun h vals kvals X h1 h2=>by obtain ⟨u0,rfl⟩:=jt h1; obtain rfl:=eA h2; exact Looks.of_peek (K:=KK g.w.params) X (by kernel_rfl))) (@aP _ _ _ cx 3 _ (by kernel_rfl) (@ab _ _ _ _ _ _ _ (@aG _ _ _ FG g ok ba) (@ab _ _ _ _ _ _ _ (@aG _ _ _ FH g ok ba) (@ab _ _ _ _ _ _ _ (@aG _ _ _ FI g ok ba) al))))⟩
noncomputable def rM:List V→List V→DE:=u6.1
theorem Cg (g:GA) (ok:(Gk g).Ok) (ba:Bare g):FN (Gk g) 1 403 [] rM:=u6.2 g ok ba
theorem Cr (g:GA) (ok:(Gk g).Ok) (ba:Bare g):FN (Gk g) 1 403 [] (cF rM):=FN.apart ba.gn fun hp=>Cg {g with gn:=AllBare,hp:=hp} (ok.pv AllBare hp) ⟨rfl⟩
noncomputable def Dp:List (Str×NameKind):=[((tS "leads"),.local),((tS "pile"),.local),((tS "depths"),.local),((tS "lead"),.local),((tS "indent"),.local),((tS "Whitespace"),.globalImplicit),((tS "len"),.globalImplicit)]
noncomputable def dS:Sc:=⟨Dp,true,409,(tS "_law_found.<locals>.")⟩
theorem dO:NamesOk dS:=by unfold NamesOk; kernel_rfl
noncomputable def n8:FuncData:=dE (cT P0 410) default
noncomputable def cg:List PySem.Stmt:=bw (some n8)
noncomputable abbrev IB:=af cg
theorem DY (g:GA):FnOk (Gk g) 410 n8 cg dS:=FnOk.of (by kernel_rfl) (by kernel_rfl)
theorem un (P:Params):makesIn (KK P) 255=true:=by kernel_rfl
theorem vN (P:Params):specialIn (KK P) (.ref 255) "__call__"=some (some (.builtin "type.__call__")):=by kernel_rfl
theorem uh (P:Params):findIn (KK P) (.ref 255) (tS "__init__")=some (some (.ref 210)):=by kernel_rfl
theorem v8 (P:Params):typeIn (KK P) (.ref 210)=some (.type "function"):=by kernel_rfl
noncomputable def FJ:aD 2 dS (af (aR cg 1) 0):=⟨_,fun g ok ba=>(@ad _ _ _ _ _ _ _ _ (@aM _ _ _ _ _ _ _ _ _ _ _ _ (@bA _ _ _ _ 5 _ _ _ _ ok pG rfl (xc _) (@CB.up _ _ _ _ _ _ (@CBs.fob _ _ _ _ _ ok ba.gn (fun hp=>g9 (G:=(Gk g).pv AllBare hp) (ok.pv AllBare hp) (un _) (uh _) (v8 _) (vN _) (by kernel_rfl) (tp {g with gn:=AllBare,hp:=hp} (ok.pv AllBare hp) ⟨rfl⟩))) rfl)) (@ac _ _ _ _ _ _ _ (@aa _ _ _ 3 _ _ _ dO rfl rfl) ae (fun _ _=>rfl)) aw (fun _ _=>rfl) (fun _ _=>rfl) (fun _ _=>rfl)) (@am _ _ _ _ _ (@aj _ _ _ 4 _ _ _ rfl (.inl rfl)) (fun _=>rfl)) (fun _=>rfl) (fun _ _=>rfl))⟩
theorem Bg (g:GA):(Gk g).an[7]?=some (tS "less"):=by kernel_rfl
theorem C1 (P:Params):findIn (KK P) (.ref 255) (tS "less")=some (some (.ref 245)):=by kernel_rfl
theorem GT (P:Params):typeIn (KK P) (.ref 245)=some (.type "function"):=by kernel_rfl
noncomputable def FK:aD 2 dS (af (GZ (af (aR cg 1) 1)) 0):=⟨_,fun g ok ba=>(@ad _ _ _ _ _ _ _ _ (@bv _ _ _ _ _ _ _ _ _ _ _ ok (@aa _ _ _ 1 _ _ _ dO rfl rfl) ck (@bN _ _ _ _ _ (@dK _ _ _ _ _ _ ay))) (@am _ _ _ _ _ (@aj _ _ _ 1 _ _ _ rfl (.inl rfl)) (fun _=>rfl)) (fun _=>rfl) (fun _ _=>rfl))⟩
noncomputable def FL:aD 2 dS (af (aR cg 1) 1):=⟨_,fun g ok ba=>(@kU _ _ _ _ _ _ _ _ 60 (@du _ _ _ _ _ _ _ (@bH _ _ _ _ _ _ _ (@bo _ _ _ _ _ (@aa _ _ _ 1 _ _ _ dO rfl rfl) (fun _ _=>rfl)) (@bH _ _ _ _ _ _ _ (@pq _ _ _ _ _ _ (@bo _ _ _ _ _ (@aB _ _ _ _ _ _ _ _ _ _ _ _ _ (@hJ _ _ _ _ _ _ _ 7 _ _ _ ok (bO g) (Bg g) (C1 _) (GT _) (@bS _ _ _ _ _ _ _ _ ok (@aa _ _ _ 1 _ _ _ dO rfl rfl) (@dK _ _ _ _ _ _ ay)) (@CB.up _ _ _ _ _ _ (@FN.cb _ _ _ _ _ ok (Cp g ok ba)) rfl)) (@ac _ _ _ _ _ _ _ (@aa _ _ _ 4 _ _ _ dO rfl rfl) ae (fun _ _=>rfl)) aw (fun _=>rfl) rfl (fun _ _=>rfl) (fun _ _=>rfl) (fun _ _=>rfl) (fun _ _=>rfl)) (fun _ _=>rfl))) cU))) (@aP _ _ _ (GZ (af (aR cg 1) 1)) 1 _ (by kernel_rfl) (@ab _ _ _ _ _ _ _ (@aG _ _ _ FK g ok ba) al)))⟩
noncomputable def FM:aD 2 dS (af (aR cg 1) 2):=⟨_,fun g ok ba=>(@aS _ _ _ _ _ _ (@aB _ _ _ _ _ _ _ _ _ _ _ _ _ (@bJ _ _ _ _ _ (@aa _ _ _ 2 _ _ _ dO rfl rfl)) (@ac _ _ _ _ _ _ _ (@aM _ _ _ _ _ _ _ _ _ _ _ _ (@aJ _ _ _ _ 6 _ _ _ _ ok rfl (jf g) fP) (@ac _ _ _ _ _ _ _ (@aa _ _ _ 1 _ _ _ dO rfl rfl) ae (fun _ _=>rfl)) aw (fun _ _=>rfl) (fun _ _=>rfl) (fun _ _=>rfl)) ae (fun _ _=>rfl)) aw (fun _=>rfl) rfl (fun _ _=>rfl) (fun _ _=>rfl) (fun _ _=>rfl) (fun _ _=>rfl)) (fun _=>rfl))⟩
noncomputable def FO:aD 2 dS (af (aR cg 1) 3):=⟨_,fun g ok ba=>(@ad _ _ _ _ _ _ _ _ (@aQ _ _ _ _ _ _ _ _ _ ok (@aa _ _ _ 1 _ _ _ dO rfl rfl) (@bW _ _ _ _ _ _ ok (@ac _ _ _ _ _ _ _ (@aa _ _ _ 4 _ _ _ dO rfl rfl) ae (fun _ _=>rfl)))) (@am _ _ _ _ _ (@aj _ _ _ 1 _ _ _ rfl (.inl rfl)) (fun _=>rfl)) (fun _=>rfl) (fun _ _=>rfl))⟩
noncomputable def mJ:Aa 2 dS (aR cg 1):=⟨_,fun g ok ba=>(@aP _ _ _ (aR cg 1) 4 _ (by kernel_rfl) (@ab _ _ _ _ _ _ _ (@aG _ _ _ FJ g ok ba) (@ab _ _ _ _ _ _ _ (@aG _ _ _ FL g ok ba) (@ab _ _ _ _ _ _ _ (@aG _ _ _ FM g ok ba) (@ab _ _ _ _ _ _ _ (@aG _ _ _ FO g ok ba) al)))))⟩
noncomputable def bZ:DS:=mJ.1
noncomputable def FP:aD 2 dS (IB 0):=⟨_,fun g ok ba=>(@d7 _ _ _ _ _ _ _ [2,1] [(tS "depths"),(tS "pile")] _ _ (@aV _ _ _ _ _ _ _ ok (@ac _ _ _ _ _ _ _ (@bW _ _ _ _ _ _ ok ae) (@ac _ _ _ _ _ _ _ (@b7 _ _ _ _ _ _ ok ae) ae (fun _ _=>rfl)) (fun _ _=>rfl)) (by decide)) (fun _=>rfl) (fun env he=>(cK he).trans (by kernel_rfl)) rfl (cj rfl))⟩
noncomputable def FQ:aD 2 dS (IB 1):=⟨_,fun g ok ba=>(@eo _ _ _ false _ _ _ _ _ _ _ 60 (@cO _ _ _ _ _ _ ok (@aa _ _ _ 0 _ _ _ dO rfl rfl)) (fun h=>nomatch h) (@aj _ _ _ 3 _ _ _ rfl (.inl rfl)) (@Hb _ _ _ mJ g ok ba) (fun _ _=>rfl))⟩
noncomputable def u7:(D:List V→List V→DE) ×' (∀ g:GA,(Gk g).Ok→Bare g→FN (Gk g) 3 410 [] D):=⟨_,fun g ok ba=>bf (lv:=2) (fd:=n8) (body:=cg) (sc:=dS) ok (DY g) (@aX _ _ _ _ 1 [(0,.pos 0)] [(tS "leads")] ok rfl (bp rfl) (aE (by kernel_rfl)) (bV rfl) (fun h vals kvals X h1 h2=>by obtain ⟨u0,rfl⟩:=jt h1; obtain rfl:=eA h2; exact Looks.of_peek (K:=KK g.w.params) X (by kernel_rfl))) (@aP _ _ _ cg 3 _ (by kernel_rfl) (@ab _ _ _ _ _ _ _ (@aG _ _ _ FP g ok ba) (@ab _ _ _ _ _ _ _ (@aG _ _ _ FQ g ok ba) (@ab _ _ _ _ _ _ _ (@aK _ _ _ _ _ _ (@iy _ _ _ _ _ ok (@aa _ _ _ 2 _ _ _ dO rfl rfl))) al))))⟩
noncomputable def rN:List V→List V→DE:=u7.1
theorem Ch (g:GA) (ok:(Gk g).Ok) (ba:Bare g):FN (Gk g) 3 410 [] rN:=u7.2 g ok ba
theorem Cs (g:GA) (ok:(Gk g).Ok) (ba:Bare g):FN (Gk g) 3 410 [] (cF rN):=FN.apart ba.gn fun hp=>Ch {g with gn:=AllBare,hp:=hp} (ok.pv AllBare hp) ⟨rfl⟩
noncomputable def Dq:List (Str×NameKind):=[((tS "depths"),.local),((tS "table"),.local),((tS "calls"),.local),((tS "place"),.local),((tS "depth"),.local),((tS "Headers"),.globalImplicit),((tS "enumerate"),.globalImplicit),((tS "_law_word"),.globalImplicit),((tS "range"),.globalImplicit),((tS "max"),.globalImplicit)]
noncomputable def dT:Sc:=⟨Dq,true,416,(tS "_law_calls.<locals>.")⟩
theorem dP:NamesOk dT:=by unfold NamesOk; kernel_rfl
noncomputable def n9:FuncData:=dE (cT P0 417) default
noncomputable def cy:List PySem.Stmt:=bw (some n9)
noncomputable abbrev C9:=af cy
theorem DZ (g:GA):FnOk (Gk g) 417 n9 cy dT:=FnOk.of (by kernel_rfl) (by kernel_rfl)
theorem ld:cS (tS "_law_word"):=by kernel_rfl
theorem pO (P:Params):nsIn (KK P) mainGlobals (tS "_law_word")=some (some (.ref 396)):=by kernel_rfl
theorem sg (g:GA):(Gk g).an[11]?=some (tS "add_header"):=by kernel_rfl
theorem ui (P:Params):findIn (KK P) (.ref 182) (tS "add_header")=some (some (.ref 179)):=by kernel_rfl
theorem v9 (P:Params):typeIn (KK P) (.ref 179)=some (.type "function"):=by kernel_rfl
noncomputable def FR:aD 3 dT (af (aR cy 1) 0):=⟨_,fun g ok ba=>(@aS _ _ _ _ _ _ (@aB _ _ _ _ _ _ _ _ _ _ _ _ _ (@d3 _ _ _ _ _ _ _ 11 _ _ _ ok (dL g) (sg g) (ui _) (v9 _) (@aa _ _ _ 1 _ _ _ dP rfl rfl) (@CB.up _ _ _ _ _ _ (@FN.cb _ _ _ _ _ ok (to g ok ba)) rfl)) (@ac _ _ _ _ _ _ _ (@aB _ _ _ _ _ _ _ _ _ _ _ _ _ (@kR _ _ _ _ _ (@aM _ _ _ _ _ _ _ _ _ _ _ _ (@bA _ _ _ _ 7 _ _ _ _ ok ld rfl (pO _) (@CB.up _ _ _ _ _ _ (@FN.cb _ _ _ _ _ ok (lm g ok ba)) rfl)) (@ac _ _ _ _ _ _ _ (@aa _ _ _ 4 _ _ _ dP rfl rfl) ae (fun _ _=>rfl)) aw (fun _ _=>rfl) (fun _ _=>rfl) (fun _ _=>rfl))) ae aw (fun _=>rfl) rfl (fun _ _=>rfl) (fun _ _=>rfl) (fun _ _=>rfl) (fun _ _=>rfl)) (@ac _ _ _ _ _ _ _ (@aM _ _ _ _ _ _ _ _ _ _ _ _ (@bA _ _ _ _ 7 _ _ _ _ ok ld rfl (pO _) (@CB.up _ _ _ _ _ _ (@FN.cb _ _ _ _ _ ok (lm g ok ba)) rfl)) (@ac _ _ _ _ _ _ _ (@aa _ _ _ 3 _ _ _ dP rfl rfl) ae (fun _ _=>rfl)) aw (fun _ _=>rfl) (fun _ _=>rfl) (fun _ _=>rfl)) ae (fun _ _=>rfl)) (fun _ _=>rfl)) aw (fun _=>rfl) rfl (fun _ _=>rfl) (fun _ _=>rfl) (fun _ _=>rfl) (fun _ _=>rfl)) (fun _=>rfl))⟩
noncomputable def FS:aD 3 dT (af (aR cy 1) 1):=⟨_,fun g ok ba=>(@aS _ _ _ _ _ _ (@aB _ _ _ _ _ _ _ _ _ _ _ _ _ (@d3 _ _ _ _ _ _ _ 11 _ _ _ ok (dL g) (sg g) (ui _) (v9 _) (@aa _ _ _ 1 _ _ _ dP rfl rfl) (@CB.up _ _ _ _ _ _ (@FN.cb _ _ _ _ _ ok (to g ok ba)) rfl)) (@ac _ _ _ _ _ _ _ (@aM _ _ _ _ _ _ _ _ _ _ _ _ (@bA _ _ _ _ 7 _ _ _ _ ok ld rfl (pO _) (@CB.up _ _ _ _ _ _ (@FN.cb _ _ _ _ _ ok (lm g ok ba)) rfl)) (@ac _ _ _ _ _ _ _ (@aQ _ _ _ _ _ _ _ _ _ ok (@aa _ _ _ 4 _ _ _ dP rfl rfl) ay) ae (fun _ _=>rfl)) aw (fun _ _=>rfl) (fun _ _=>rfl) (fun _ _=>rfl)) (@ac _ _ _ _ _ _ _ (@bn _ _ _ _ _ _ _ fY) ae (fun _ _=>rfl)) (fun _ _=>rfl)) aw (fun _=>rfl) rfl (fun _ _=>rfl) (fun _ _=>rfl) (fun _ _=>rfl) (fun _ _=>rfl)) (fun _=>rfl))⟩
noncomputable def vh:Aa 3 dT (aR cy 1):=⟨_,fun g ok ba=>(@aP _ _ _ (aR cy 1) 2 _ (by kernel_rfl) (@ab _ _ _ _ _ _ _ (@aG _ _ _ FR g ok ba) (@ab _ _ _ _ _ _ _ (@aG _ _ _ FS g ok ba) al)))⟩
theorem Bh (g:GA):(Gk g).an[10]?=some (tS "get_all"):=by kernel_rfl
theorem C2 (P:Params):findIn (KK P) (.ref 182) (tS "get_all")=some (some (.ref 121)):=by kernel_rfl
theorem GU (P:Params):typeIn (KK P) (.ref 121)=some (.type "function"):=by kernel_rfl
noncomputable def FT:aD 3 dT (af (aR cy 2) 0):=⟨_,fun g ok ba=>(@z9 _ _ _ 2 _ _ _ _ _ _ ok dP rfl (.inl rfl) (@iy _ _ _ _ _ ok (@aB _ _ _ _ _ _ _ _ _ _ _ _ _ (@d3 _ _ _ _ _ _ _ 10 _ _ _ ok (dL g) (Bh g) (C2 _) (GU _) (@aa _ _ _ 1 _ _ _ dP rfl rfl) (@CB.up _ _ _ _ _ _ (@FN.cb _ _ _ _ _ ok (B8 g ok ba)) rfl)) (@ac _ _ _ _ _ _ _ (@aM _ _ _ _ _ _ _ _ _ _ _ _ (@bA _ _ _ _ 7 _ _ _ _ ok ld rfl (pO _) (@CB.up _ _ _ _ _ _ (@FN.cb _ _ _ _ _ ok (lm g ok ba)) rfl)) (@ac _ _ _ _ _ _ _ (@aa _ _ _ 4 _ _ _ dP rfl rfl) ae (fun _ _=>rfl)) aw (fun _ _=>rfl) (fun _ _=>rfl) (fun _ _=>rfl)) ae (fun _ _=>rfl)) aw (fun _=>rfl) rfl (fun _ _=>rfl) (fun _ _=>rfl) (fun _ _=>rfl) (fun _ _=>rfl))))⟩
noncomputable def vj:Aa 3 dT (aR cy 2):=⟨_,fun g ok ba=>(@aP _ _ _ (aR cy 2) 1 _ (by kernel_rfl) (@ab _ _ _ _ _ _ _ (@aG _ _ _ FT g ok ba) al))⟩
theorem C6 (P:Params):makesIn (KK P) 182=true:=by kernel_rfl
theorem GI (P:Params):specialIn (KK P) (.ref 182) "__call__"=some (some (.builtin "type.__call__")):=by kernel_rfl
theorem Bp:cS (tS "Headers"):=by kernel_rfl
theorem Ib (P:Params):nsIn (KK P) mainGlobals (tS "Headers")=some (some (.ref 182)):=by kernel_rfl
theorem C3 (P:Params):findIn (KK P) (.ref 182) (tS "__init__")=some (some (.ref 76)):=by kernel_rfl
theorem GV (P:Params):typeIn (KK P) (.ref 76)=some (.type "function"):=by kernel_rfl
noncomputable def FU:aD 3 dT (C9 0):=⟨_,fun g ok ba=>(@d7 _ _ _ _ _ _ _ [2,1] [(tS "calls"),(tS "table")] _ _ (@aV _ _ _ _ _ _ _ ok (@ac _ _ _ _ _ _ _ (@aM _ _ _ _ _ _ _ _ _ _ _ _ (@bA _ _ _ _ 5 _ _ _ _ ok Bp rfl (Ib _) (@CB.up _ _ _ _ _ _ (@lQ _ _ _ _ _ _ ok (C6 _) (C3 _) (GV _) (GI _) (by kernel_rfl) (H4 g ok ba)) rfl)) ae aw (fun _ _=>rfl) (fun _ _=>rfl) (fun _ _=>rfl)) (@ac _ _ _ _ _ _ _ (@b7 _ _ _ _ _ _ ok ae) ae (fun _ _=>rfl)) (fun _ _=>rfl)) (by decide)) (fun _=>rfl) (fun env he=>(cK he).trans (by kernel_rfl)) rfl (cj rfl))⟩
theorem pA (g:GA):Bltin (Gk g) (tS "enumerate") (.type "enumerate"):=⟨by kernel_rfl,by decide,PyProof.Rows.Boot.«enumerate»,by kernel_rfl⟩
noncomputable def FV:aD 3 dT (C9 1):=⟨_,fun g ok ba=>(@r8 _ _ _ true _ _ _ _ _ _ _ 60 (@cW _ _ _ _ _ 6 _ _ _ _ _ _ ok rfl (pA g) (fun _ h=>nomatch h) (kP ok) (@ac _ _ _ _ _ _ _ (@aa _ _ _ 0 _ _ _ dP rfl rfl) ae (fun _ _=>rfl)) (fun _ _=>rfl)) (fun _=>rfl) (@bX _ _ _ _ _ _ _ (@aO _ _ _ _ _ _ _ (@aj _ _ _ 3 _ _ _ rfl (.inl rfl)) (@aO _ _ _ _ _ _ _ (@aj _ _ _ 4 _ _ _ rfl (.inl rfl)) cG (fun _=>rfl)) (fun _=>rfl)) (fun _=>rfl) (fun _=>rfl)) (@Hb _ _ _ vh g ok ba) (fun _ _=>rfl))⟩
noncomputable def FW:aD 3 dT (C9 2):=⟨_,fun g ok ba=>(@r8 _ _ _ false _ _ _ _ _ _ _ 60 (@cW _ _ _ _ _ 8 _ _ _ _ _ _ ok rfl (nz g) (fun _ h=>nomatch h) (eJ ok) (@ac _ _ _ _ _ _ _ (@aQ _ _ _ _ _ _ _ _ _ ok (@aM _ _ _ _ _ _ _ _ _ _ _ _ (@aJ _ _ _ _ 9 _ _ _ _ ok rfl (Bk g) rE) (@ac _ _ _ _ _ _ _ (@aa _ _ _ 0 _ _ _ dP rfl rfl) ae (fun _ _=>rfl)) aw (fun _ _=>rfl) (fun _ _=>rfl) (fun _ _=>rfl)) ay) ae (fun _ _=>rfl)) (fun _ _=>rfl)) (fun h=>nomatch h) (@aj _ _ _ 4 _ _ _ rfl (.inl rfl)) (@Hb _ _ _ vj g ok ba) (fun _ _=>rfl))⟩
noncomputable def u8:(D:List V→List V→DE) ×' (∀ g:GA,(Gk g).Ok→Bare g→FN (Gk g) 4 417 [] D):=⟨_,fun g ok ba=>bf (lv:=3) (fd:=n9) (body:=cy) (sc:=dT) ok (DZ g) (@aX _ _ _ _ 1 [(0,.pos 0)] [(tS "depths")] ok rfl (bp rfl) (aE (by kernel_rfl)) (bV rfl) (fun h vals kvals X h1 h2=>by obtain ⟨u0,rfl⟩:=jt h1; obtain rfl:=eA h2; exact Looks.of_peek (K:=KK g.w.params) X (by kernel_rfl))) (@aP _ _ _ cy 4 _ (by kernel_rfl) (@ab _ _ _ _ _ _ _ (@aG _ _ _ FU g ok ba) (@ab _ _ _ _ _ _ _ (@aG _ _ _ FV g ok ba) (@ab _ _ _ _ _ _ _ (@aG _ _ _ FW g ok ba) (@ab _ _ _ _ _ _ _ (@aK _ _ _ _ _ _ (@iy _ _ _ _ _ ok (@aa _ _ _ 2 _ _ _ dP rfl rfl))) al)))))⟩
noncomputable def zY:List V→List V→DE:=u8.1
theorem Ci (g:GA) (ok:(Gk g).Ok) (ba:Bare g):FN (Gk g) 4 417 [] zY:=u8.2 g ok ba
theorem Ct (g:GA) (ok:(Gk g).Ok) (ba:Bare g):FN (Gk g) 4 417 [] (cF zY):=FN.apart ba.gn fun hp=>Ci {g with gn:=AllBare,hp:=hp} (ok.pv AllBare hp) ⟨rfl⟩
noncomputable def Dr:List (Str×NameKind):=[((tS "calls"),.local),((tS "pieces"),.local),((tS "opened"),.local),((tS "writer"),.local),((tS "word"),.local),((tS "C14NWriterTarget"),.globalImplicit)]
noncomputable def cH:Sc:=⟨Dr,true,423,(tS "_law_written.<locals>.")⟩
theorem dm:NamesOk cH:=by unfold NamesOk; kernel_rfl
noncomputable def oa:FuncData:=dE (cT P0 424) default
noncomputable def bC:List PySem.Stmt:=bw (some oa)
noncomputable abbrev xw:=af bC
theorem D1 (g:GA):FnOk (Gk g) 424 oa bC cH:=FnOk.of (by kernel_rfl) (by kernel_rfl)
theorem sj (g:GA):(Gk g).an[32]?=some (tS "start"):=by kernel_rfl
theorem uj (P:Params):findIn (KK P) (.ref 371) (tS "start")=some (some (.ref 341)):=by kernel_rfl
theorem wa (P:Params):typeIn (KK P) (.ref 341)=some (.type "function"):=by kernel_rfl
noncomputable def FX:aD 5 cH (af (bt (af (aR bC 3) 0)) 0):=⟨_,fun g ok ba=>(@aS _ _ _ _ _ _ (@aB _ _ _ _ _ _ _ _ _ _ _ _ _ (@d3 _ _ _ _ _ _ _ 32 _ _ _ ok (az g) (sj g) (uj _) (wa _) (@aa _ _ _ 3 _ _ _ dm rfl rfl) (@CB.up _ _ _ _ _ _ (@FN.cb _ _ _ _ _ ok (tr g ok ba)) rfl)) (@ac _ _ _ _ _ _ _ (@aa _ _ _ 4 _ _ _ dm rfl rfl) (@ac _ _ _ _ _ _ _ (@iP _ _ _ _ ok) ae (fun _ _=>rfl)) (fun _ _=>rfl)) aw (fun _=>rfl) rfl (fun _ _=>rfl) (fun _ _=>rfl) (fun _ _=>rfl) (fun _ _=>rfl)) (fun _=>rfl))⟩
noncomputable def FY:aD 5 cH (af (bt (af (aR bC 3) 0)) 1):=⟨_,fun g ok ba=>(@ad _ _ _ _ _ _ _ _ (@aQ _ _ _ _ _ _ _ _ _ ok (@aa _ _ _ 2 _ _ _ dm rfl rfl) (@bW _ _ _ _ _ _ ok (@ac _ _ _ _ _ _ _ (@aa _ _ _ 4 _ _ _ dm rfl rfl) ae (fun _ _=>rfl)))) (@am _ _ _ _ _ (@aj _ _ _ 2 _ _ _ rfl (.inl rfl)) (fun _=>rfl)) (fun _=>rfl) (fun _ _=>rfl))⟩
theorem sk (g:GA):(Gk g).an[33]?=some (tS "end"):=by kernel_rfl
theorem uk (P:Params):findIn (KK P) (.ref 371) (tS "end")=some (some (.ref 354)):=by kernel_rfl
theorem wb (P:Params):typeIn (KK P) (.ref 354)=some (.type "function"):=by kernel_rfl
noncomputable def FZ:aD 5 cH (af (gg (af (aR bC 3) 0)) 0):=⟨_,fun g ok ba=>(@aS _ _ _ _ _ _ (@aB _ _ _ _ _ _ _ _ _ _ _ _ _ (@d3 _ _ _ _ _ _ _ 33 _ _ _ ok (az g) (sk g) (uk _) (wb _) (@aa _ _ _ 3 _ _ _ dm rfl rfl) (@CB.up _ _ _ _ _ _ (@FN.cb _ _ _ _ _ ok (tt g ok ba)) rfl)) (@ac _ _ _ _ _ _ _ (@bS _ _ _ _ _ _ _ _ ok (@aa _ _ _ 2 _ _ _ dm rfl rfl) (@dK _ _ _ _ _ _ ay)) ae (fun _ _=>rfl)) aw (fun _=>rfl) rfl (fun _ _=>rfl) (fun _ _=>rfl) (fun _ _=>rfl) (fun _ _=>rfl)) (fun _=>rfl))⟩
noncomputable def F0:aD 5 cH (af (gg (af (aR bC 3) 0)) 1):=⟨_,fun g ok ba=>(@ad _ _ _ _ _ _ _ _ (@bv _ _ _ _ _ _ _ _ _ _ _ ok (@aa _ _ _ 2 _ _ _ dm rfl rfl) ck (@bN _ _ _ _ _ (@dK _ _ _ _ _ _ ay))) (@am _ _ _ _ _ (@aj _ _ _ 2 _ _ _ rfl (.inl rfl)) (fun _=>rfl)) (fun _=>rfl) (fun _ _=>rfl))⟩
noncomputable def F1:aD 5 cH (af (aR bC 3) 0):=⟨_,fun g ok ba=>(@bL _ _ _ _ _ _ _ _ _ _ (@bo _ _ _ _ _ (@aa _ _ _ 4 _ _ _ dm rfl rfl) (fun _ _=>rfl)) (@aP _ _ _ (bt (af (aR bC 3) 0)) 2 _ (by kernel_rfl) (@ab _ _ _ _ _ _ _ (@aG _ _ _ FX g ok ba) (@ab _ _ _ _ _ _ _ (@aG _ _ _ FY g ok ba) al))) (@aP _ _ _ (gg (af (aR bC 3) 0)) 2 _ (by kernel_rfl) (@ab _ _ _ _ _ _ _ (@aG _ _ _ FZ g ok ba) (@ab _ _ _ _ _ _ _ (@aG _ _ _ F0 g ok ba) al))))⟩
noncomputable def mK:Aa 5 cH (aR bC 3):=⟨_,fun g ok ba=>(@aP _ _ _ (aR bC 3) 1 _ (by kernel_rfl) (@ab _ _ _ _ _ _ _ (@aG _ _ _ F1 g ok ba) al))⟩
noncomputable def bI:DS:=mK.1
noncomputable def vk:aD 5 cH (xw 0):=⟨_,fun g ok ba=>(@d7 _ _ _ _ _ _ _ [2,1] [(tS "opened"),(tS "pieces")] _ _ (@aV _ _ _ _ _ _ _ ok (@ac _ _ _ _ _ _ _ (@b7 _ _ _ _ _ _ ok ae) (@ac _ _ _ _ _ _ _ (@bW _ _ _ _ _ _ ok ae) ae (fun _ _=>rfl)) (fun _ _=>rfl)) (by decide)) (fun _=>rfl) (fun env he=>(cK he).trans (by kernel_rfl)) rfl (cj rfl))⟩
theorem C7 (P:Params):makesIn (KK P) 371=true:=by kernel_rfl
theorem GK (P:Params):specialIn (KK P) (.ref 371) "__call__"=some (some (.builtin "type.__call__")):=by kernel_rfl
theorem Bq:cS (tS "C14NWriterTarget"):=by kernel_rfl
theorem Ic (P:Params):nsIn (KK P) mainGlobals (tS "C14NWriterTarget")=some (some (.ref 371)):=by kernel_rfl
theorem C4 (P:Params):findIn (KK P) (.ref 371) (tS "__init__")=some (some (.ref 288)):=by kernel_rfl
theorem GW (P:Params):typeIn (KK P) (.ref 288)=some (.type "function"):=by kernel_rfl
noncomputable def vl:aD 5 cH (xw 1):=⟨_,fun g ok ba=>(@ad _ _ _ _ _ _ _ _ (@aM _ _ _ _ _ _ _ _ _ _ _ _ (@bA _ _ _ _ 5 _ _ _ _ ok Bq rfl (Ic _) (@CB.up _ _ _ _ _ _ (@lQ _ _ _ _ _ _ ok (C7 _) (C4 _) (GW _) (GK _) (by kernel_rfl) (Cd g ok ba)) rfl)) (@ac _ _ _ _ _ _ _ (@rP _ _ _ _ _ _ ok (@aa _ _ _ 1 _ _ _ dm rfl rfl) (fun _=>rfl)) ae (fun _ _=>rfl)) aw (fun _ _=>rfl) (fun _ _=>rfl) (fun _ _=>rfl)) (@am _ _ _ _ _ (@aj _ _ _ 3 _ _ _ rfl (.inl rfl)) (fun _=>rfl)) (fun _=>rfl) (fun _ _=>rfl))⟩
theorem AK:(tS "A")=(⟨([65]:List Nat).toArray⟩:Str):=by kernel_rfl
noncomputable def vm:aD 5 cH (xw 2):=⟨_,fun g ok ba=>(@aS _ _ _ _ _ _ (@aB _ _ _ _ _ _ _ _ _ _ _ _ _ (@d3 _ _ _ _ _ _ _ 32 _ _ _ ok (az g) (sj g) (uj _) (wa _) (@aa _ _ _ 3 _ _ _ dm rfl rfl) (@CB.up _ _ _ _ _ _ (@FN.cb _ _ _ _ _ ok (tr g ok ba)) rfl)) (@ac _ _ _ _ _ _ _ (@bn _ _ _ _ _ _ _ AK) (@ac _ _ _ _ _ _ _ (@iP _ _ _ _ ok) ae (fun _ _=>rfl)) (fun _ _=>rfl)) aw (fun _=>rfl) rfl (fun _ _=>rfl) (fun _ _=>rfl) (fun _ _=>rfl) (fun _ _=>rfl)) (fun _=>rfl))⟩
noncomputable def vn:aD 5 cH (xw 3):=⟨_,fun g ok ba=>(@Bc _ _ _ _ _ [0,1,2,3,4,5,6,7,8,10,18] (@Hx _ _ _ _ _ 1 (@wI _ _ _ false _ _ _ _ _ _ _ [1,2,3] 60 (@cO _ _ _ _ _ _ ok (@aa _ _ _ 0 _ _ _ dm rfl rfl)) (fun h=>nomatch h) (@aj _ _ _ 4 _ _ _ rfl (.inl rfl)) (@Hb _ _ _ mK g ok ba) (fun _ _=>rfl))))⟩
noncomputable def F3:aD 5 cH (af (bC.drop 4) 0):=⟨_,fun g ok ba=>(@aS _ _ _ _ _ _ (@aB _ _ _ _ _ _ _ _ _ _ _ _ _ (@d3 _ _ _ _ _ _ _ 33 _ _ _ ok (az g) (sk g) (uk _) (wb _) (@aa _ _ _ 3 _ _ _ dm rfl rfl) (@CB.up _ _ _ _ _ _ (@FN.cb _ _ _ _ _ ok (tt g ok ba)) rfl)) (@ac _ _ _ _ _ _ _ (@bn _ _ _ _ _ _ _ AK) ae (fun _ _=>rfl)) aw (fun _=>rfl) rfl (fun _ _=>rfl) (fun _ _=>rfl) (fun _ _=>rfl) (fun _ _=>rfl)) (fun _=>rfl))⟩
noncomputable def F4:aD 5 cH (af (bC.drop 4) 1):=⟨_,fun g ok ba=>(@aK _ _ _ _ _ _ (@aB _ _ _ _ _ _ _ _ _ _ _ _ _ (@kQ _ _ _ _ _ (@bn _ _ _ _ _ _ _ fY)) (@ac _ _ _ _ _ _ _ (@iy _ _ _ _ _ ok (@aa _ _ _ 1 _ _ _ dm rfl rfl)) ae (fun _ _=>rfl)) aw (fun _=>rfl) rfl (fun _ _=>rfl) (fun _ _=>rfl) (fun _ _=>rfl) (fun _ _=>rfl)))⟩
noncomputable def mL:Aa 5 cH (bC.drop 4):=⟨_,fun g ok ba=>(@aP _ _ _ (bC.drop 4) 2 _ (by kernel_rfl) (@ab _ _ _ _ _ _ _ (@aG _ _ _ F3 g ok ba) (@ab _ _ _ _ _ _ _ (@aG _ _ _ F4 g ok ba) al)))⟩
noncomputable def cJ:DS:=mL.1
noncomputable def u9:(D:List V→List V→DE) ×' (∀ g:GA,(Gk g).Ok→Bare g→FN (Gk g) 6 424 [] D):=⟨_,fun g ok ba=>bf (lv:=5) (fd:=oa) (body:=bC) (sc:=cH) ok (D1 g) (@aX _ _ _ _ 1 [(0,.pos 0)] [(tS "calls")] ok rfl (bp rfl) (aE (by kernel_rfl)) (bV rfl) (fun h vals kvals X h1 h2=>by obtain ⟨u0,rfl⟩:=jt h1; obtain rfl:=eA h2; exact Looks.of_peek (K:=KK g.w.params) X (by kernel_rfl))) (@ab _ _ _ _ _ _ _ (@aG _ _ _ vk g ok ba) (@ab _ _ _ _ _ _ _ (@aG _ _ _ vl g ok ba) (@ab _ _ _ _ _ _ _ (@aG _ _ _ vm g ok ba) (@ab _ _ _ _ _ _ _ (@aG _ _ _ vn g ok ba) (@Hb _ _ _ mL g ok ba)))))⟩
noncomputable def pf:List V→List V→DE:=u9.1
theorem Cj (g:GA) (ok:(Gk g).Ok) (ba:Bare g):FN (Gk g) 6 424 [] pf:=u9.2 g ok ba
theorem Cu (g:GA) (ok:(Gk g).Ok) (ba:Bare g):FN (Gk g) 6 424 [] (cF pf):=FN.apart ba.gn fun hp=>Cj {g with gn:=AllBare,hp:=hp} (ok.pv AllBare hp) ⟨rfl⟩
noncomputable def Ds:List (Str×NameKind):=[((tS "marks"),.local),((tS "heights"),.local),((tS "nest"),.local),((tS "begun"),.local),((tS "mark"),.local)]
noncomputable def eQ:Sc:=⟨Ds,true,430,(tS "_law_heights.<locals>.")⟩
theorem dQ:NamesOk eQ:=by unfold NamesOk; kernel_rfl
noncomputable def oe:FuncData:=dE (cT P0 431) default
noncomputable def gM:List PySem.Stmt:=bw (some oe)
noncomputable abbrev lz:=af gM
theorem D2 (g:GA):FnOk (Gk g) 431 oe gM eQ:=FnOk.of (by kernel_rfl) (by kernel_rfl)
noncomputable def F5:aD 0 eQ (lz 0):=⟨_,fun g ok ba=>(@d7 _ _ _ _ _ _ _ [3,2,1] [(tS "begun"),(tS "nest"),(tS "heights")] _ _ (@aV _ _ _ _ _ _ _ ok (@ac _ _ _ _ _ _ _ (@b7 _ _ _ _ _ _ ok ae) (@ac _ _ _ _ _ _ _ (@bW _ _ _ _ _ _ ok ae) (@ac _ _ _ _ _ _ _ ay ae (fun _ _=>rfl)) (fun _ _=>rfl)) (fun _ _=>rfl)) (by decide)) (fun _=>rfl) (fun env he=>(cK he).trans (by kernel_rfl)) rfl (cj rfl))⟩
theorem AL:(tS "/")=(⟨([47]:List Nat).toArray⟩:Str):=by kernel_rfl
noncomputable def F6:aD 0 eQ (af (bt (af (ca (lz 1)) 0)) 0):=⟨_,fun g ok ba=>(@aS _ _ _ _ _ _ (@aB _ _ _ _ _ _ _ _ _ _ _ _ _ (@bJ _ _ _ _ _ (@aa _ _ _ 1 _ _ _ dQ rfl rfl)) (@ac _ _ _ _ _ _ _ (@aa _ _ _ 3 _ _ _ dQ rfl rfl) ae (fun _ _=>rfl)) aw (fun _=>rfl) rfl (fun _ _=>rfl) (fun _ _=>rfl) (fun _ _=>rfl) (fun _ _=>rfl)) (fun _=>rfl))⟩
noncomputable def F7:aD 0 eQ (af (bt (af (ca (lz 1)) 0)) 1):=⟨_,fun g ok ba=>(@ad _ _ _ _ _ _ _ _ (@bv _ _ _ _ _ _ _ _ _ _ _ ok (@aa _ _ _ 2 _ _ _ dQ rfl rfl) ck (@bN _ _ _ _ _ (@dK _ _ _ _ _ _ ay))) (@am _ _ _ _ _ (@aj _ _ _ 2 _ _ _ rfl (.inl rfl)) (fun _=>rfl)) (fun _=>rfl) (fun _ _=>rfl))⟩
noncomputable def F8:aD 0 eQ (af (gg (af (ca (lz 1)) 0)) 1):=⟨_,fun g ok ba=>(@ad _ _ _ _ _ _ _ _ (@aQ _ _ _ _ _ _ _ _ _ ok (@aa _ _ _ 2 _ _ _ dQ rfl rfl) (@bW _ _ _ _ _ _ ok (@ac _ _ _ _ _ _ _ (@aa _ _ _ 4 _ _ _ dQ rfl rfl) ae (fun _ _=>rfl)))) (@am _ _ _ _ _ (@aj _ _ _ 2 _ _ _ rfl (.inl rfl)) (fun _=>rfl)) (fun _=>rfl) (fun _ _=>rfl))⟩
noncomputable def F9:aD 0 eQ (af (ca (lz 1)) 0):=⟨_,fun g ok ba=>(@bL _ _ _ _ _ _ _ _ _ _ (@du _ _ _ _ _ _ _ (@bH _ _ _ _ _ _ _ (@bo _ _ _ _ _ (@aa _ _ _ 2 _ _ _ dQ rfl rfl) (fun _ _=>rfl)) (@bH _ _ _ _ _ _ _ (@a9 _ _ _ _ _ _ _ _ _ (@aa _ _ _ 4 _ _ _ dQ rfl rfl) (@aQ _ _ _ _ _ _ _ _ _ ok (@bn _ _ _ _ _ _ _ AL) (@bS _ _ _ _ _ _ _ _ ok (@aa _ _ _ 2 _ _ _ dQ rfl rfl) (@dK _ _ _ _ _ _ ay))) rfl) cU))) (@aP _ _ _ (bt (af (ca (lz 1)) 0)) 2 _ (by kernel_rfl) (@ab _ _ _ _ _ _ _ (@aG _ _ _ F6 g ok ba) (@ab _ _ _ _ _ _ _ (@aG _ _ _ F7 g ok ba) al))) (@aP _ _ _ (gg (af (ca (lz 1)) 0)) 2 _ (by kernel_rfl) (@ab _ _ _ _ _ _ _ (@z9 _ _ _ 3 _ _ _ _ _ _ ok dQ rfl (.inl rfl) ay) (@ab _ _ _ _ _ _ _ (@aG _ _ _ F8 g ok ba) al))))⟩
noncomputable def Ga:aD 0 eQ (lz 1):=⟨_,fun g ok ba=>(@eo _ _ _ false _ _ _ _ _ _ _ 60 (@cO _ _ _ _ _ _ ok (@aa _ _ _ 0 _ _ _ dQ rfl rfl)) (fun h=>nomatch h) (@aj _ _ _ 4 _ _ _ rfl (.inl rfl)) (@aP _ _ _ (ca (lz 1)) 1 _ (by kernel_rfl) (@ab _ _ _ _ _ _ _ (@aG _ _ _ F9 g ok ba) al)) (fun _ _=>rfl))⟩
noncomputable def ve:(D:List V→List V→DE) ×' (∀ g:GA,(Gk g).Ok→Bare g→FN (Gk g) 1 431 [] D):=⟨_,fun g ok ba=>bf (lv:=0) (fd:=oe) (body:=gM) (sc:=eQ) ok (D2 g) (@aX _ _ _ _ 1 [(0,.pos 0)] [(tS "marks")] ok rfl (bp rfl) (aE (by kernel_rfl)) (bV rfl) (fun h vals kvals X h1 h2=>by obtain ⟨u0,rfl⟩:=jt h1; obtain rfl:=eA h2; exact Looks.of_peek (K:=KK g.w.params) X (by kernel_rfl))) (@aP _ _ _ gM 3 _ (by kernel_rfl) (@ab _ _ _ _ _ _ _ (@aG _ _ _ F5 g ok ba) (@ab _ _ _ _ _ _ _ (@aG _ _ _ Ga g ok ba) (@ab _ _ _ _ _ _ _ (@aK _ _ _ _ _ _ (@iy _ _ _ _ _ ok (@aa _ _ _ 1 _ _ _ dQ rfl rfl))) al))))⟩
noncomputable def zZ:List V→List V→DE:=ve.1
theorem Ck (g:GA) (ok:(Gk g).Ok) (ba:Bare g):FN (Gk g) 1 431 [] zZ:=ve.2 g ok ba
theorem Cv (g:GA) (ok:(Gk g).Ok) (ba:Bare g):FN (Gk g) 1 431 [] (cF zZ):=FN.apart ba.gn fun hp=>Ck {g with gn:=AllBare,hp:=hp} (ok.pv AllBare hp) ⟨rfl⟩
noncomputable def Dt:List (Str×NameKind):=[((tS "heights"),.local),((tS "bounces"),.local),((tS "spot"),.local),((tS "column"),.local),((tS "height"),.local),((tS "enumerate"),.globalImplicit)]
noncomputable def fw:Sc:=⟨Dt,true,437,(tS "_law_bounces.<locals>.")⟩
theorem fk:NamesOk fw:=by unfold NamesOk; kernel_rfl
noncomputable def oh:FuncData:=dE (cT P0 438) default
noncomputable def gN:List PySem.Stmt:=bw (some oh)
noncomputable abbrev oK:=af gN
theorem D3 (g:GA):FnOk (Gk g) 438 oh gN fw:=FnOk.of (by kernel_rfl) (by kernel_rfl)
noncomputable def Gb:aD 0 fw (oK 0):=⟨_,fun g ok ba=>(@d7 _ _ _ _ _ _ _ [2,1] [(tS "spot"),(tS "bounces")] _ _ (@aV _ _ _ _ _ _ _ ok (@ac _ _ _ _ _ _ _ (@b7 _ _ _ _ _ _ ok ae) (@ac _ _ _ _ _ _ _ ay ae (fun _ _=>rfl)) (fun _ _=>rfl)) (by decide)) (fun _=>rfl) (fun env he=>(cK he).trans (by kernel_rfl)) rfl (cj rfl))⟩
noncomputable def Gc:aD 0 fw (af (bt (af (ca (oK 1)) 0)) 0):=⟨_,fun g ok ba=>(@aS _ _ _ _ _ _ (@aB _ _ _ _ _ _ _ _ _ _ _ _ _ (@bJ _ _ _ _ _ (@aa _ _ _ 1 _ _ _ fk rfl rfl)) (@ac _ _ _ _ _ _ _ (@aQ _ _ _ _ _ _ _ _ _ ok (@aa _ _ _ 4 _ _ _ fk rfl rfl) (@aa _ _ _ 2 _ _ _ fk rfl rfl)) ae (fun _ _=>rfl)) aw (fun _=>rfl) rfl (fun _ _=>rfl) (fun _ _=>rfl) (fun _ _=>rfl) (fun _ _=>rfl)) (fun _=>rfl))⟩
noncomputable def Gd:aD 0 fw (af (bt (af (ca (oK 1)) 0)) 1):=⟨_,fun g ok ba=>(@ad _ _ _ _ _ _ _ _ (@aa _ _ _ 4 _ _ _ fk rfl rfl) (@am _ _ _ _ _ (@aj _ _ _ 2 _ _ _ rfl (.inl rfl)) (fun _=>rfl)) (fun _=>rfl) (fun _ _=>rfl))⟩
noncomputable def Ge:aD 0 fw (af (ca (oK 1)) 0):=⟨_,fun g ok ba=>(@bL _ _ _ _ _ _ _ _ _ _ (@a9 _ _ _ _ _ _ _ _ _ (@aa _ _ _ 3 _ _ _ fk rfl rfl) (@aa _ _ _ 2 _ _ _ fk rfl rfl) rfl) (@aP _ _ _ (bt (af (ca (oK 1)) 0)) 2 _ (by kernel_rfl) (@ab _ _ _ _ _ _ _ (@aG _ _ _ Gc g ok ba) (@ab _ _ _ _ _ _ _ (@aG _ _ _ Gd g ok ba) al))) al)⟩
noncomputable def Gf:aD 0 fw (oK 1):=⟨_,fun g ok ba=>(@eo _ _ _ true _ _ _ _ _ _ _ 60 (@cW _ _ _ _ _ 5 _ _ _ _ _ _ ok rfl (pA g) (fun _ h=>nomatch h) (kP ok) (@ac _ _ _ _ _ _ _ (@aa _ _ _ 0 _ _ _ fk rfl rfl) ae (fun _ _=>rfl)) (fun _ _=>rfl)) (fun _=>rfl) (@bX _ _ _ _ _ _ _ (@aO _ _ _ _ _ _ _ (@aj _ _ _ 3 _ _ _ rfl (.inl rfl)) (@aO _ _ _ _ _ _ _ (@aj _ _ _ 4 _ _ _ rfl (.inl rfl)) cG (fun _=>rfl)) (fun _=>rfl)) (fun _=>rfl) (fun _=>rfl)) (@aP _ _ _ (ca (oK 1)) 1 _ (by kernel_rfl) (@ab _ _ _ _ _ _ _ (@aG _ _ _ Ge g ok ba) al)) (fun _ _=>rfl))⟩
noncomputable def vf:(D:List V→List V→DE) ×' (∀ g:GA,(Gk g).Ok→Bare g→FN (Gk g) 1 438 [] D):=⟨_,fun g ok ba=>bf (lv:=0) (fd:=oh) (body:=gN) (sc:=fw) ok (D3 g) (@aX _ _ _ _ 1 [(0,.pos 0)] [(tS "heights")] ok rfl (bp rfl) (aE (by kernel_rfl)) (bV rfl) (fun h vals kvals X h1 h2=>by obtain ⟨u0,rfl⟩:=jt h1; obtain rfl:=eA h2; exact Looks.of_peek (K:=KK g.w.params) X (by kernel_rfl))) (@aP _ _ _ gN 3 _ (by kernel_rfl) (@ab _ _ _ _ _ _ _ (@aG _ _ _ Gb g ok ba) (@ab _ _ _ _ _ _ _ (@aG _ _ _ Gf g ok ba) (@ab _ _ _ _ _ _ _ (@aK _ _ _ _ _ _ (@iy _ _ _ _ _ ok (@aa _ _ _ 1 _ _ _ fk rfl rfl))) al))))⟩
noncomputable def z0:List V→List V→DE:=vf.1
theorem Cl (g:GA) (ok:(Gk g).Ok) (ba:Bare g):FN (Gk g) 1 438 [] z0:=vf.2 g ok ba
theorem Cw (g:GA) (ok:(Gk g).Ok) (ba:Bare g):FN (Gk g) 1 438 [] (cF z0):=FN.apart ba.gn fun hp=>Cl {g with gn:=AllBare,hp:=hp} (ok.pv AllBare hp) ⟨rfl⟩
noncomputable def Du:List (Str×NameKind):=[((tS "marks"),.local),((tS "bounces"),.local),((tS "lines"),.local),((tS "depth"),.local),((tS "bounce"),.local),((tS "many"),.local),((tS "merged"),.local),((tS "mark"),.local),((tS "enumerate"),.globalImplicit)]
noncomputable def c8:Sc:=⟨Du,true,444,(tS "_law_back.<locals>.")⟩
theorem bx:NamesOk c8:=by unfold NamesOk; kernel_rfl
noncomputable def oj:FuncData:=dE (cT P0 445) default
noncomputable def gO:List PySem.Stmt:=bw (some oj)
noncomputable abbrev fO:=af gO
theorem D4 (g:GA):FnOk (Gk g) 445 oj gO c8:=FnOk.of (by kernel_rfl) (by kernel_rfl)
noncomputable def Gg:aD 0 c8 (fO 0):=⟨_,fun g ok ba=>(@ad _ _ _ _ _ _ _ _ (@bW _ _ _ _ _ _ ok ae) (@am _ _ _ _ _ (@aj _ _ _ 2 _ _ _ rfl (.inl rfl)) (fun _=>rfl)) (fun _=>rfl) (fun _ _=>rfl))⟩
noncomputable def Gh:aD 0 c8 (af (ca (fO 1)) 0):=⟨_,fun g ok ba=>(@ad _ _ _ _ _ _ _ _ (@aQ _ _ _ _ _ _ _ _ _ ok (@aa _ _ _ 4 _ _ _ bx rfl rfl) (@eV _ _ _ _ _ _ _ _ _ _ (@bo _ _ _ _ _ (@aa _ _ _ 3 _ _ _ bx rfl rfl) (fun _ _=>rfl)) (@bS _ _ _ _ _ _ _ _ ok (@aa _ _ _ 1 _ _ _ bx rfl rfl) (@aQ _ _ _ _ _ _ _ _ _ ok (@aa _ _ _ 3 _ _ _ bx rfl rfl) ay)) ay)) (@am _ _ _ _ _ (@aj _ _ _ 5 _ _ _ rfl (.inl rfl)) (fun _=>rfl)) (fun _=>rfl) (fun _ _=>rfl))⟩
noncomputable def Gi:aD 0 c8 (af (ca (fO 1)) 1):=⟨_,fun g ok ba=>(@ad _ _ _ _ _ _ _ _ (@bW _ _ _ _ _ _ ok ae) (@am _ _ _ _ _ (@aj _ _ _ 6 _ _ _ rfl (.inl rfl)) (fun _=>rfl)) (fun _=>rfl) (fun _ _=>rfl))⟩
noncomputable def Gj:aD 0 c8 (af (GZ (af (bt (af (ca (af (ca (fO 1)) 2)) 0)) 0)) 0):=⟨_,fun g ok ba=>(@d7 _ _ _ _ _ _ _ [2,6] [(tS "lines"),(tS "merged")] _ _ (@aV _ _ _ _ _ _ _ ok (@ac _ _ _ _ _ _ _ (@aQ _ _ _ _ _ _ _ _ _ ok (@aa _ _ _ 6 _ _ _ bx rfl rfl) (@bv _ _ _ _ _ _ _ _ _ _ _ ok (@aa _ _ _ 2 _ _ _ bx rfl rfl) ck (@bN _ _ _ _ _ ay))) (@ac _ _ _ _ _ _ _ (@bv _ _ _ _ _ _ _ _ _ _ _ ok (@aa _ _ _ 2 _ _ _ bx rfl rfl) (@bN _ _ _ _ _ ay) ck) ae (fun _ _=>rfl)) (fun _ _=>rfl)) (by decide)) (fun _=>rfl) (fun env he=>(cK he).trans (by kernel_rfl)) rfl (cj rfl))⟩
noncomputable def Gl:aD 0 c8 (af (bt (af (ca (af (ca (fO 1)) 2)) 0)) 0):=⟨_,fun g ok ba=>(@kU _ _ _ _ _ _ _ _ 60 (@du _ _ _ _ _ _ _ (@bH _ _ _ _ _ _ _ (@bo _ _ _ _ _ (@aa _ _ _ 2 _ _ _ bx rfl rfl) (fun _ _=>rfl)) (@bH _ _ _ _ _ _ _ (@a9 _ _ _ _ _ _ _ _ _ (@bS _ _ _ _ _ _ _ _ ok (@bS _ _ _ _ _ _ _ _ ok (@aa _ _ _ 2 _ _ _ bx rfl rfl) ay) ay) (@aQ _ _ _ _ _ _ _ _ _ ok (@aa _ _ _ 3 _ _ _ bx rfl rfl) ay) rfl) cU))) (@aP _ _ _ (GZ (af (bt (af (ca (af (ca (fO 1)) 2)) 0)) 0)) 1 _ (by kernel_rfl) (@ab _ _ _ _ _ _ _ (@aG _ _ _ Gj g ok ba) al)))⟩
noncomputable def Gm:aD 0 c8 (af (bt (af (ca (af (ca (fO 1)) 2)) 0)) 1):=⟨_,fun g ok ba=>(@d7 _ _ _ _ _ _ _ [2,6] [(tS "lines"),(tS "merged")] _ _ (@aV _ _ _ _ _ _ _ ok (@ac _ _ _ _ _ _ _ (@aQ _ _ _ _ _ _ _ _ _ ok (@aa _ _ _ 6 _ _ _ bx rfl rfl) (@bv _ _ _ _ _ _ _ _ _ _ _ ok (@aa _ _ _ 2 _ _ _ bx rfl rfl) ck (@bN _ _ _ _ _ ay))) (@ac _ _ _ _ _ _ _ (@bv _ _ _ _ _ _ _ _ _ _ _ ok (@aa _ _ _ 2 _ _ _ bx rfl rfl) (@bN _ _ _ _ _ ay) ck) ae (fun _ _=>rfl)) (fun _ _=>rfl)) (by decide)) (fun _=>rfl) (fun env he=>(cK he).trans (by kernel_rfl)) rfl (cj rfl))⟩
noncomputable def Go:aD 0 c8 (af (gg (af (ca (af (ca (fO 1)) 2)) 0)) 0):=⟨_,fun g ok ba=>(@ad _ _ _ _ _ _ _ _ (@aQ _ _ _ _ _ _ _ _ _ ok (@aa _ _ _ 6 _ _ _ bx rfl rfl) (@bW _ _ _ _ _ _ ok (@ac _ _ _ _ _ _ _ (@aV _ _ _ _ _ _ _ ok (@ac _ _ _ _ _ _ _ (@aa _ _ _ 3 _ _ _ bx rfl rfl) (@ac _ _ _ _ _ _ _ (@bv _ _ _ _ _ _ _ _ _ _ _ ok (@aa _ _ _ 7 _ _ _ bx rfl rfl) ck (@bN _ _ _ _ _ (@dK _ _ _ _ _ _ ay))) ae (fun _ _=>rfl)) (fun _ _=>rfl)) (by decide)) ae (fun _ _=>rfl)))) (@am _ _ _ _ _ (@aj _ _ _ 6 _ _ _ rfl (.inl rfl)) (fun _=>rfl)) (fun _=>rfl) (fun _ _=>rfl))⟩
noncomputable def Gp:aD 0 c8 (af (ca (af (ca (fO 1)) 2)) 0):=⟨_,fun g ok ba=>(@bL _ _ _ _ _ _ _ _ _ _ (@a9 _ _ _ _ _ _ _ _ _ (@bS _ _ _ _ _ _ _ _ ok (@aa _ _ _ 7 _ _ _ bx rfl rfl) ay) (@bn _ _ _ _ _ _ _ AL) rfl) (@aP _ _ _ (bt (af (ca (af (ca (fO 1)) 2)) 0)) 2 _ (by kernel_rfl) (@ab _ _ _ _ _ _ _ (@aG _ _ _ Gl g ok ba) (@ab _ _ _ _ _ _ _ (@aG _ _ _ Gm g ok ba) al))) (@aP _ _ _ (gg (af (ca (af (ca (fO 1)) 2)) 0)) 1 _ (by kernel_rfl) (@ab _ _ _ _ _ _ _ (@aG _ _ _ Go g ok ba) al)))⟩
noncomputable def Gq:aD 0 c8 (af (ca (fO 1)) 2):=⟨_,fun g ok ba=>(@eo _ _ _ false _ _ _ _ _ _ _ 60 (@cO _ _ _ _ _ _ ok (@bv _ _ _ _ _ _ _ _ _ _ _ ok (@aa _ _ _ 0 _ _ _ bx rfl rfl) ck (@bN _ _ _ _ _ (@aa _ _ _ 5 _ _ _ bx rfl rfl)))) (fun h=>nomatch h) (@aj _ _ _ 7 _ _ _ rfl (.inl rfl)) (@aP _ _ _ (ca (af (ca (fO 1)) 2)) 1 _ (by kernel_rfl) (@ab _ _ _ _ _ _ _ (@aG _ _ _ Gp g ok ba) al)) (fun _ _=>rfl))⟩
noncomputable def Gr:aD 0 c8 (af (ca (fO 1)) 3):=⟨_,fun g ok ba=>(@d7 _ _ _ _ _ _ _ [0,2] [(tS "marks"),(tS "lines")] _ _ (@aV _ _ _ _ _ _ _ ok (@ac _ _ _ _ _ _ _ (@aQ _ _ _ _ _ _ _ _ _ ok (@aa _ _ _ 6 _ _ _ bx rfl rfl) (@aa _ _ _ 2 _ _ _ bx rfl rfl)) (@ac _ _ _ _ _ _ _ (@bv _ _ _ _ _ _ _ _ _ _ _ ok (@aa _ _ _ 0 _ _ _ bx rfl rfl) (@bN _ _ _ _ _ (@aa _ _ _ 5 _ _ _ bx rfl rfl)) ck) ae (fun _ _=>rfl)) (fun _ _=>rfl)) (by decide)) (fun _=>rfl) (fun env he=>(cK he).trans (by kernel_rfl)) rfl (cj rfl))⟩
noncomputable def yG:aD 0 c8 (fO 1):=⟨_,fun g ok ba=>(@eo _ _ _ true _ _ _ _ _ _ _ 60 (@cW _ _ _ _ _ 8 _ _ _ _ _ _ ok rfl (pA g) (fun _ h=>nomatch h) (kP ok) (@ac _ _ _ _ _ _ _ (@aQ _ _ _ _ _ _ _ _ _ ok (@aa _ _ _ 1 _ _ _ bx rfl rfl) (@bW _ _ _ _ _ _ ok (@ac _ _ _ _ _ _ _ ay ae (fun _ _=>rfl)))) ae (fun _ _=>rfl)) (fun _ _=>rfl)) (fun _=>rfl) (@bX _ _ _ _ _ _ _ (@aO _ _ _ _ _ _ _ (@aj _ _ _ 3 _ _ _ rfl (.inl rfl)) (@aO _ _ _ _ _ _ _ (@aj _ _ _ 4 _ _ _ rfl (.inl rfl)) cG (fun _=>rfl)) (fun _=>rfl)) (fun _=>rfl) (fun _=>rfl)) (@aP _ _ _ (ca (fO 1)) 4 _ (by kernel_rfl) (@ab _ _ _ _ _ _ _ (@aG _ _ _ Gh g ok ba) (@ab _ _ _ _ _ _ _ (@aG _ _ _ Gi g ok ba) (@ab _ _ _ _ _ _ _ (@aG _ _ _ Gq g ok ba) (@ab _ _ _ _ _ _ _ (@aG _ _ _ Gr g ok ba) al))))) (fun _ _=>rfl))⟩
noncomputable def vg:(D:List V→List V→DE) ×' (∀ g:GA,(Gk g).Ok→Bare g→FN (Gk g) 1 445 [] D):=⟨_,fun g ok ba=>bf (lv:=0) (fd:=oj) (body:=gO) (sc:=c8) ok (D4 g) (@aX _ _ _ _ 2 [(0,.pos 0),(1,.pos 1)] [(tS "marks"),(tS "bounces")] ok rfl (bp rfl) (aE (by kernel_rfl)) (bV rfl) (fun h vals kvals X h1 h2=>by obtain ⟨u0,u1,rfl⟩:=lt h1; obtain rfl:=eA h2; exact Looks.of_peek (K:=KK g.w.params) X (by kernel_rfl))) (@aP _ _ _ gO 3 _ (by kernel_rfl) (@ab _ _ _ _ _ _ _ (@aG _ _ _ Gg g ok ba) (@ab _ _ _ _ _ _ _ (@aG _ _ _ yG g ok ba) (@ab _ _ _ _ _ _ _ (@aK _ _ _ _ _ _ (@aa _ _ _ 2 _ _ _ bx rfl rfl)) al))))⟩
noncomputable def z7:List V→List V→DE:=vg.1
theorem Cm (g:GA) (ok:(Gk g).Ok) (ba:Bare g):FN (Gk g) 1 445 [] z7:=vg.2 g ok ba
theorem Cx (g:GA) (ok:(Gk g).Ok) (ba:Bare g):FN (Gk g) 1 445 [] (cF z7):=FN.apart ba.gn fun hp=>Cm {g with gn:=AllBare,hp:=hp} (ok.pv AllBare hp) ⟨rfl⟩
noncomputable def g6 (k:Nat):List Nat:=match k with
 | 0=>[9]
 | _=>[32,32]
noncomputable def dM (tw:List (List Nat)) (i k:Nat):List Nat:=match i with
 | 0=>[]
 | j+1=>(match tw[j]? with
  | some l=>l++g6 k
  | none=>[])
noncomputable def m9 (tw:List (List Nat)) (i k:Nat):List (List Nat):=tw.take i++[dM tw i k]
noncomputable def v5 (acc:List Nat):List Nat→List (List Nat)
 | []=>[acc]
 | b::r=>acc::v5 (acc++g6 b) r
noncomputable def eX (b:List Nat):List (List Nat):=v5 [] b
noncomputable def iM (b:List Nat) (i k:Nat):List Nat:=match i with
 | 0=>[]
 | j+1=>b.take j++[k]
noncomputable abbrev j0:=List (Nat×Nat)
noncomputable def fA:List Nat→j0→Prop
 | _,[]=>True
 | b,(i,k)::r=>i≤b.length+1∧k<2∧fA (iM b i k) r
noncomputable def vI (n:Nat):V:=.int (.ofNat n)
noncomputable def wV:j0→List V
 | []=>[]
 | (i,_)::r=>vI i::wV r
noncomputable def CV:List Nat→j0→List V
 | _,[]=>[]
 | b,(i,k)::r=>.str (dM (eX b) i k)::CV (iM b i k) r
noncomputable def nJ:List Nat→j0→List Nat
 | b,[]=>b
 | b,(i,k)::r=>nJ (iM b i k) r
theorem nc {k:Nat}:∀ (b acc:List Nat) (j:Nat),j≤b.length→∃ l,(v5 acc b)[j]?=some l∧(v5 acc b).take (j+1)++[l++g6 k]=v5 acc (b.take j++[k])
 | [],acc,0,_=>⟨acc,rfl,rfl⟩
 | x::r,acc,0,_=>⟨acc,rfl,rfl⟩
 | x::r,acc,j+1,h=>by
  obtain ⟨l,h1,h2⟩:=nc (k:=k) r (acc++g6 x) j (by simpa using h)
  refine ⟨l,by simpa [v5] using h1,?_⟩
  show acc::((v5 (acc++g6 x) r).take (j+1)++[l++g6 k])=acc::v5 (acc++g6 x) (r.take j++[k])
  rw [h2]
theorem na {b:List Nat} {i k:Nat} (h:i≤b.length+1):m9 (eX b) i k=eX (iM b i k):=by
 cases i with
 | zero=>rfl
 | succ j=>
  obtain ⟨l,h1,h2⟩:=nc (k:=k) b [] j (by omega)
  show (eX b).take (j+1)++[dM (eX b) (j+1) k]=v5 [] (b.take j++[k])
  have:dM (eX b) (j+1) k=l++g6 k:=by
   show (match (eX b)[j]? with
    | some l=>l++g6 k
    | none=>[])=_
   rw [show (eX b)[j]?=some l from h1]
  rw [this]; exact h2
theorem dW {b:List Nat} {i k:Nat} (h:i≤b.length+1):(iM b i k).length=i:=by
 cases i with
 | zero=>rfl
 | succ j=>show (b.take j++[k]).length=j+1; rw [List.length_append,List.length_take]; simp; omega
theorem m6 {b:List Nat} {i k:Nat} (hk:k<2) (h:∀ x∈b,x<2):∀ x∈iM b i k,x<2:=by
 cases i with
 | zero=>exact fun x h=>nomatch h
 | succ j=>
  intro x hx
  rcases List.mem_append.mp hx with hx | hx
  ·exact h x (List.mem_of_mem_take hx)
  ·simp at hx; rw [hx]; exact hk
theorem zI (b:List Nat):∀ acc,(v5 acc b).length=b.length+1:=by
 induction b with
 | nil=>intro acc; rfl
 | cons x r ih=>intro acc; show (v5 _ r).length+1=_; rw [ih]; rfl
noncomputable def gb:Nat→List (List Nat)
 | 0=>[[]]
 | n+1=>(gb n).flatMap fun b=>[0::b,1::b]
theorem jz:∀ {b:List Nat},(∀ x∈b,x<2)→b∈gb b.length
 | [],_=>List.mem_singleton.mpr rfl
 | x::r,h=>by
  have:=jz (b:=r) fun y hy=>h y (LQ _ hy)
  refine List.mem_flatMap.mpr ⟨r,this,?_⟩
  have hx:=h x (LY ..)
  match x,hx with
  | 0,_=>exact LY ..
  | 1,_=>exact LQ _ (LY ..)
theorem cM {n:Nat} {P:Prop} (h:n≤1000000) (p:P):fits n P:=by
 unfold fits
 rw [L9 h]; exact p
theorem jg {P:Nat→Prop}:∀ {n:Nat},(∀ i,i<n→P i)→iA n P
 | 0,_=>trivial
 | n+1,h=>⟨jg fun i hi=>h i (Mn hi),h n (LX n)⟩
theorem gT {α:Type} {l r:List α} {i:Nat} {a:α} (h:l.drop i=a::r):fV l i=some a∧l.drop (i+1)=r:=by
 rw [dR]
 refine ⟨by have:=congrArg (·[0]?) h; simpa using this,?_⟩
 have:=congrArg (List.drop 1) h
 simpa [List.drop_drop,Nat.add_comm] using this
theorem lA {α:Type} {l:List α} {i:Nat} (h:l.drop i=[]):fV l i=none:=by
 rw [dR]
 have:=congrArg (·[0]?) h
 simpa using this
noncomputable def rA (cs:V) (tail:List (Nat×V)) (tw:List (List Nat)) (ds ls:List V):St:=⟨(0,cs)::(3,.loc 1)::(2,.loc 0)::(1,.fro (tw.map .str))::tail,[(1,.list ls),(0,.list ds)],2⟩
noncomputable def Lp (c:Int) (i:Nat) (tw:List (List Nat)):List (Nat×V):=[(4,.int c),(5,.int (.ofNat i)),(6,.fro ((tw.take i).map .str))]
noncomputable def Ks (cs:V) (c:Int) (tw:List (List Nat)) (ds ls:List V) (Q:Fl→St→Prop) (i k:Nat):Prop:=
 fits ds.length (fits ls.length (Q .next (rA cs (Lp c i tw) (m9 tw i k) (ds++[vI i]) (ls++[.str (dM tw i k)]))))
noncomputable def JV (cs:V) (c:Int) (tw:List (List Nat)) (ds ls:List V) (Q:Fl→St→Prop):Prop:=
 iA (tw.length+1) fun i=>match i with
  | 0=>Ks cs c tw ds ls Q 0 0
  | j+1=>bk c=true∧iA 2 fun k=>Ks cs c tw ds ls Q (j+1) k
noncomputable abbrev Lg:=V→V→V→V→Int→List V→List V→(Fl→St→Prop)→Prop
noncomputable def D9 (b:List Nat):Lg:=fun cs x y z c ds ls Q=>bY (c9 4 (.int c) (rA cs [(4,x),(5,y),(6,z)] (eX b) ds ls)) Q
noncomputable def Ea (b:List Nat):Lg:=fun cs x y z c ds ls Q=>JV cs c (eX b) ds ls Q
theorem uM (cs:V) (c:Int) (ds ls:List V) (Q:Fl→St→Prop):bY (c9 4 (.int c) (rA cs [] [[]] ds ls)) Q=JV cs c [[]] ds ls Q:=by kernel_rfl
theorem Kx:aH D9 (gb 0)=aI Ea (gb 0):=by kernel_rfl
theorem Ky:aH D9 (gb 1)=aI Ea (gb 1):=by kernel_rfl
theorem Kz:aH D9 (gb 2)=aI Ea (gb 2):=by kernel_rfl
theorem KB:aH D9 (gb 3)=aI Ea (gb 3):=by kernel_rfl
theorem KC:aH D9 (gb 4)=aI Ea (gb 4):=by kernel_rfl
theorem KD:aH D9 (gb 5)=aI Ea (gb 5):=by kernel_rfl
theorem Eb {b:List Nat} (h:∀ x∈b,x<2) (hl:b.length≤5):D9 b=Ea b:=by
 have m:=jz h
 generalize b.length=n at m hl
 match n,hl with
 | 0,_=>exact aF Kx b m
 | 1,_=>exact aF Ky b m
 | 2,_=>exact aF Kz b m
 | 3,_=>exact aF KB b m
 | 4,_=>exact aF KC b m
 | 5,_=>exact aF KD b m
noncomputable def iO (i:Nat) (v:V) (σ:St) (K:St→Prop):Prop:=K (c9 i v σ)
theorem kG {K:Fl→St→Prop} {cs:List V}:∀ (r:List Int) (k i:Nat) (b:List Nat) (tail:List (Nat×V)) (ds ls:List V),cs.drop i=r.map V.int→r.length<k→(∀ x∈b,x<2)→b.length+r.length≤6→(r≠[]→b.length≤5)→(∀ c∈r,bk c=true)→ds.length+r.length≤100→ls.length+r.length≤100 →
  ((tail=[]∧b=[])∨∃ x y z,tail=[(4,x),(5,y),(6,z)]) →
  (∀ path tail,fA b path→path.length=r.length→K .next (rA (.fro cs) tail (eX (nJ b path)) (ds++wV path) (ls++CV b path))) →
  d5 (cY (.fro cs)) (iO 4) bY k i (rA (.fro cs) tail (eX b) ds ls) K
 | r,0,_,_,_,_,_,_,h,_,_,_,_,_,_,_,_=>absurd h (Nat.not_lt_zero _)
 | [],k+1,i,b,tail,ds,ls,hd,_,_,_,_,_,_,_,_,hK=>by
  have hn:fV cs i=none:=lA hd
  show (match (some (fV cs i):Option (Option V)) with
   | some (some v)=>iO 4 v _ fun σ1=>bY σ1 _
   | some none=>K .next _
   | none=>False)
  rw [hn]
  have:=hK [] tail trivial rfl
  simpa [wV,CV,nJ] using this
 | c::r,k+1,i,b,tail,ds,ls,hd,hk,h2,hb,hb5,hs,hds,hls,ht,hK=>by
  obtain ⟨hn,hd'⟩:=gT hd
  show (match (some (fV cs i):Option (Option V)) with
   | some (some v)=>iO 4 v (rA (.fro cs) tail (eX b) ds ls) fun σ1=>bY σ1 (fun fl σ2=>match fl with
    | .next=>d5 (cY (.fro cs)) (iO 4) bY k (i+1) σ2 K
    | .cont=>d5 (cY (.fro cs)) (iO 4) bY k (i+1) σ2 K
    | .brk=>K .next σ2
    | .ret v=>K (.ret v) σ2)
   | some none=>K .next (rA (.fro cs) tail (eX b) ds ls)
   | none=>False)
  rw [hn]
  show bY (c9 4 (.int c) (rA (.fro cs) tail (eX b) ds ls)) _
  have e:∀ Q,bY (c9 4 (.int c) (rA (.fro cs) tail (eX b) ds ls)) Q=JV (.fro cs) c (eX b) ds ls Q:=fun Q=>by
   rcases ht with ⟨rfl,rfl⟩ | ⟨x,y,z,rfl⟩
   ·exact uM (.fro cs) c ds ls Q
   ·have:=Eb h2 (hb5 (by simp))
    exact Mt (Mt (Mt (Mt (Mt (Mt (Mt (Mt this (.fro cs)) x) y) z) c) ds) ls) Q
  rw [e]
  have hl:(eX b).length=b.length+1:=zI b []
  simp only [List.length_cons] at hb hds hls hk
  have key:∀ j k',j≤b.length+1→k'<2→Ks (.fro cs) c (eX b) ds ls (fun fl σ2=>match fl with
    | .next=>d5 (cY (.fro cs)) (iO 4) bY k (i+1) σ2 K
    | .cont=>d5 (cY (.fro cs)) (iO 4) bY k (i+1) σ2 K
    | .brk=>K .next σ2
    | .ret v=>K (.ret v) σ2) j k':=fun j k' hj hk'=>by
   refine cM (by omega) (cM (by omega) ?_)
   show d5 (cY (.fro cs)) (iO 4) bY k (i+1) (rA (.fro cs) (Lp c j (eX b)) (m9 (eX b) j k') (ds++[vI j]) (ls++[.str (dM (eX b) j k')])) K
   rw [na hj]
   have hsl:=dW (k:=k') hj
   refine kG r k (i+1) (iM b j k') _ _ _ hd' (by omega) (m6 hk' h2) (by rw [hsl]; omega) (fun hr=>?_) (fun c hc=>hs c (LQ _ hc)) (by simp; omega) (by simp; omega) (.inr ⟨_,_,_,rfl⟩) fun path tail hv hp=>?_
   ·rw [hsl]
    have:0<r.length:=List.length_pos_iff.mpr hr
    omega
   ·have:=hK ((j,k')::path) tail ⟨hj,hk',hv⟩ (by simp [hp])
    simpa [wV,CV,nJ,List.append_assoc] using this
  unfold JV
  refine jg fun j hj=>?_
  rw [hl] at hj
  cases j with
  | zero=>exact key 0 0 (Mm _) (by omega)
  | succ j=>exact ⟨hs c (LY ..),jg fun k' hk'=>key (j+1) k' (by omega) hk'⟩
noncomputable def AA (Q:V→St→Prop) (fl:Fl) (σ:St):Prop:=match fl with
 | .next=>gi 2 σ fun v σ1=>xb v σ1 fun a σ2=>gi 3 σ2 fun w σ3=>xb w σ3 fun b σ4=>Q (.tup [a,b]) {σ4 with lo:=[]}
 | .ret v=>Q v {σ with lo:=[]}
 | _=>Q .non {σ with lo:=[]}
theorem q5 (cs:List V) (Q:V→St→Prop):rM [.fro cs] [] ⟨[],[],0⟩ Q=d5 (cY (.fro cs)) (iO 4) bY 60 0 (rA (.fro cs) [] (eX []) [vI 0] [.str []]) (AA Q):=by kernel_rfl
theorem uL (cs:V) (tail:List (Nat×V)) (tw:List (List Nat)) (ds ls:List V) (Q:V→St→Prop):AA Q .next (rA cs tail tw ds ls)=Q (.tup [.fro ds,.fro ls]) ⟨[],[],2⟩:=by kernel_rfl
noncomputable def G7 (p:j0):List V:=vI 0::wV p
noncomputable def xq (p:j0):List V:=.str []::CV [] p
noncomputable def D8 (vs kvs:List V) (σ:St) (Q:V→St→Prop):Prop:=∃ is:List Int,vs=[.fro (is.map V.int)]∧kvs=[]∧is.length=6∧(∀ c∈is,bk c=true)∧∀ path,fA [] path→path.length=6→Q (.tup [.fro (G7 path),.fro (xq path)]) σ
theorem kK {l:List V} (h:∀ v∈l,bM v=true):aU l=true:=by
 induction l with
 | nil=>rfl
 | cons v r ih=>
  show @Bool.rec (fun _=>Bool) false (aU r) (bM v)=true
  rw [h v (LY ..)]
  exact ih fun w hw=>h w (LQ _ hw)
theorem lD:∀ (p:j0),aU (wV p)=true
 | []=>rfl
 | (i,_)::r=>lD r
theorem lE:∀ (p:j0) (b:List Nat),aU (CV b p)=true
 | [],_=>rfl
 | (i,k)::r,b=>lE r _
theorem eF {l:List V} (h:aU l=true):bM (.fro l)=true:=dp.trans h
theorem vq {l:List V} (h:aU l=true):bM (.tup l)=true:=dp.trans h
theorem eE {v:V} {l:List V} (h1:bM v=true) (h2:aU l=true):aU (v::l)=true:=by
 show @Bool.rec (fun _=>Bool) false (aU l) (bM v)=true
 rw [h1]; exact h2
theorem jM {D:List V→List V→DE} {vs kvs:List V} {σ:St} {Q:V→St→Prop} (h1:aU vs=true) (h2:aU kvs=true) (h:D vs kvs ⟨[],[],0⟩ (iH σ Q)):cF D vs kvs σ Q:=by
 unfold cF; rw [h1,h2]; exact h
theorem mO {σ σ':St} {Q:V→St→Prop} {v:V} (h:bM v=true) (q:Q v σ):iH σ Q v σ':=by
 unfold iH; rw [h]; exact q
theorem CC (g:GA) (ok:(Gk g).Ok) (ba:Bare g):FN (Gk g) 1 403 [] D8:=by
 refine (Cr g ok ba).mono fun vs kvs σ Q ⟨is,e1,e2,hl,hs,h⟩=>?_
 subst e1 e2
 refine jM (eE (eF (kK fun v hv=>?_)) rfl) rfl ?_
 ·obtain ⟨i,_,rfl⟩:=List.mem_map.mp hv; rfl
 ·rw [q5]
  refine kG is 60 0 [] [] [vI 0] [.str []] rfl (by omega) (fun _ h=>nomatch h) (by simp [hl]) (fun _=>by simp) hs (by simp [hl]) (by simp [hl]) (.inl ⟨rfl,rfl⟩) fun path tail hv hp=>?_
  rw [uL]
  exact mO (vq (eE (eF (lD path)) (eE (eF (lE path [])) rfl))) (h path hv (hp.trans hl))
noncomputable def tO:Nat→List Nat→List Nat
 | 0,[]=>[1]
 | 0,c::r=>(c+1)::r
 | b+1,[]=>0::tO b []
 | b+1,c::r=>c::tO b r
noncomputable def G1:List Nat→List Nat→Nat→Nat→Nat→List Nat×Nat×Nat×Nat
 | [],count,b,n,nt=>(count,b,n,nt)
 | c::r,count,b,n,nt=>if c=32 then G1 r count (b+1) (n+1) nt else G1 r (tO b count) 0 (n+1) (nt+1)
noncomputable def H7 (s:List Nat):V:=match G1 s [] 0 0 0 with
 | (count,b,n,nt)=>.fob 255 [.str s,vI n,vI nt,.tup [.tup (count.map vI),vI b],.boo (Nat.ble count.length 1)]
noncomputable def qh (lds:V) (tail:List (Nat×V)) (tw:List (List Nat)) (ds:List V):St:=⟨(0,lds)::(2,.loc 0)::(1,.fro (tw.map H7))::tail,[(0,.list ds)],1⟩
noncomputable def Kr (lds:V) (tw:List (List Nat)) (ds:List V) (Q:Fl→St→Prop) (i k:Nat):Prop:=
 fits ds.length (Q .next (qh lds [(3,.str (dM tw i k)),(4,H7 (dM tw i k))] (m9 tw i k) (ds++[vI i])))
noncomputable abbrev Lf:=V→V→V→List V→(Fl→St→Prop)→Prop
noncomputable def g7 (p:List Nat×Nat×Nat):Lf:=fun lds x y ds Q=>bZ (c9 3 (.str (dM (eX p.1) p.2.1 p.2.2)) (qh lds [(3,x),(4,y)] (eX p.1) ds)) Q
noncomputable def g8 (p:List Nat×Nat×Nat):Lf:=fun lds x y ds Q=>Kr lds (eX p.1) ds Q p.2.1 p.2.2
noncomputable def bl (n i:Nat):List (List Nat×Nat×Nat):=(gb n).flatMap fun b=>[(b,i,0),(b,i,1)]
theorem td (lds:V) (ds:List V) (Q:Fl→St→Prop):bZ (c9 3 (.str []) (qh lds [] [] ds)) Q=Kr lds [] ds Q 0 0:=by kernel_rfl
theorem Bz:aH g7 (bl 0 0)=aI g8 (bl 0 0):=by kernel_rfl
theorem BA:aH g7 (bl 0 1)=aI g8 (bl 0 1):=by kernel_rfl
theorem BB:aH g7 (bl 1 0)=aI g8 (bl 1 0):=by kernel_rfl
theorem BC:aH g7 (bl 1 1)=aI g8 (bl 1 1):=by kernel_rfl
theorem BD:aH g7 (bl 1 2)=aI g8 (bl 1 2):=by kernel_rfl
theorem BF:aH g7 (bl 2 0)=aI g8 (bl 2 0):=by kernel_rfl
theorem BG:aH g7 (bl 2 1)=aI g8 (bl 2 1):=by kernel_rfl
theorem BH:aH g7 (bl 2 2)=aI g8 (bl 2 2):=by kernel_rfl
theorem BI:aH g7 (bl 2 3)=aI g8 (bl 2 3):=by kernel_rfl
theorem BJ:aH g7 (bl 3 0)=aI g8 (bl 3 0):=by kernel_rfl
theorem BK:aH g7 (bl 3 1)=aI g8 (bl 3 1):=by kernel_rfl
theorem BL:aH g7 (bl 3 2)=aI g8 (bl 3 2):=by kernel_rfl
theorem BM:aH g7 (bl 3 3)=aI g8 (bl 3 3):=by kernel_rfl
theorem BN:aH g7 (bl 3 4)=aI g8 (bl 3 4):=by kernel_rfl
theorem BO:aH g7 (bl 4 0)=aI g8 (bl 4 0):=by kernel_rfl
theorem BP:aH g7 (bl 4 1)=aI g8 (bl 4 1):=by kernel_rfl
theorem BQ:aH g7 (bl 4 2)=aI g8 (bl 4 2):=by kernel_rfl
theorem BR:aH g7 (bl 4 3)=aI g8 (bl 4 3):=by kernel_rfl
theorem BS:aH g7 (bl 4 4)=aI g8 (bl 4 4):=by kernel_rfl
theorem BU:aH g7 (bl 4 5)=aI g8 (bl 4 5):=by kernel_rfl
theorem BV:aH g7 (bl 5 0)=aI g8 (bl 5 0):=by kernel_rfl
theorem BW:aH g7 (bl 5 1)=aI g8 (bl 5 1):=by kernel_rfl
theorem BX:aH g7 (bl 5 2)=aI g8 (bl 5 2):=by kernel_rfl
theorem BY:aH g7 (bl 5 3)=aI g8 (bl 5 3):=by kernel_rfl
theorem BZ:aH g7 (bl 5 4)=aI g8 (bl 5 4):=by kernel_rfl
theorem B0:aH g7 (bl 5 5)=aI g8 (bl 5 5):=by kernel_rfl
theorem B1:aH g7 (bl 5 6)=aI g8 (bl 5 6):=by kernel_rfl
theorem B2 {b:List Nat} {i k:Nat} (h:∀ x∈b,x<2) (hl:b.length≤5) (hi:i≤b.length+1) (hk:k<2):g7 (b,i,k)=g8 (b,i,k):=by
 have m:(b,i,k)∈bl b.length i:=List.mem_flatMap.mpr ⟨b,jz h,by
  match k,hk with
  | 0,_=>exact LY ..
  | 1,_=>exact LQ _ (LY ..)⟩
 generalize b.length=n at m hl hi
 match n,hl,i,hi,m with
 | 0,_,0,_,m=>exact aF Bz _ m
 | 0,_,1,_,m=>exact aF BA _ m
 | 0,_,_+2,h,_=>omega
 | 1,_,0,_,m=>exact aF BB _ m
 | 1,_,1,_,m=>exact aF BC _ m
 | 1,_,2,_,m=>exact aF BD _ m
 | 1,_,_+3,h,_=>omega
 | 2,_,0,_,m=>exact aF BF _ m
 | 2,_,1,_,m=>exact aF BG _ m
 | 2,_,2,_,m=>exact aF BH _ m
 | 2,_,3,_,m=>exact aF BI _ m
 | 2,_,_+4,h,_=>omega
 | 3,_,0,_,m=>exact aF BJ _ m
 | 3,_,1,_,m=>exact aF BK _ m
 | 3,_,2,_,m=>exact aF BL _ m
 | 3,_,3,_,m=>exact aF BM _ m
 | 3,_,4,_,m=>exact aF BN _ m
 | 3,_,_+5,h,_=>omega
 | 4,_,0,_,m=>exact aF BO _ m
 | 4,_,1,_,m=>exact aF BP _ m
 | 4,_,2,_,m=>exact aF BQ _ m
 | 4,_,3,_,m=>exact aF BR _ m
 | 4,_,4,_,m=>exact aF BS _ m
 | 4,_,5,_,m=>exact aF BU _ m
 | 4,_,_+6,h,_=>omega
 | 5,_,0,_,m=>exact aF BV _ m
 | 5,_,1,_,m=>exact aF BW _ m
 | 5,_,2,_,m=>exact aF BX _ m
 | 5,_,3,_,m=>exact aF BY _ m
 | 5,_,4,_,m=>exact aF BZ _ m
 | 5,_,5,_,m=>exact aF B0 _ m
 | 5,_,6,_,m=>exact aF B1 _ m
 | 5,_,_+7,h,_=>omega
theorem jl {K:Fl→St→Prop} {lds:List V}:∀ (p:j0) (k i:Nat) (b:List Nat) (x y:V) (ds:List V),lds.drop i=CV b p→p.length<k→(∀ x∈b,x<2)→b.length+p.length≤6→fA b p→ds.length+p.length≤100 →
  (∀ x y,K .next (qh (.fro lds) [(3,x),(4,y)] (eX (nJ b p)) (ds++wV p))) →
  d5 (cY (.fro lds)) (iO 3) bZ k i (qh (.fro lds) [(3,x),(4,y)] (eX b) ds) K
 | p,0,_,_,_,_,_,_,h,_,_,_,_,_=>absurd h (Nat.not_lt_zero _)
 | [],k+1,i,b,x,y,ds,hd,_,_,_,_,_,hK=>by
  have hn:fV lds i=none:=lA hd
  show (match (some (fV lds i):Option (Option V)) with
   | some (some v)=>iO 3 v _ fun σ1=>bZ σ1 _
   | some none=>K .next _
   | none=>False)
  rw [hn]
  have:=hK x y
  simpa [wV,nJ] using this
 | (j,k')::r,k+1,i,b,x,y,ds,hd,hk,h2,hb,hv,hds,hK=>by
  obtain ⟨hj,hk',hv⟩:=hv
  obtain ⟨hn,hd'⟩:=gT hd
  show (match (some (fV lds i):Option (Option V)) with
   | some (some v)=>iO 3 v (qh (.fro lds) [(3,x),(4,y)] (eX b) ds) fun σ1=>bZ σ1 (fun fl σ2=>match fl with
    | .next=>d5 (cY (.fro lds)) (iO 3) bZ k (i+1) σ2 K
    | .cont=>d5 (cY (.fro lds)) (iO 3) bZ k (i+1) σ2 K
    | .brk=>K .next σ2
    | .ret v=>K (.ret v) σ2)
   | some none=>K .next (qh (.fro lds) [(3,x),(4,y)] (eX b) ds)
   | none=>False)
  rw [hn]
  show bZ (c9 3 (.str (dM (eX b) j k')) (qh (.fro lds) [(3,x),(4,y)] (eX b) ds)) _
  simp only [List.length_cons] at hb hds hk
  have e:∀ Q,bZ (c9 3 (.str (dM (eX b) j k')) (qh (.fro lds) [(3,x),(4,y)] (eX b) ds)) Q=Kr (.fro lds) (eX b) ds Q j k':=fun Q=>
   Mt (Mt (Mt (Mt (Mt (B2 h2 (by omega) hj hk') (.fro lds)) x) y) ds) Q
  rw [e]
  refine cM (by omega) ?_
  show d5 (cY (.fro lds)) (iO 3) bZ k (i+1) (qh (.fro lds) _ (m9 (eX b) j k') (ds++[vI j])) K
  rw [na hj]
  have hsl:=dW (k:=k') hj
  refine jl r k (i+1) (iM b j k') _ _ _ hd' (by omega) (m6 hk' h2) (by rw [hsl]; omega) hv (by simp; omega) fun x y=>?_
  have:=hK x y
  simpa [wV,nJ,List.append_assoc] using this
noncomputable def on (Q:V→St→Prop) (fl:Fl) (σ:St):Prop:=match fl with
 | .next=>gi 2 σ fun v σ1=>xb v σ1 fun a σ2=>Q a {σ2 with lo:=[]}
 | .ret v=>Q v {σ with lo:=[]}
 | _=>Q .non {σ with lo:=[]}
theorem ou (lds:List V) (Q:V→St→Prop):rN [.fro lds] [] ⟨[],[],0⟩ Q=d5 (cY (.fro lds)) (iO 3) bZ 60 0 (qh (.fro lds) [] [] []) (on Q):=by kernel_rfl
theorem qL (lds:V) (tail:List (Nat×V)) (tw:List (List Nat)) (ds:List V) (Q:V→St→Prop):on Q .next (qh lds tail tw ds)=Q (.fro ds) ⟨[],[],1⟩:=by kernel_rfl
noncomputable def w2 (vs kvs:List V) (σ:St) (Q:V→St→Prop):Prop:=∃ path,fA [] path∧path.length=6∧vs=[.fro (xq path)]∧kvs=[]∧Q (.fro (G7 path)) σ
theorem CD (g:GA) (ok:(Gk g).Ok) (ba:Bare g):FN (Gk g) 3 410 [] w2:=by
 refine (Cs g ok ba).mono fun vs kvs σ Q ⟨path,hv,hl,e1,e2,h⟩=>?_
 subst e1 e2
 refine jM (eE (eF (lE path [])) rfl) rfl ?_
 rw [ou]
 show bZ (c9 3 (.str []) (qh (.fro (xq path)) [] [] [])) _
 rw [td]
 refine cM (by simp) ?_
 show d5 (cY (.fro (xq path))) (iO 3) bZ 59 1 (qh (.fro (xq path)) [(3,_),(4,_)] (eX []) [vI 0]) (on (iH σ Q))
 refine jl path 59 1 [] _ _ [vI 0] rfl (by omega) (fun _ h=>nomatch h) (by simp [hl]) hv (by simp [hl]) fun x y=>?_
 rw [qL]
 exact mO (eF (lD path)) h
noncomputable def ir (d:DS) (K:Fl→St→Prop) (fl:Fl) (σ:St):Prop:=match fl with
 | .next=>d σ K
 | .ret v=>K (.ret v) σ
 | .brk=>K .brk σ
 | .cont=>K .cont σ
noncomputable def gQ (P:V→Prop) (fl:Fl) (σ:St):Prop:=P (qd fl)
noncomputable def JN:V:=.tup [.str [104,116,116,112,58,47,47,119,119,119,46,119,51,46,111,114,103,47,88,77,76,47,49,57,57,56,47,110,97,109,101,115,112,97,99,101],.str [120,109,108]]
noncomputable def Lm:AO:=.ns [(12,.bm 0),(13,.loc 2),(14,.boo false),(15,.boo false),(16,.non),(17,.non),(18,.boo false),(19,.non),(20,.non),(21,.loc 4),(22,.loc 5),(23,.loc 7),(24,.loc 8),(25,.non),(26,.boo true),(27,.boo false),(28,.int (.ofNat 0))]
noncomputable def ua (a:Nat):Nat→List V
 | 0=>[]
 | n+1=>.loc a::ua (a+1) n
noncomputable def By:Nat→List V
 | 0=>[]
 | n+1=>.boo false::By n
noncomputable def IC (a:Nat):Nat→List (Nat×AO)
 | 0=>[]
 | n+1=>(a,.list [])::IC (a+1) n
noncomputable def LC (n:Nat) (ss:List (List Nat)):List (Nat×AO):=[(0,.wds ss),(1,Lm),(2,.list []),(3,.list [JN]),(4,.list (.loc 3::.loc 10::ua 19 n)),(5,.list (.junk::.loc 6::.loc 18::ua (19+n) n)),(6,.list []),(7,.dict []),(8,.list (By (n+2))),(10,.list []),(18,.list [])]++IC 19 (2*n)
noncomputable def Ll (tail:List (Nat×V)) (op:List (List Nat)):List (Nat×V):=(2,.fro (op.map .str))::(1,.loc 0)::(3,.obj 371 1)::tail
noncomputable def rB (tail:List (Nat×V)) (op:List (List Nat)) (ss:List (List Nat)):St:=⟨Ll tail op,LC op.length ss,19+2*op.length⟩
noncomputable def Jj (ss:List (List Nat)):St:=⟨Ll [] [],[(18,.list []),(4,.list [.loc 3,.loc 10]),(3,.list [JN]),(10,.list []),(8,.list (By 2)),(7,.dict []),(6,.list []),(5,.list [.junk,.loc 6,.loc 18]),(2,.list []),(1,Lm),(0,.wds ss)],19⟩
noncomputable def ji (K K2:St→Prop) (K3:V→St→Prop) (fl:Fl) (σ:St):Prop:=match fl with
 | .next=>G9 19 σ K
 | .cont=>G9 19 σ K
 | .brk=>K2 σ
 | .ret v=>K3 v σ
noncomputable def JU (w:List Nat):List Nat:=[60]++w
noncomputable def Bm (w:List Nat):List Nat:=[60,47]++(w++([62]++[]))
noncomputable def KP (op:List (List Nat)) (w:List Nat) (ss:List (List Nat)) (K:St→Prop):Prop:=fits ss.length (fits (ss++[JU w]).length (K (rB [(4,.str w)] (op++[w]) (ss++[JU w]++[[62]]))))
noncomputable def Lq (op:List (List Nat)) (w:List Nat) (ss:List (List Nat)) (K:St→Prop):Prop:=fits ss.length (K (rB [(4,.str [])] op (ss++[Bm w])))
noncomputable abbrev JQ:=List Nat→List Nat→List Nat→List Nat→List Nat→List Nat→V→List (List Nat)→(St→Prop)→(St→Prop)→(V→St→Prop)→Prop
noncomputable def zQ (p:Nat×List Nat):JQ:=fun a b c d e f x ss K K2 K3=>bI (c9 4 (.str p.2) (rB [(4,x)] ([a,b,c,d,e,f].take p.1) ss)) (ji K K2 K3)
noncomputable def zR (p:Nat×List Nat):JQ:=fun a b c d e f x ss K K2 K3=>KP ([a,b,c,d,e,f].take p.1) p.2 ss K
noncomputable def zK (p:Nat×List Nat):JQ:=fun a b c d e f x ss K K2 K3=>bI (c9 4 (.str []) (rB [(4,x)] ([a,b,c,d,e,f].take p.1++[p.2]) ss)) (ji K K2 K3)
noncomputable def zM (p:Nat×List Nat):JQ:=fun a b c d e f x ss K K2 K3=>Lq ([a,b,c,d,e,f].take p.1) p.2 ss K
noncomputable def Lu (w:List Nat):List (List Nat)→(St→Prop)→(St→Prop)→(V→St→Prop)→Prop:=fun ss K K2 K3=>bI (c9 4 (.str w) (Jj ss)) (ji K K2 K3)
noncomputable def Lv (w:List Nat):List (List Nat)→(St→Prop)→(St→Prop)→(V→St→Prop)→Prop:=fun ss K K2 K3=>KP [] w ss K
noncomputable def dX:List (List Nat):=[[66,65],[66,66],[66,67],[66,68],[66,69],[66,70],[66,71]]
noncomputable def gy (n:Nat):List (Nat×List Nat):=dX.map fun w=>(n,w)
theorem GX:aH Lu dX=aI Lv dX:=by kernel_rfl
theorem K5:aH zQ (gy 0)=aI zR (gy 0):=by kernel_rfl
theorem KU:aH zK (gy 0)=aI zM (gy 0):=by kernel_rfl
theorem K6:aH zQ (gy 1)=aI zR (gy 1):=by kernel_rfl
theorem KV:aH zK (gy 1)=aI zM (gy 1):=by kernel_rfl
theorem K7:aH zQ (gy 2)=aI zR (gy 2):=by kernel_rfl
theorem KW:aH zK (gy 2)=aI zM (gy 2):=by kernel_rfl
theorem K8:aH zQ (gy 3)=aI zR (gy 3):=by kernel_rfl
theorem KY:aH zK (gy 3)=aI zM (gy 3):=by kernel_rfl
theorem K9:aH zQ (gy 4)=aI zR (gy 4):=by kernel_rfl
theorem KZ:aH zK (gy 4)=aI zM (gy 4):=by kernel_rfl
theorem La:aH zQ (gy 5)=aI zR (gy 5):=by kernel_rfl
theorem K0:aH zK (gy 5)=aI zM (gy 5):=by kernel_rfl
theorem Lc:aH zQ (gy 6)=aI zR (gy 6):=by kernel_rfl
theorem K1:aH zK (gy 6)=aI zM (gy 6):=by kernel_rfl
theorem cu {n:Nat} {w:List Nat} (h:w∈dX):(n,w)∈gy n:=List.mem_map.mpr ⟨w,h,rfl⟩
theorem G4 {n:Nat} {w:List Nat} (hn:n≤6) (h:w∈dX):zQ (n,w)=zR (n,w):=by
 match n,hn with
 | 0,_=>exact aF K5 _ (cu h)
 | 1,_=>exact aF K6 _ (cu h)
 | 2,_=>exact aF K7 _ (cu h)
 | 3,_=>exact aF K8 _ (cu h)
 | 4,_=>exact aF K9 _ (cu h)
 | 5,_=>exact aF La _ (cu h)
 | 6,_=>exact aF Lc _ (cu h)
theorem GY {n:Nat} {w:List Nat} (hn:n≤6) (h:w∈dX):zK (n,w)=zM (n,w):=by
 match n,hn with
 | 0,_=>exact aF KU _ (cu h)
 | 1,_=>exact aF KV _ (cu h)
 | 2,_=>exact aF KW _ (cu h)
 | 3,_=>exact aF KY _ (cu h)
 | 4,_=>exact aF KZ _ (cu h)
 | 5,_=>exact aF K0 _ (cu h)
 | 6,_=>exact aF K1 _ (cu h)
theorem IK (op:List (List Nat)) (h:op.length≤6):∃ a b c d e f,op=[a,b,c,d,e,f].take op.length:=by
 match op,h with
 | [],_=>exact ⟨[],[],[],[],[],[],rfl⟩
 | [a],_=>exact ⟨a,[],[],[],[],[],rfl⟩
 | [a,b],_=>exact ⟨a,b,[],[],[],[],rfl⟩
 | [a,b,c],_=>exact ⟨a,b,c,[],[],[],rfl⟩
 | [a,b,c,d],_=>exact ⟨a,b,c,d,[],[],rfl⟩
 | [a,b,c,d,e],_=>exact ⟨a,b,c,d,e,[],rfl⟩
 | [a,b,c,d,e,f],_=>exact ⟨a,b,c,d,e,f,rfl⟩
 | _::_::_::_::_::_::_::_,h=>simp at h
theorem o4 {x:V} {op:List (List Nat)} {w:List Nat} {ss:List (List Nat)} {K K2:St→Prop} {K3:V→St→Prop} (hop:op.length≤6) (h:w∈dX) :
  bI (c9 4 (.str w) (rB [(4,x)] op ss)) (ji K K2 K3)=KP op w ss K:=by
 obtain ⟨a,b,c,d,e,f,ho⟩:=IK op hop
 have:=Mt (Mt (Mt (Mt (Mt (Mt (Mt (Mt (Mt (Mt (Mt (G4 hop h) a) b) c) d) e) f) x) ss) K) K2) K3
 unfold zQ zR at this
 dsimp only at this
 rw [← ho] at this
 exact this
theorem sU {x:V} {op:List (List Nat)} {w:List Nat} {ss:List (List Nat)} {K K2:St→Prop} {K3:V→St→Prop} (hop:op.length≤6) (h:w∈dX) :
  bI (c9 4 (.str []) (rB [(4,x)] (op++[w]) ss)) (ji K K2 K3)=Lq op w ss K:=by
 obtain ⟨a,b,c,d,e,f,ho⟩:=IK op hop
 have:=Mt (Mt (Mt (Mt (Mt (Mt (Mt (Mt (Mt (Mt (Mt (GY hop h) a) b) c) d) e) f) x) ss) K) K2) K3
 unfold zK zM at this
 dsimp only at this
 rw [← ho] at this
 exact this
noncomputable def Hd (w:List Nat):Bool:=fb w dX
theorem lJ {w:List Nat} (h:Hd w=true):w∈dX:=by
 unfold Hd at h; rw [b8] at h; exact List.contains_iff_mem.mp h
noncomputable def zO:List (List Nat)→List (List Nat)→List (List Nat)→Option (List (List Nat))
 | [],[],ss=>some ss
 | [],_::_,_=>none
 | []::r,w::op,ss=>zO r op (ss++[Bm w])
 | []::_,[],_=>none
 | (a::w)::r,op,ss=>(match Hd (a::w) with
  | true=>(match Nat.ble op.length 6 with
   | true=>zO r ((a::w)::op) (ss++[JU (a::w)]++[[62]])
   | false=>none)
  | false=>none)
set_option tactic.hygienic true in
theorem lM {Q:Fl→St→Prop} {l:List V}:∀ (r:List (List Nat)) (k i:Nat) (op ss fin:List (List Nat)) (x:V),l.drop i=r.map V.str→r.length<k→(∀ w∈op,w∈dX)→op.length≤7→ss.length+2*r.length≤1000→zO r op ss=some fin →
  (∀ x,Q .next (rB [(4,x)] [] fin))→jy 19 (cY (.fro l)) (iO 4) bI k i (rB [(4,x)] op.reverse ss) Q
 | r,0,_,_,_,_,_,_,h,_,_,_,_,_=>absurd h (Nat.not_lt_zero _)
 | [],k+1,i,op,ss,fin,x,hd,_,_,_,_,hw,hQ=>by
  have hn:fV l i=none:=lA hd
  show (match (some (fV l i):Option (Option V)) with
   | some (some v)=>iO 4 v _ fun σ1=>bI σ1 _
   | some none=>Q .next _
   | none=>False)
  rw [hn]
  cases op with
  | nil=>unfold zO at hw; cases hw; exact hQ x
  | cons a b=>unfold zO at hw; cases hw
 | w::r,k+1,i,op,ss,fin,x,hd,hk,ho,hl,hs,hw,hQ=>by
  obtain ⟨hn,hd'⟩:=gT hd
  show (match (some (fV l i):Option (Option V)) with
   | some (some v)=>iO 4 v (rB [(4,x)] op.reverse ss) fun σ1=>bI σ1 (ji (fun σ3=>jy 19 (cY (.fro l)) (iO 4) bI k (i+1) σ3 Q) (fun σ2=>Q .next σ2) (fun v σ2=>Q (.ret v) σ2))
   | some none=>Q .next (rB [(4,x)] op.reverse ss)
   | none=>False)
  rw [hn]
  show bI (c9 4 (.str w) (rB [(4,x)] op.reverse ss)) _
  simp only [List.length_cons] at hk hs
  cases w with
  | nil=>
   cases op with
   | nil=>unfold zO at hw; cases hw
   | cons a op=>
    unfold zO at hw
    rw [List.reverse_cons,sU (by simp only [List.length_reverse,List.length_cons] at hl ⊢; omega) (ho a (LY ..))]
    refine cM (by omega) ?_
    exact lM r k (i+1) op _ fin _ hd' (by omega) (fun v hv=>ho v (LQ _ hv)) (by simp only [List.length_cons] at hl; omega) (by simp; omega) hw hQ
  | cons a w=>
   unfold zO at hw
   split at hw
   ·rename_i hok
    split at hw
    ·rename_i h6
     have h6:=LP h6
     rw [o4 (by rw [List.length_reverse]; exact h6) (lJ hok)]
     refine cM (by omega) (cM (by simp; omega) ?_)
     have:=lM (Q:=Q) (l:=l) r k (i+1) ((a::w)::op) _ fin (.str (a::w)) hd' (by omega) (fun v hv=>(List.mem_cons.mp hv).elim (fun e=>e ▸ lJ hok) (ho v)) (by simp only [List.length_cons]; omega) (by simp; omega) hw hQ
     rw [List.reverse_cons] at this
     exact this
    ·cases hw
   ·cases hw
noncomputable def lL (cs:List (List Nat)):Option (List (List Nat)):=match cs with
 | w::r=>(match Hd w with
  | true=>zO r [w] ([[60,65],[62]]++[JU w]++[[62]])
  | false=>none)
 | []=>none
theorem zP (l:List V) (P:V→Prop):pf [.fro l] [] ⟨[],[],0⟩ (fun v _=>P v)=jy 19 (cY (.fro l)) (iO 4) bI 60 0 (Jj [[60,65],[62]]) (ir cJ (gQ P)):=by kernel_rfl
theorem G0 (x:V) (ss:List (List Nat)) (P:V→Prop):ir cJ (gQ P) .next (rB [(4,x)] [] ss)=fits ss.length (tW [.str [],.fro ((ss++[Bm [65]]).map .str)] ⟨[],[],0⟩ (fun v _=>P v)):=by kernel_rfl
theorem jW:∀ (ss:List (List Nat)),fy (ss.map V.str)=some ss
 | []=>rfl
 | s::r=>by show (fy (r.map V.str)).map (List.cons s)=_; rw [jW r]; rfl
theorem kN:∀ {l:List V} {ss:List (List Nat)},fy l=some ss→l=ss.map V.str
 | [],ss,h=>by cases h; rfl
 | v::r,ss,h=>by
  obtain ⟨x,h1,h⟩:=Option.bind_eq_some_iff.mp h
  obtain ⟨q,h2,rfl⟩:=Option.map_eq_some_iff.mp h
  cases v with
  | str y=>cases h1; rw [kN h2]; rfl
  | _=>cases h1
noncomputable def iu (vs kvs:List V):Option V:=match kvs with
 | []=>(match vs with
  | [.fro l]=>(match fy l with
   | some cs=>(match Nat.ble cs.length 50 with
    | true=>(match lL cs with
     | some ss=>(match Nat.ble (vV (ss++[Bm [65]])+(ss++[Bm [65]]).length*0) 1000000 with
      | true=>(match Nat.ble ss.length 1000 with
       | true=>some (.str (ff [] (ss++[Bm [65]])))
       | false=>none)
      | false=>none)
     | none=>none)
    | false=>none)
   | none=>none)
  | _=>none)
 | _=>none
set_option tactic.hygienic true in
theorem pc (vs kvs:List V) (w:V) (h:iu vs kvs=some w):aU vs=true∧aU kvs=true∧bM w=true∧∀ P:V→Prop,P w→pf vs kvs ⟨[],[],0⟩ (fun v _=>P v):=by
 unfold iu at h
 split at h <;> first | (cases h; done) | skip
 split at h <;> first | (cases h; done) | skip
 rename_i l
 split at h <;> first | (cases h; done) | skip
 rename_i cs hcs
 have hl:=kN hcs
 split at h <;> first | (cases h; done) | skip
 rename_i h50
 have h50:=LP h50
 split at h <;> first | (cases h; done) | skip
 rename_i ss hss
 split at h <;> first | (cases h; done) | skip
 rename_i hsum
 split at h <;> first | (cases h; done) | skip
 rename_i hlen
 cases h
 refine ⟨eE (eF (kK fun v hv=>?_)) rfl,rfl,rfl,fun P hP=>?_⟩
 ·rw [hl] at hv
  obtain ⟨s,_,rfl⟩:=List.mem_map.mp hv; rfl
 ·rw [zP]
  cases cs with
  | nil=>cases hss
  | cons w r=>
  have hok:Hd w=true:=by
   cases q:Hd w with
   | true=>rfl
   | false=>unfold lL at hss; dsimp only at hss; rw [q] at hss; cases hss
  unfold lL at hss
  dsimp only at hss
  rw [hok] at hss
  obtain ⟨hn,hd'⟩:=gT (l:=l) (i:=0) (a:=V.str w) (r:=r.map V.str) (by rw [hl]; rfl)
  show (match (some (fV l 0):Option (Option V)) with
   | some (some v)=>iO 4 v (Jj [[60,65],[62]]) fun σ1=>bI σ1 (ji (fun σ3=>jy 19 (cY (.fro l)) (iO 4) bI 59 1 σ3 (ir cJ (gQ P))) (fun σ2=>ir cJ (gQ P) .next σ2) (fun v σ2=>ir cJ (gQ P) (.ret v) σ2))
   | some none=>ir cJ (gQ P) .next (Jj [[60,65],[62]])
   | none=>False)
  rw [hn]
  show bI (c9 4 (.str w) (Jj [[60,65],[62]])) _
  have e:=Mt (Mt (Mt (Mt (aF GX w (lJ hok)) [[60,65],[62]]) (fun σ3=>jy 19 (cY (.fro l)) (iO 4) bI 59 1 σ3 (ir cJ (gQ P)))) (fun σ2=>ir cJ (gQ P) .next σ2)) (fun v σ2=>ir cJ (gQ P) (.ret v) σ2)
  unfold Lu Lv at e
  rw [e]
  refine cM (by simp) (cM (by simp) ?_)
  simp only [List.length_cons] at h50
  refine lM (Q:=ir cJ (gQ P)) r 59 1 [w] _ ss _ hd' (by omega) (fun v hv=>by rw [List.mem_singleton.mp hv]; exact lJ hok) (by simp) (by simp; omega) hss fun x=>?_
  rw [G0]
  refine cM (by have:=LP hlen; omega) ?_
  show onS (fy ((ss++[Bm [65]]).map V.str)) _
  rw [jW]
  exact cM (LP hsum) hP
set_option tactic.hygienic true in
theorem FN.tabW {G:Glob} {lv:Nat} {f:Addr} {ks:List Str} {D:List V→List V→DE} {sp:List V→List V→Option V} (h:FN G lv f ks (cF D))
  (hs:∀ vs kvs w,sp vs kvs=some w→aU vs=true∧aU kvs=true∧bM w=true∧∀ P:V→Prop,P w→D vs kvs ⟨[],[],0⟩ (fun v _=>P v)):FN G lv f ks (o5 sp):=by
 refine h.mono fun vs kvs σ Q hd=>?_
 unfold o5 at hd
 split at hd
 ·rename_i w hw
  obtain ⟨p1,p2,p3,p4⟩:=hs vs kvs w hw
  refine jM p1 p2 (p4 (fun v=>match bM v with
   | true=>Q v σ
   | false=>False) ?_)
  rw [p3]; exact hd
 ·exact hd.elim
theorem CE (g:GA) (ok:(Gk g).Ok) (ba:Bare g):FN (Gk g) 6 424 [] (o5 iu):=(Cu g ok ba).tabW pc
noncomputable def Dv:List (Str×NameKind):=[((tS "script"),.local),((tS "cells"),.local),((tS "depths"),.cell),((tS "leads"),.local),((tS "found"),.local),((tS "parts"),.local),((tS "marks"),.local),((tS "heights"),.local),((tS "bounces"),.cell),((tS "pairs"),.local),((tS "rows"),.local),((tS "size"),.local),((tS "left"),.local),((tS "_law_page"),.globalImplicit),((tS "_law_found"),.globalImplicit),((tS "_law_written"),.globalImplicit),((tS "_law_calls"),.globalImplicit),((tS "_law_heights"),.globalImplicit),((tS "_law_bounces"),.globalImplicit),((tS "_law_back"),.globalImplicit),((tS "enumerate"),.globalImplicit),((tS "range"),.globalImplicit),((tS "sum"),.globalImplicit),((tS "len"),.globalImplicit),((tS "Whitespace"),.globalImplicit),((tS "tuple"),.globalImplicit)]
noncomputable def bR:Sc:=⟨Dv,true,449,(tS "law.<locals>.")⟩
theorem br:NamesOk bR:=by unfold NamesOk; kernel_rfl
noncomputable def s7:FuncData:=dE (cT P0 450) default
noncomputable def aZ:List PySem.Stmt:=bw (some s7)
noncomputable abbrev Da:=af aZ
theorem D5 (g:GA):FnOk (Gk g) 450 s7 aZ bR:=FnOk.of (by kernel_rfl) (by kernel_rfl)
noncomputable def uv:List (Str×NameKind):=[((tS ".0"),.local),((tS "cell"),.local),((tS "int"),.globalImplicit)]
noncomputable def mX:Sc:=⟨uv,false,0,(tS "")⟩
theorem uC:NamesOk mX:=by unfold NamesOk; kernel_rfl
noncomputable def mM:aD 6 bR (Da 0):=⟨_,fun g ok ba=>(@ad _ _ _ _ _ _ _ _ (@bv _ _ _ _ _ _ _ _ _ _ _ ok (@aQ _ _ _ _ _ _ _ _ _ ok (@dJ _ _ _ mX false _ _ _ _ _ _ _ _ _ _ ok (@CompOk.of _ _ _ [] (by kernel_rfl)) (@cO _ _ _ _ _ _ ok (@bv _ _ _ _ _ _ _ _ _ _ _ ok (@aa _ _ _ 0 _ _ _ br rfl rfl) ck (@bN _ _ _ _ _ ay))) (fun _ _=>rfl) (@dI _ _ _ _ _ _ _ _ _ _ _ _ _ 60 (fun h=>nomatch h) (@aj _ _ _ 1 _ _ _ rfl (.inl rfl)) eZ (@aQ _ _ _ _ _ _ _ _ _ ok (@aM _ _ _ _ _ _ _ _ _ _ _ _ (@aJ _ _ _ _ 2 _ _ _ _ ok rfl (Li g) zS) (@ac _ _ _ _ _ _ _ (@aa _ _ _ 1 _ _ _ uC rfl rfl) ae (fun _ _=>rfl)) aw (fun _ _=>rfl) (fun _ _=>rfl) (fun _ _=>rfl)) (@aQ _ _ _ _ _ _ _ _ _ ok ay ay)))) (@bW _ _ _ _ _ _ ok (@ac _ _ _ _ _ _ _ ay (@ac _ _ _ _ _ _ _ ay (@ac _ _ _ _ _ _ _ ay (@ac _ _ _ _ _ _ _ ay (@ac _ _ _ _ _ _ _ ay (@ac _ _ _ _ _ _ _ ay ae (fun _ _=>rfl)) (fun _ _=>rfl)) (fun _ _=>rfl)) (fun _ _=>rfl)) (fun _ _=>rfl)) (fun _ _=>rfl)))) ck (@bN _ _ _ _ _ ay)) (@am _ _ _ _ _ (@aj _ _ _ 1 _ _ _ rfl (.inl rfl)) (fun _=>rfl)) (fun _=>rfl) (fun _ _=>rfl))⟩
noncomputable def bz:DS:=mM.1
theorem Br:cS (tS "_law_page"):=by kernel_rfl
theorem Id (P:Params):nsIn (KK P) mainGlobals (tS "_law_page")=some (some (.ref 403)):=by kernel_rfl
noncomputable def jK:aD 6 bR (Da 1):=⟨_,fun g ok ba=>(@ad _ _ _ _ _ _ _ _ (@aM _ _ _ _ _ _ _ _ _ _ _ _ (@bA _ _ _ _ 13 _ _ _ _ ok Br rfl (Id _) (@CB.up _ _ _ _ _ _ (@FN.cb _ _ _ _ _ ok (CC g ok ba)) rfl)) (@ac _ _ _ _ _ _ _ (@aa _ _ _ 1 _ _ _ br rfl rfl) ae (fun _ _=>rfl)) aw (fun _ _=>rfl) (fun _ _=>rfl) (fun _ _=>rfl)) (@am _ _ _ _ _ (@bX _ _ _ _ _ _ _ (@aO _ _ _ _ _ _ _ (@aj _ _ _ 2 _ _ _ rfl (.inr ⟨rfl,rfl⟩)) (@aO _ _ _ _ _ _ _ (@aj _ _ _ 3 _ _ _ rfl (.inl rfl)) cG (fun _=>rfl)) (fun _=>rfl)) (fun _=>rfl) (fun _=>rfl)) (fun _=>rfl)) (fun _=>rfl) (fun _ _=>rfl))⟩
noncomputable def i8:DS:=jK.1
theorem Bs:cS (tS "_law_found"):=by kernel_rfl
theorem Ie (P:Params):nsIn (KK P) mainGlobals (tS "_law_found")=some (some (.ref 410)):=by kernel_rfl
noncomputable def jL:aD 6 bR (Da 2):=⟨_,fun g ok ba=>(@ad _ _ _ _ _ _ _ _ (@aM _ _ _ _ _ _ _ _ _ _ _ _ (@bA _ _ _ _ 14 _ _ _ _ ok Bs rfl (Ie _) (@CB.up _ _ _ _ _ _ (@FN.cb _ _ _ _ _ ok (CD g ok ba)) rfl)) (@ac _ _ _ _ _ _ _ (@aa _ _ _ 3 _ _ _ br rfl rfl) ae (fun _ _=>rfl)) aw (fun _ _=>rfl) (fun _ _=>rfl) (fun _ _=>rfl)) (@am _ _ _ _ _ (@aj _ _ _ 4 _ _ _ rfl (.inl rfl)) (fun _=>rfl)) (fun _=>rfl) (fun _ _=>rfl))⟩
noncomputable def i9:DS:=jL.1
noncomputable def Gs:aD 6 bR (af (aZ.drop 3) 0):=⟨_,fun g ok ba=>(@bL _ _ _ _ _ _ _ _ _ _ (@a9 _ _ _ _ _ _ _ _ _ (@aa _ _ _ 4 _ _ _ br rfl rfl) (@aa _ _ _ 2 _ _ _ br rfl rfl) rfl) (@ab _ _ _ _ _ _ _ (@aK _ _ _ _ _ _ b0) al) al)⟩
theorem Bt:cS (tS "_law_calls"):=by kernel_rfl
theorem Ig (P:Params):nsIn (KK P) mainGlobals (tS "_law_calls")=some (some (.ref 417)):=by kernel_rfl
theorem Bu:cS (tS "_law_written"):=by kernel_rfl
theorem Ih (P:Params):nsIn (KK P) mainGlobals (tS "_law_written")=some (some (.ref 424)):=by kernel_rfl
noncomputable def Gu:aD 6 bR (af (aZ.drop 3) 1):=⟨_,fun g ok ba=>(@ad _ _ _ _ _ _ _ _ (@aB _ _ _ _ _ _ _ _ _ _ _ _ _ (@pn _ _ _ _ _ ok (@aM _ _ _ _ _ _ _ _ _ _ _ _ (@bA _ _ _ _ 15 _ _ _ _ ok Bu rfl (Ih _) (@CB.up _ _ _ _ _ _ (@FN.cb _ _ _ _ _ ok (CE g ok ba)) rfl)) (@ac _ _ _ _ _ _ _ (@aM _ _ _ _ _ _ _ _ _ _ _ _ (@bA _ _ _ _ 16 _ _ _ _ ok Bt rfl (Ig _) (@CB.up _ _ _ _ _ _ (@FN.cb _ _ _ _ _ ok (Ct g ok ba)) rfl)) (@ac _ _ _ _ _ _ _ (@aa _ _ _ 4 _ _ _ br rfl rfl) ae (fun _ _=>rfl)) aw (fun _ _=>rfl) (fun _ _=>rfl) (fun _ _=>rfl)) ae (fun _ _=>rfl)) aw (fun _ _=>rfl) (fun _ _=>rfl) (fun _ _=>rfl))) (@ac _ _ _ _ _ _ _ (@bn _ _ _ _ _ _ _ AG) ae (fun _ _=>rfl)) aw (fun _=>rfl) rfl (fun _ _=>rfl) (fun _ _=>rfl) (fun _ _=>rfl) (fun _ _=>rfl)) (@am _ _ _ _ _ (@aj _ _ _ 5 _ _ _ rfl (.inl rfl)) (fun _=>rfl)) (fun _=>rfl) (fun _ _=>rfl))⟩
theorem Jd:(tS "A>")=(⟨([65,62]:List Nat).toArray⟩:Str):=by kernel_rfl
theorem Je:(tS "/A>")=(⟨([47,65,62]:List Nat).toArray⟩:Str):=by kernel_rfl
noncomputable def Gv:aD 6 bR (af (aZ.drop 3) 2):=⟨_,fun g ok ba=>(@bL _ _ _ _ _ _ _ _ _ _ (@a9 _ _ _ _ _ _ _ _ _ (@aQ _ _ _ _ _ _ _ _ _ ok (@bv _ _ _ _ _ _ _ _ _ _ _ ok (@aa _ _ _ 5 _ _ _ br rfl rfl) ck (@bN _ _ _ _ _ ay)) (@bv _ _ _ _ _ _ _ _ _ _ _ ok (@aa _ _ _ 5 _ _ _ br rfl rfl) (@bN _ _ _ _ _ (@dK _ _ _ _ _ _ ay)) ck)) (@bW _ _ _ _ _ _ ok (@ac _ _ _ _ _ _ _ (@bn _ _ _ _ _ _ _ fY) (@ac _ _ _ _ _ _ _ (@bn _ _ _ _ _ _ _ Jd) (@ac _ _ _ _ _ _ _ (@bn _ _ _ _ _ _ _ Je) ae (fun _ _=>rfl)) (fun _ _=>rfl)) (fun _ _=>rfl))) rfl) (@ab _ _ _ _ _ _ _ (@aK _ _ _ _ _ _ b0) al) al)⟩
noncomputable def Gw:aD 6 bR (af (aZ.drop 3) 3):=⟨_,fun g ok ba=>(@ad _ _ _ _ _ _ _ _ (@bv _ _ _ _ _ _ _ _ _ _ _ ok (@aa _ _ _ 5 _ _ _ br rfl rfl) (@bN _ _ _ _ _ ay) (@bN _ _ _ _ _ (@dK _ _ _ _ _ _ ay))) (@am _ _ _ _ _ (@aj _ _ _ 6 _ _ _ rfl (.inl rfl)) (fun _=>rfl)) (fun _=>rfl) (fun _ _=>rfl))⟩
theorem Bv:cS (tS "_law_heights"):=by kernel_rfl
theorem Ii (P:Params):nsIn (KK P) mainGlobals (tS "_law_heights")=some (some (.ref 431)):=by kernel_rfl
noncomputable def Gx:aD 6 bR (af (aZ.drop 3) 4):=⟨_,fun g ok ba=>(@ad _ _ _ _ _ _ _ _ (@aM _ _ _ _ _ _ _ _ _ _ _ _ (@bA _ _ _ _ 17 _ _ _ _ ok Bv rfl (Ii _) (@CB.up _ _ _ _ _ _ (@FN.cb _ _ _ _ _ ok (Cv g ok ba)) rfl)) (@ac _ _ _ _ _ _ _ (@aa _ _ _ 6 _ _ _ br rfl rfl) ae (fun _ _=>rfl)) aw (fun _ _=>rfl) (fun _ _=>rfl) (fun _ _=>rfl)) (@am _ _ _ _ _ (@aj _ _ _ 7 _ _ _ rfl (.inl rfl)) (fun _=>rfl)) (fun _=>rfl) (fun _ _=>rfl))⟩
theorem Bw:cS (tS "_law_bounces"):=by kernel_rfl
theorem Ij (P:Params):nsIn (KK P) mainGlobals (tS "_law_bounces")=some (some (.ref 438)):=by kernel_rfl
noncomputable def Gy:aD 6 bR (af (aZ.drop 3) 5):=⟨_,fun g ok ba=>(@ad _ _ _ _ _ _ _ _ (@aM _ _ _ _ _ _ _ _ _ _ _ _ (@bA _ _ _ _ 18 _ _ _ _ ok Bw rfl (Ij _) (@CB.up _ _ _ _ _ _ (@FN.cb _ _ _ _ _ ok (Cw g ok ba)) rfl)) (@ac _ _ _ _ _ _ _ (@aa _ _ _ 7 _ _ _ br rfl rfl) ae (fun _ _=>rfl)) aw (fun _ _=>rfl) (fun _ _=>rfl) (fun _ _=>rfl)) (@am _ _ _ _ _ (@aj _ _ _ 8 _ _ _ rfl (.inr ⟨rfl,rfl⟩)) (fun _=>rfl)) (fun _=>rfl) (fun _ _=>rfl))⟩
theorem Bx:cS (tS "_law_back"):=by kernel_rfl
theorem Ik (P:Params):nsIn (KK P) mainGlobals (tS "_law_back")=some (some (.ref 445)):=by kernel_rfl
noncomputable def uw:List (Str×NameKind):=[((tS ".0"),.local),((tS "place"),.local),((tS "depth"),.local)]
noncomputable def mY:Sc:=⟨uw,false,0,(tS "")⟩
theorem my:NamesOk mY:=by unfold NamesOk; kernel_rfl
theorem Jf:(tS "B")=(⟨([66]:List Nat).toArray⟩:Str):=by kernel_rfl
theorem Jg:(tS "ABCDEFG")=(⟨([65,66,67,68,69,70,71]:List Nat).toArray⟩:Str):=by kernel_rfl
noncomputable def Gz:aD 6 bR (af (aZ.drop 3) 6):=⟨_,fun g ok ba=>(@bL _ _ _ _ _ _ _ _ _ _ (@a9 _ _ _ _ _ _ _ _ _ (@aM _ _ _ _ _ _ _ _ _ _ _ _ (@bA _ _ _ _ 19 _ _ _ _ ok Bx rfl (Ik _) (@CB.up _ _ _ _ _ _ (@FN.cb _ _ _ _ _ ok (Cx g ok ba)) rfl)) (@ac _ _ _ _ _ _ _ (@aa _ _ _ 6 _ _ _ br rfl rfl) (@ac _ _ _ _ _ _ _ (@aa _ _ _ 8 _ _ _ br rfl rfl) ae (fun _ _=>rfl)) (fun _ _=>rfl)) aw (fun _ _=>rfl) (fun _ _=>rfl) (fun _ _=>rfl)) (@dJ _ _ _ mY true _ _ _ _ _ _ _ _ _ _ ok (@CompOk.of _ _ _ [] (by kernel_rfl)) (@cW _ _ _ _ _ 20 _ _ _ _ _ _ ok rfl (pA g) (fun _ h=>nomatch h) (kP ok) (@ac _ _ _ _ _ _ _ (@aa _ _ _ 2 _ _ _ br rfl rfl) ae (fun _ _=>rfl)) (fun _ _=>rfl)) (fun _ _=>rfl) (@dI _ _ _ _ _ _ _ _ _ _ _ _ _ 60 (fun _=>rfl) (@bX _ _ _ _ _ _ _ (@aO _ _ _ _ _ _ _ (@aj _ _ _ 1 _ _ _ rfl (.inl rfl)) (@aO _ _ _ _ _ _ _ (@aj _ _ _ 2 _ _ _ rfl (.inl rfl)) cG (fun _=>rfl)) (fun _=>rfl)) (fun _=>rfl) (fun _=>rfl)) eZ (@aV _ _ _ _ _ _ _ ok (@ac _ _ _ _ _ _ _ (@aa _ _ _ 2 _ _ _ my rfl rfl) (@ac _ _ _ _ _ _ _ (@aQ _ _ _ _ _ _ _ _ _ ok (@bn _ _ _ _ _ _ _ Jf) (@bS _ _ _ _ _ _ _ _ ok (@bn _ _ _ _ _ _ _ Jg) (@aa _ _ _ 1 _ _ _ my rfl rfl))) ae (fun _ _=>rfl)) (fun _ _=>rfl)) (by decide)))) rfl) (@ab _ _ _ _ _ _ _ (@aK _ _ _ _ _ _ b0) al) al)⟩
noncomputable def ux:List (Str×NameKind):=[((tS ".0"),.local),((tS "late"),.local),((tS "early"),.local),((tS "range"),.globalImplicit),((tS "depths"),.cell)]
noncomputable def mZ:Sc:=⟨ux,false,0,(tS "")⟩
theorem eD:NamesOk mZ:=by unfold NamesOk; kernel_rfl
noncomputable def GB:aD 6 bR (af (aZ.drop 3) 7):=⟨_,fun g ok ba=>(@f7 _ _ _ mZ false _ _ _ _ _ _ _ _ _ _ _ 9 _ _ ok (@CompOk.of _ _ _ [(4,2)] (by kernel_rfl)) (@cW _ _ _ _ _ 21 _ _ _ _ _ _ ok rfl (nz g) (fun _ h=>nomatch h) (eJ ok) (@ac _ _ _ _ _ _ _ ay ae (fun _ _=>rfl)) (fun _ _=>rfl)) (fun _ _=>rfl) (@rK _ _ _ _ false _ _ _ _ _ _ _ _ _ _ _ _ _ _ _ 60 60 (fun h=>nomatch h) (@aj _ _ _ 1 _ _ _ rfl (.inl rfl)) eZ (fun h=>nomatch h) (@cW _ _ _ _ _ 3 _ _ _ _ _ _ ok rfl (nz g) (fun _ h=>nomatch h) (eJ ok) (@ac _ _ _ _ _ _ _ (@aa _ _ _ 1 _ _ _ eD rfl rfl) ae (fun _ _=>rfl)) (fun _ _=>rfl)) (@aj _ _ _ 2 _ _ _ rfl (.inl rfl)) (@rU _ _ _ _ _ (@a9 _ _ _ _ _ _ _ _ _ (@aQ _ _ _ _ _ _ _ _ _ ok (@bS _ _ _ _ _ _ _ _ ok (@aa _ _ _ 4 _ _ _ eD rfl rfl) (@aa _ _ _ 2 _ _ _ eD rfl rfl)) (@bS _ _ _ _ _ _ _ _ ok (@aa _ _ _ 4 _ _ _ eD rfl rfl) (@aa _ _ _ 1 _ _ _ eD rfl rfl))) (@aV _ _ _ _ _ _ _ ok (@ac _ _ _ _ _ _ _ ay (@ac _ _ _ _ _ _ _ ay ae (fun _ _=>rfl)) (fun _ _=>rfl)) (by decide)) rfl)) (@aa _ _ _ 1 _ _ _ eD rfl rfl) (fun _ _=>rfl)) rfl (fun env he=>(lH he).trans (by kernel_rfl)))⟩
theorem sA (g:GA):Bltin (Gk g) (tS "sum") (.builtin "sum"):=⟨by kernel_rfl,by decide,PyProof.Rows.Boot.«sum»,by kernel_rfl⟩
noncomputable def GC:aD 6 bR (af (aZ.drop 3) 8):=⟨_,fun g ok ba=>(@bL _ _ _ _ _ _ _ _ _ _ (@a9 _ _ _ _ _ _ _ _ _ (@aQ _ _ _ _ _ _ _ _ _ ok (@aM _ _ _ _ _ _ _ _ _ _ _ _ (@aJ _ _ _ _ 22 _ _ _ _ ok rfl (sA g) rG) (@ac _ _ _ _ _ _ _ (@aa _ _ _ 7 _ _ _ br rfl rfl) ae (fun _ _=>rfl)) aw (fun _ _=>rfl) (fun _ _=>rfl) (fun _ _=>rfl)) ay) (@aM _ _ _ _ _ _ _ _ _ _ _ _ (@aJ _ _ _ _ 23 _ _ _ _ ok rfl (jf g) fP) (@ac _ _ _ _ _ _ _ (@aa _ _ _ 9 _ _ _ br rfl rfl) ae (fun _ _=>rfl)) aw (fun _ _=>rfl) (fun _ _=>rfl) (fun _ _=>rfl)) rfl) (@ab _ _ _ _ _ _ _ (@aK _ _ _ _ _ _ b0) al) al)⟩
noncomputable def uy:List (Str×NameKind):=[((tS ".0"),.local),((tS "depth"),.local)]
noncomputable def m1:Sc:=⟨uy,false,0,(tS "")⟩
theorem uD:NamesOk m1:=by unfold NamesOk; kernel_rfl
noncomputable def GD:aD 6 bR (af (aZ.drop 3) 9):=⟨_,fun g ok ba=>(@ad _ _ _ _ _ _ _ _ (@aM _ _ _ _ _ _ _ _ _ _ _ _ (@bA _ _ _ _ 24 _ _ _ _ ok pG rfl (xc _) (@CB.up _ _ _ _ _ _ (@CBs.fob _ _ _ _ _ ok ba.gn (fun hp=>g9 (G:=(Gk g).pv AllBare hp) (ok.pv AllBare hp) (un _) (uh _) (v8 _) (vN _) (by kernel_rfl) (tp {g with gn:=AllBare,hp:=hp} (ok.pv AllBare hp) ⟨rfl⟩))) rfl)) (@ac _ _ _ _ _ _ _ (@aB _ _ _ _ _ _ _ _ _ _ _ _ _ (@kQ _ _ _ _ _ (@bn _ _ _ _ _ _ _ fY)) (@ac _ _ _ _ _ _ _ (@dJ _ _ _ m1 false _ _ _ _ _ _ _ _ _ _ ok (@CompOk.of _ _ _ [] (by kernel_rfl)) (@cO _ _ _ _ _ _ ok (@aa _ _ _ 2 _ _ _ br rfl rfl)) (fun _ _=>rfl) (@dI _ _ _ _ _ _ _ _ _ _ _ _ _ 60 (fun h=>nomatch h) (@aj _ _ _ 1 _ _ _ rfl (.inl rfl)) eZ (@aQ _ _ _ _ _ _ _ _ _ ok (@aQ _ _ _ _ _ _ _ _ _ ok (@bn _ _ _ _ _ _ _ AH) (@aa _ _ _ 1 _ _ _ uD rfl rfl)) (@bn _ _ _ _ _ _ _ AJ)))) ae (fun _ _=>rfl)) aw (fun _=>rfl) rfl (fun _ _=>rfl) (fun _ _=>rfl) (fun _ _=>rfl) (fun _ _=>rfl)) ae (fun _ _=>rfl)) aw (fun _ _=>rfl) (fun _ _=>rfl) (fun _ _=>rfl)) (@am _ _ _ _ _ (@aj _ _ _ 10 _ _ _ rfl (.inl rfl)) (fun _=>rfl)) (fun _=>rfl) (fun _ _=>rfl))⟩
noncomputable def yH:aD 6 bR (af (aZ.drop 3) 10):=⟨_,fun g ok ba=>(@bL _ _ _ _ _ _ _ _ _ _ (@a9 _ _ _ _ _ _ _ _ _ (@cV _ _ _ _ _ _ _ _ 3 ok (bO g) (pt g) (tl _) (@aa _ _ _ 10 _ _ _ br rfl rfl) (fun _=>rfl)) (@aV _ _ _ _ _ _ _ ok (@ac _ _ _ _ _ _ _ (@aM _ _ _ _ _ _ _ _ _ _ _ _ (@aJ _ _ _ _ 25 _ _ _ _ ok rfl (HJ g) (pd ok)) (@ac _ _ _ _ _ _ _ (@aa _ _ _ 8 _ _ _ br rfl rfl) ae (fun _ _=>rfl)) aw (fun _ _=>rfl) (fun _ _=>rfl) (fun _ _=>rfl)) (@ac _ _ _ _ _ _ _ ay ae (fun _ _=>rfl)) (fun _ _=>rfl)) (by decide)) rfl) (@ab _ _ _ _ _ _ _ (@aK _ _ _ _ _ _ b0) al) al)⟩
noncomputable def uz:List (Str×NameKind):=[((tS ".0"),.local),((tS "turn"),.local),((tS "sum"),.globalImplicit),((tS "bounces"),.cell)]
noncomputable def m3:Sc:=⟨uz,false,0,(tS "")⟩
theorem mz:NamesOk m3:=by unfold NamesOk; kernel_rfl
noncomputable def yI:aD 6 bR (af (ca (af (aZ.drop 3) 11)) 0):=⟨_,fun g ok ba=>(@f7 _ _ _ m3 false _ _ _ _ _ _ _ _ _ _ _ 12 _ _ ok (@CompOk.of _ _ _ [(3,8)] (by kernel_rfl)) (@cW _ _ _ _ _ 21 _ _ _ _ _ _ ok rfl (nz g) (fun _ h=>nomatch h) (eJ ok) (@ac _ _ _ _ _ _ _ (@aa _ _ _ 11 _ _ _ br rfl rfl) (@ac _ _ _ _ _ _ _ (@aQ _ _ _ _ _ _ _ _ _ ok (@aM _ _ _ _ _ _ _ _ _ _ _ _ (@aJ _ _ _ _ 23 _ _ _ _ ok rfl (jf g) fP) (@ac _ _ _ _ _ _ _ (@aa _ _ _ 8 _ _ _ br rfl rfl) ae (fun _ _=>rfl)) aw (fun _ _=>rfl) (fun _ _=>rfl) (fun _ _=>rfl)) ay) (@ac _ _ _ _ _ _ _ (@aa _ _ _ 11 _ _ _ br rfl rfl) ae (fun _ _=>rfl)) (fun _ _=>rfl)) (fun _ _=>rfl)) (fun _ _=>rfl)) (fun _ _=>rfl) (@dI _ _ _ _ _ _ _ _ _ _ _ _ _ 60 (fun h=>nomatch h) (@aj _ _ _ 1 _ _ _ rfl (.inl rfl)) eZ (@aQ _ _ _ _ _ _ _ _ _ ok ay (@aM _ _ _ _ _ _ _ _ _ _ _ _ (@aJ _ _ _ _ 2 _ _ _ _ ok rfl (sA g) rG) (@ac _ _ _ _ _ _ _ (@bv _ _ _ _ _ _ _ _ _ _ _ ok (@aa _ _ _ 3 _ _ _ mz rfl rfl) ck (@bN _ _ _ _ _ (@aa _ _ _ 1 _ _ _ mz rfl rfl))) ae (fun _ _=>rfl)) aw (fun _ _=>rfl) (fun _ _=>rfl) (fun _ _=>rfl)))) rfl (fun env he=>(lH he).trans (by kernel_rfl)))⟩
noncomputable def yJ:aD 6 bR (af (ca (af (aZ.drop 3) 11)) 1):=⟨_,fun g ok ba=>(@bL _ _ _ _ _ _ _ _ _ _ (@a9 _ _ _ _ _ _ _ _ _ (@aB _ _ _ _ _ _ _ _ _ _ _ _ _ (@hJ _ _ _ _ _ _ _ 6 _ _ _ ok (bO g) (sn g) (ul _) (wc _) (@aa _ _ _ 10 _ _ _ br rfl rfl) (@CB.up _ _ _ _ _ _ (@FN.cb _ _ _ _ _ ok (ow g ok ba)) rfl)) (@ac _ _ _ _ _ _ _ (@aa _ _ _ 11 _ _ _ br rfl rfl) ae (fun _ _=>rfl)) aw (fun _=>rfl) rfl (fun _ _=>rfl) (fun _ _=>rfl) (fun _ _=>rfl) (fun _ _=>rfl)) (@aQ _ _ _ _ _ _ _ _ _ ok (@aa _ _ _ 11 _ _ _ br rfl rfl) (@aQ _ _ _ _ _ _ _ _ _ ok ay (@aM _ _ _ _ _ _ _ _ _ _ _ _ (@aJ _ _ _ _ 22 _ _ _ _ ok rfl (sA g) rG) (@ac _ _ _ _ _ _ _ (@aa _ _ _ 12 _ _ _ br rfl rfl) ae (fun _ _=>rfl)) aw (fun _ _=>rfl) (fun _ _=>rfl) (fun _ _=>rfl)))) rfl) (@ab _ _ _ _ _ _ _ (@aK _ _ _ _ _ _ b0) al) al)⟩
noncomputable def yK:aD 6 bR (af (aZ.drop 3) 11):=⟨_,fun g ok ba=>(@eo _ _ _ false _ _ _ _ _ _ _ 60 (@cW _ _ _ _ _ 21 _ _ _ _ _ _ ok rfl (nz g) (fun _ h=>nomatch h) (eJ ok) (@ac _ _ _ _ _ _ _ ay (@ac _ _ _ _ _ _ _ ay ae (fun _ _=>rfl)) (fun _ _=>rfl)) (fun _ _=>rfl)) (fun h=>nomatch h) (@aj _ _ _ 11 _ _ _ rfl (.inl rfl)) (@aP _ _ _ (ca (af (aZ.drop 3) 11)) 2 _ (by kernel_rfl) (@ab _ _ _ _ _ _ _ (@aG _ _ _ yI g ok ba) (@ab _ _ _ _ _ _ _ (@aG _ _ _ yJ g ok ba) al))) (fun _ _=>rfl))⟩
noncomputable def mN:Aa 6 bR (aZ.drop 3):=⟨_,fun g ok ba=>(@aP _ _ _ (aZ.drop 3) 13 _ (by kernel_rfl) (@ab _ _ _ _ _ _ _ (@aG _ _ _ Gs g ok ba) (@ab _ _ _ _ _ _ _ (@aG _ _ _ Gu g ok ba) (@ab _ _ _ _ _ _ _ (@aG _ _ _ Gv g ok ba) (@ab _ _ _ _ _ _ _ (@aG _ _ _ Gw g ok ba) (@ab _ _ _ _ _ _ _ (@aG _ _ _ Gx g ok ba) (@ab _ _ _ _ _ _ _ (@aG _ _ _ Gy g ok ba) (@ab _ _ _ _ _ _ _ (@aG _ _ _ Gz g ok ba) (@ab _ _ _ _ _ _ _ (@aG _ _ _ GB g ok ba) (@ab _ _ _ _ _ _ _ (@aG _ _ _ GC g ok ba) (@ab _ _ _ _ _ _ _ (@aG _ _ _ GD g ok ba) (@ab _ _ _ _ _ _ _ (@aG _ _ _ yH g ok ba) (@ab _ _ _ _ _ _ _ (@aG _ _ _ yK g ok ba) (@ab _ _ _ _ _ _ _ (@aK _ _ _ _ _ _ b0) al))))))))))))))⟩
noncomputable def gq:DS:=mN.1
noncomputable def ce (i:Int):V:=.int (Int.fmod i 1000000)
noncomputable def vG (sv:V) (cs xs:List V):St:=⟨[(0,sv),(1,.fro cs)],[(0,.list xs)],1⟩
noncomputable def KM (sv lv:V) (cs xs ds:List V):St:=⟨[(0,sv),(1,.fro cs),(2,.fro ds),(3,lv),(4,.fro ds)],[(0,.list xs)],1⟩
noncomputable def lC:(d:DS) ×' (∀ g:GA,(Gk g).Ok→Bare g→iQ (Gk g) 6 bR aZ d):=⟨_,fun g ok ba=>ab (mM.2 g ok ba) (ab (jK.2 g ok ba) (ab (jL.2 g ok ba) (mN.2 g ok ba)))⟩
theorem t7 (σ:St) (K:Fl→St→Prop):lC.1 σ K=bz σ (ir i8 (ir i9 (ir gq K))):=by kernel_rfl
theorem c0 (K:Fl→St→Prop):bz ⟨[(0,.fro [])],[],0⟩ K=K .next (vG (.fro []) [.int 9,.int 2,.int 10,.int 5,.int 12,.int 11] []):=by kernel_rfl
theorem c1 (a:Int) (K:Fl→St→Prop):bz ⟨[(0,.fro [.int a])],[],0⟩ K=K .next (vG (.fro [.int a]) [ce a,.int 9,.int 2,.int 10,.int 5,.int 12] [ce a]):=by kernel_rfl
theorem c2 (a b:Int) (K:Fl→St→Prop):bz ⟨[(0,.fro [.int a,.int b])],[],0⟩ K=K .next (vG (.fro [.int a,.int b]) [ce a,ce b,.int 9,.int 2,.int 10,.int 5] [ce a,ce b]):=by kernel_rfl
theorem c3 (a b c:Int) (K:Fl→St→Prop):bz ⟨[(0,.fro [.int a,.int b,.int c])],[],0⟩ K=K .next (vG (.fro [.int a,.int b,.int c]) [ce a,ce b,ce c,.int 9,.int 2,.int 10] [ce a,ce b,ce c]):=by kernel_rfl
theorem c4 (a b c d:Int) (K:Fl→St→Prop):bz ⟨[(0,.fro [.int a,.int b,.int c,.int d])],[],0⟩ K=K .next (vG (.fro [.int a,.int b,.int c,.int d]) [ce a,ce b,ce c,ce d,.int 9,.int 2] [ce a,ce b,ce c,ce d]):=by kernel_rfl
theorem c5 (a b c d e:Int) (K:Fl→St→Prop):bz ⟨[(0,.fro [.int a,.int b,.int c,.int d,.int e])],[],0⟩ K=K .next (vG (.fro [.int a,.int b,.int c,.int d,.int e]) [ce a,ce b,ce c,ce d,ce e,.int 9] [ce a,ce b,ce c,ce d,ce e]):=by kernel_rfl
theorem c6 (a b c d e f:Int) (r:List V) (K:Fl→St→Prop):bz ⟨[(0,.fro (.int a::.int b::.int c::.int d::.int e::.int f::r))],[],0⟩ K=fits ((.int a::.int b::.int c::.int d::.int e::.int f::r:List V).length) (K .next (vG (.fro (.int a::.int b::.int c::.int d::.int e::.int f::r)) [ce a,ce b,ce c,ce d,ce e,ce f] [ce a,ce b,ce c,ce d,ce e,ce f])):=by kernel_rfl
theorem o3 (i:Int):bk (Int.fmod i 1000000)=true:=by
 have h0:(0:Int)≤Int.fmod i 1000000:=Int.fmod_nonneg_of_pos _ (by omega)
 have h1:Int.fmod i 1000000<1000000:=Int.fmod_lt_of_pos _ (by omega)
 obtain ⟨k,hk⟩:=Int.eq_ofNat_of_zero_le h0
 rw [hk] at h1 ⊢
 show Nat.blt k 1000000000=true
 exact L9 (by omega)
theorem sH (is:List Int) (hl:is.length≤1000000) (K:Fl→St→Prop) (h:∀ (cs:List Int) (xs:List V),cs.length=6→(∀ c∈cs,bk c=true)→K .next (vG (.fro (is.map .int)) (cs.map .int) xs)):bz ⟨[(0,.fro (is.map .int))],[],0⟩ K:=by
 have sf:=o3
 have s9:bk 9=true:=rfl
 have s2:bk 2=true:=rfl
 have s10:bk 10=true:=rfl
 have s5:bk 5=true:=rfl
 have s12:bk 12=true:=rfl
 have s11:bk 11=true:=rfl
 match is,hl with
 | [],_=>
  show bz ⟨[(0,.fro [])],[],0⟩ K
  rw [c0]; exact h [9,2,10,5,12,11] [] rfl (by simp [*])
 | [a],_=>
  show bz ⟨[(0,.fro [.int a])],[],0⟩ K
  rw [c1]; exact h [Int.fmod a 1000000,9,2,10,5,12] _ rfl (by simp [*])
 | [a,b],_=>
  show bz ⟨[(0,.fro [.int a,.int b])],[],0⟩ K
  rw [c2]; exact h [Int.fmod a 1000000,Int.fmod b 1000000,9,2,10,5] _ rfl (by simp [*])
 | [a,b,c],_=>
  show bz ⟨[(0,.fro [.int a,.int b,.int c])],[],0⟩ K
  rw [c3]; exact h [Int.fmod a 1000000,Int.fmod b 1000000,Int.fmod c 1000000,9,2,10] _ rfl (by simp [*])
 | [a,b,c,d],_=>
  show bz ⟨[(0,.fro [.int a,.int b,.int c,.int d])],[],0⟩ K
  rw [c4]; exact h [Int.fmod a 1000000,Int.fmod b 1000000,Int.fmod c 1000000,Int.fmod d 1000000,9,2] _ rfl (by simp [*])
 | [a,b,c,d,e],_=>
  show bz ⟨[(0,.fro [.int a,.int b,.int c,.int d,.int e])],[],0⟩ K
  rw [c5]; exact h [Int.fmod a 1000000,Int.fmod b 1000000,Int.fmod c 1000000,Int.fmod d 1000000,Int.fmod e 1000000,9] _ rfl (by simp [*])
 | a::b::c::d::e::f::r,hl=>
  show bz ⟨[(0,.fro (.int a::.int b::.int c::.int d::.int e::.int f::r.map .int))],[],0⟩ K
  rw [c6]
  refine cM (by simpa using hl) ?_
  exact h [Int.fmod a 1000000,Int.fmod b 1000000,Int.fmod c 1000000,Int.fmod d 1000000,Int.fmod e 1000000,Int.fmod f 1000000] _ rfl (by simp [*])
theorem ko {i:Nat} {σ:St} {v:V} {Q:V→St→Prop} (h:aq i σ.lo=some v) (q:Q v σ):gi i σ Q:=by unfold gi; rw [h]; exact q
theorem IL (sv:V) (cs:List Int) (xs:List V) (K:Fl→St→Prop) (hl:cs.length=6) (hs:∀ c∈cs,bk c=true)
  (h:∀ path,fA [] path→path.length=6→K .next (c9 3 (.fro (xq path)) (c9 2 (.fro (G7 path)) (vG sv (cs.map .int) xs)))):i8 (vG sv (cs.map .int) xs) K:=by
 unfold i8 jK f6 ja i7
 dsimp only
 refine ko (v:=.fro (cs.map .int)) rfl ?_
 exact ⟨cs,rfl,rfl,hl,hs,fun path hv hp=>h path hv hp⟩
theorem w3 (sv:V) (cs xs:List V) (K:Fl→St→Prop) (path:j0) (hv:fA [] path) (hp:path.length=6)
  (h:K .next (KM sv (.fro (xq path)) cs xs (G7 path))):i9 (c9 3 (.fro (xq path)) (c9 2 (.fro (G7 path)) (vG sv cs xs))) K:=by
 unfold i9 jL f6 ja i7
 dsimp only
 refine ko (v:=.fro (xq path)) rfl ?_
 exact ⟨path,hv,hp,rfl,rfl,h⟩
noncomputable def kT:Prop:=∀ path,fA [] path→path.length=6→∀ (sv lv:V) (cs xs:List V) (P:V→Prop),gq (KM sv lv cs xs (G7 path)) (gQ P)=P (.boo true)
theorem CS (H:kT) (is:List Int) (hl:is.length≤1000000) (P:V→Prop) (hP:P (.boo true)):lC.1 ⟨[(0,.fro (is.map .int))],[],0⟩ (gQ P):=by
 rw [t7]
 refine sH is hl _ fun cs xs hc hs=>?_
 refine IL _ cs xs _ hc hs fun path hv hp=>?_
 refine w3 _ _ xs _ path hv hp ?_
 show gq _ _
 rw [H path hv hp]
 exact hP
theorem CR (P:Params):nsIn (KK P) mainGlobals (Str.ofString "law")=some (some (.ref 450)):=by kernel_rfl
theorem HG (i:Nat) (x:Str) (h:cD[i]?=some x):J5[i]?=some x:=by
 have hi:i<5:=by have:=(List.getElem?_eq_some_iff.mp h).1; rw [iw] at this; exact this
 match i,hi,h with
 | 0,_,h=>rw [← h]; rfl
 | 1,_,h=>rw [← h]; rfl
 | 2,_,h=>rw [← h]; rfl
 | 3,_,h=>rw [← h]; rfl
 | 4,_,h=>rw [← h]; rfl
theorem zH (F F':Addr→Option Obj) (ps:Array Value) (h:∀ a o,F a=some o→Obj.loose o=false→F' a=some o) (t:GO F ps):GO F' ps:=by
 rcases t with e | ⟨c',o,vs,t,e,h1,h2,h3,h4⟩
 ·exact .inl e
 ·refine .inr ⟨c',o,vs,t,e,h _ _ h1 ?_,h2,h3,h4⟩
  unfold Obj.loose
  rw [h3]
  dsimp only
  rw [h2]
  decide
theorem Il {w:World} {h:Heap} {mg mb:Str→Option Value} {os:OsState} {dr:Drawn} {gn:Array GenState→Prop} {hp:Addr→Option Obj} (KX:(KK w.params).In h) (hg:h.Ns mainGlobals mg) (hb:h.Ns builtinsNs mb) (hn:h.NoLimit) (hbt:∀ x:Str,x≠"__name__"→mb x=bootBuiltins x)
  (hm:∃ bm ob,mg "__builtins__"=some (.ref bm)∧bm≠builtinsNs∧h.get? bm=some ob∧ob.cls=.type "module"∧ob.dict=some builtinsNs∧ob.data=.plain) (hT:h.get? 344=some (tabObj #[])):(Gk ⟨w,h,mb,os,dr,gn,hp⟩).Ok:=by
 refine ⟨KX,by kernel_rfl,hn,(by decide:(344:Nat)≠cStatics),(by decide:(344:Nat)≠builtinsNs),(by decide:(344:Nat)≠mainGlobals),hb,?_,hbt,zH,aE (by kernel_rfl),(by decide:J5.length≤1000),HG,?_⟩
 ·obtain ⟨o,_,_,ho,_⟩:=hg; exact ⟨o,ho⟩
 ·apply bc;intro z_
  obtain ⟨bm,ob,h1,h2,h3,h4,h5,h6⟩:=hm
  apply z_;clear z_
  refine ⟨mg,hg,bm,ob,h1,h2,?_,?_,h3,h4,h5,h6⟩
  ·intro e
   apply bc;intro z_
   obtain ⟨o,es,ep,ho,hd,_⟩:=hg
   apply z_;clear z_
   rw [← e,h3] at ho; cases ho
   rw [h6] at hd; cases hd
  ·intro e
   rw [e] at h3
   have h3:h.get? 344=some ob:=h3
   rw [hT] at h3; cases h3; cases h6
theorem tQ {X:Wd}:∀ {vals:List Value} {is:List Int},IntsAre vals is→RepVs X 0 (is.map V.int) vals:=by
 intro vals is h
 induction h with
 | nil=>exact .nil
 | cons=>exact .cons (.int _ _) (by assumption)
theorem xk (H:kT) {w:World} {s1:Shared} {mg mb:Str→Option Value} {is:List Int} {a:Addr} {vals:List Value} {R':Result→Shared→Prop} (KX:(KK w.params).In s1.heap) (hg:s1.heap.Ns mainGlobals mg) (hb:s1.heap.Ns builtinsNs mb) (hn:s1.heap.NoLimit) (hbt:∀ x:Str,x≠"__name__"→mb x=bootBuiltins x)
  (hm:∃ bm ob,mg "__builtins__"=some (.ref bm)∧bm≠builtinsNs∧s1.heap.get? bm=some ob∧ob.cls=.type "module"∧ob.dict=some builtinsNs∧ob.data=.plain) (hT:s1.heap.get? 344=some (tabObj #[])) (hgs:s1.gens=#[])
  (ha:s1.heap.get? a=some {cls:=.type "list",data:=.seq vals.toArray}) (hi:IntsAre vals is) (hl:is.length≤63)
  (k:∀ s',OldK s1.heap s'.heap→s'.os=s1.os→AllBare s'.gens→R' (.ok (.ret (.bool true))) s'):codeAny (model jJ w) callerA (.call (.ref 450) ⟨[.ref a],[]⟩) R' s1:=by
 have ok:=Il (os:=s1.os) (dr:=s1.drawn) (gn:=AllBare) (hp:=fun _=>none) KX hg hb hn hbt hm hT
 have ba:Bare ⟨w,s1.heap,mb,s1.os,s1.drawn,AllBare,fun _=>none⟩:=⟨rfl⟩
 refine A7 (sc:=bR) (lv:=6) (db:=lC.1) (x:=Str.ofString "script") (v:=.fro (is.map .int)) (Qf:=gQ (·=.boo true)) ok (D5 _) rfl (lC.2 _ ok ba) rfl hT (.inl rfl) rfl rfl (by show AllBare s1.gens; rw [hgs]; exact fun x h=>by simp at h) rfl ⟨rfl,by decide,by decide⟩ ?_ ?_ (CS H is (by omega) _ rfl) fun fl rv s' σ' X' env' q L R W=>?_
 ·refine .fro _ vals a {cls:=.type "list",data:=.seq vals.toArray} ?_ ⟨rfl,rfl,⟨_,rfl⟩,rfl⟩ (tQ hi)
  show (if a=344 then none else s1.heap.get? a)=_
  rw [LU]; exact ha
  intro e
  rw [e] at ha
  rw [hT] at ha; cases ha
 ·exact Looks.of_peek (K:=KK w.params) KX (by kernel_rfl)
 ·have q:qd fl=.boo true:=q
  rw [q] at W
  cases (W.inv:_=Value.bool true)
  refine k s' ⟨fun b o e=>?_,fun b o e=>?_⟩ R.os R.gens
  ·by_cases hb':b=344
   ·subst hb'
    have e:s1.heap.get? 344=some o:=e
    rw [hT] at e; cases e
    apply bc;intro z_
    obtain ⟨oc,vs,_,_,_,_,_,_,_,h1,h2,h3,h4,_⟩:=(t4 ⟨w,s1.heap,mb,s1.os,s1.drawn,AllBare,fun _=>none⟩).hC s1.heap KX
    apply z_;clear z_
    refine .inr (.inl ⟨⟨346,oc,vs,h1,h2,h3,h4⟩,rfl,#[],X'.tb,rfl,?_⟩)
    rw [Array.empty_append]
    exact R.tab.1
   ·exact .inl (R.sub _ _ (L.F _ _ (by show (if b=344 then none else s1.heap.get? b)=some o; rw [LU hb']; exact e)))
  ·by_cases hb':b=344
   ·subst hb'; exact ⟨_,R.tab.1⟩
   ·exact ⟨o,R.sub _ _ (L.F _ _ (by show (if b=344 then none else s1.heap.get? b)=some o; rw [LU hb']; exact e))⟩
theorem JJ:PySem.Challenge.rw_tp0065_01.row.toRowW.promised:=by w_witness2
set_option tactic.hygienic true in
theorem law_holds (H:kT):PySem.Challenge.rw_tp0065_01.Holds:=by
 refine holds_law KL fun sd=>?_
 refine holds_open (q:=vw) (loose:=Ha) (Xt:=XT) (XP:=XL vw []) (Yf:=Hook.obs HK) (Ya:=Hook.val HK) (YP:=Hook.says HK) (N:=5808) KQ (Hook.of HK) (Hook.keeps HK) (fun s e=>xl_of s (Bool.and_eq_true_iff.mp e).1) XL.keeps (by rfl) (by rfl) (by rfl) (fun s e=>recFacts_of (Bool.and_eq_true_iff.mp e).2) (by rfl) sd (by decide +kernel) ⟨rfl,rfl,rfl,rfl,rfl,by decide +kernel⟩ JJ ?_
 intro w s0 s1 mg mb G Y fa o pm cd doc dV kV ho hd hcd hD hmg hg args vals as hpre hlay hrd hwl hlo
 have hf:mg (Str.ofString "law")=some (.ref fa):=hmg
 clear ho hd hcd hD hmg
 have KX:=km_in_of Y
 have TX:=km_tabs_of Y 344 (by simp)
 have T:=G.T
 clear Y G
 have ef:fa=450:=by
  have:=mg_of KX T.g (CR w.params)
  rw [hf] at this; cases this; rfl
 subst ef
 wrow_args hpre hlay hrd hwl hlo
 all_goals (
  rename_i is _ _ _ _ _ _ _ a vs _ hL ra w1 r0 hI _ hc _
  refine wpAny_call (codeAny_mono (xk H (is:=is) (a:=a) (vals:=vs) (R':=fun r s'=>r=.ok (.ret (.bool true))∧OldK s1.heap s'.heap∧s'.os=s1.os∧AllBare s'.gens) KX T.g T.b T.nolimit T.builtins T.bmain TX hg ?_ hI (by omega) fun s' h1 h2 h3=>⟨rfl,h1,h2,h3⟩) fun r s' ⟨e,h1,h2,h3⟩=>?_)
  ·apply bc;intro z_
   obtain ⟨o',ho',_,ep,hd'⟩:=hL
   apply z_;clear z_
   cases w1
   rename_i vs2 h2 _
   rw [h2] at ho'
   cases ho'
   cases hd'
   exact h2
  ·subst e
   exact ⟨.inl ⟨_,.bool true,[],rfl,fun _=>rfl,.bool true,(by wrow_post),fun _=>⟨.nil,fun _ h=>nomatch h⟩⟩,h1,h2,h3⟩)
noncomputable abbrev Lh:=V→V→List V→List V→(V→Prop)→Prop
noncomputable def dY (ds:List Nat):Lh:=fun sv lv cs xs P=>gq (KM sv lv cs xs (ds.map vI)) (gQ P)
noncomputable def dZ (ds:List Nat):Lh:=fun sv lv cs xs P=>P (.boo true)
noncomputable def rt:Nat→List Nat
 | 0=>[0]
 | n+1=>rt n++[n+1]
noncomputable def bU (p:List Nat) (d:Nat):List (List Nat):=(rt (d+1)).flatMap fun i=>(rt (i+1)).map fun j=>p++[i,j]
theorem gS:∀ {n i:Nat},i≤n→i∈rt n
 | 0,i,h=>by rw [Nat.le_zero.mp h]; exact List.mem_singleton.mpr rfl
 | n+1,i,h=>by
  show i∈rt n++[n+1]
  rcases Nat.le_succ_iff.mp h with h | h
  ·exact Me _ (gS h)
  ·exact Mf _ (List.mem_singleton.mpr h)
theorem xu {p:List Nat} {d i j:Nat} (h1:i≤d+1) (h2:j≤i+1):p++[i,j]∈bU p d:=List.mem_flatMap.mpr ⟨i,gS h1,List.mem_map.mpr ⟨j,gS h2,rfl⟩⟩
theorem yQ:aH dY (bU [0,0,0,0,0] 0)=aI dZ (bU [0,0,0,0,0] 0):=by kernel_rfl
theorem yR:aH dY (bU [0,0,0,0,1] 1)=aI dZ (bU [0,0,0,0,1] 1):=by kernel_rfl
theorem yS:aH dY (bU [0,0,0,1,0] 0)=aI dZ (bU [0,0,0,1,0] 0):=by kernel_rfl
theorem yT:aH dY (bU [0,0,0,1,1] 1)=aI dZ (bU [0,0,0,1,1] 1):=by kernel_rfl
theorem yU:aH dY (bU [0,0,0,1,2] 2)=aI dZ (bU [0,0,0,1,2] 2):=by kernel_rfl
theorem yV:aH dY (bU [0,0,1,0,0] 0)=aI dZ (bU [0,0,1,0,0] 0):=by kernel_rfl
theorem yW:aH dY (bU [0,0,1,0,1] 1)=aI dZ (bU [0,0,1,0,1] 1):=by kernel_rfl
theorem yX:aH dY (bU [0,0,1,1,0] 0)=aI dZ (bU [0,0,1,1,0] 0):=by kernel_rfl
theorem yY:aH dY (bU [0,0,1,1,1] 1)=aI dZ (bU [0,0,1,1,1] 1):=by kernel_rfl
theorem yZ:aH dY (bU [0,0,1,1,2] 2)=aI dZ (bU [0,0,1,1,2] 2):=by kernel_rfl
theorem y0:aH dY (bU [0,0,1,2,0] 0)=aI dZ (bU [0,0,1,2,0] 0):=by kernel_rfl
theorem y3:aH dY (bU [0,0,1,2,1] 1)=aI dZ (bU [0,0,1,2,1] 1):=by kernel_rfl
theorem y4:aH dY (bU [0,0,1,2,2] 2)=aI dZ (bU [0,0,1,2,2] 2):=by kernel_rfl
theorem y5:aH dY (bU [0,0,1,2,3] 3)=aI dZ (bU [0,0,1,2,3] 3):=by kernel_rfl
theorem y6:aH dY (bU [0,1,0,0,0] 0)=aI dZ (bU [0,1,0,0,0] 0):=by kernel_rfl
theorem y7:aH dY (bU [0,1,0,0,1] 1)=aI dZ (bU [0,1,0,0,1] 1):=by kernel_rfl
theorem y8:aH dY (bU [0,1,0,1,0] 0)=aI dZ (bU [0,1,0,1,0] 0):=by kernel_rfl
theorem y9:aH dY (bU [0,1,0,1,1] 1)=aI dZ (bU [0,1,0,1,1] 1):=by kernel_rfl
theorem za:aH dY (bU [0,1,0,1,2] 2)=aI dZ (bU [0,1,0,1,2] 2):=by kernel_rfl
theorem zb:aH dY (bU [0,1,1,0,0] 0)=aI dZ (bU [0,1,1,0,0] 0):=by kernel_rfl
theorem zd:aH dY (bU [0,1,1,0,1] 1)=aI dZ (bU [0,1,1,0,1] 1):=by kernel_rfl
theorem ze:aH dY (bU [0,1,1,1,0] 0)=aI dZ (bU [0,1,1,1,0] 0):=by kernel_rfl
theorem zf:aH dY (bU [0,1,1,1,1] 1)=aI dZ (bU [0,1,1,1,1] 1):=by kernel_rfl
theorem zg:aH dY (bU [0,1,1,1,2] 2)=aI dZ (bU [0,1,1,1,2] 2):=by kernel_rfl
theorem zh:aH dY (bU [0,1,1,2,0] 0)=aI dZ (bU [0,1,1,2,0] 0):=by kernel_rfl
theorem zi:aH dY (bU [0,1,1,2,1] 1)=aI dZ (bU [0,1,1,2,1] 1):=by kernel_rfl
theorem zj:aH dY (bU [0,1,1,2,2] 2)=aI dZ (bU [0,1,1,2,2] 2):=by kernel_rfl
theorem zk:aH dY (bU [0,1,1,2,3] 3)=aI dZ (bU [0,1,1,2,3] 3):=by kernel_rfl
theorem zl:aH dY (bU [0,1,2,0,0] 0)=aI dZ (bU [0,1,2,0,0] 0):=by kernel_rfl
theorem zm:aH dY (bU [0,1,2,0,1] 1)=aI dZ (bU [0,1,2,0,1] 1):=by kernel_rfl
theorem zn:aH dY (bU [0,1,2,1,0] 0)=aI dZ (bU [0,1,2,1,0] 0):=by kernel_rfl
theorem zo:aH dY (bU [0,1,2,1,1] 1)=aI dZ (bU [0,1,2,1,1] 1):=by kernel_rfl
theorem zp:aH dY (bU [0,1,2,1,2] 2)=aI dZ (bU [0,1,2,1,2] 2):=by kernel_rfl
theorem zq:aH dY (bU [0,1,2,2,0] 0)=aI dZ (bU [0,1,2,2,0] 0):=by kernel_rfl
theorem zr:aH dY (bU [0,1,2,2,1] 1)=aI dZ (bU [0,1,2,2,1] 1):=by kernel_rfl
theorem zs:aH dY (bU [0,1,2,2,2] 2)=aI dZ (bU [0,1,2,2,2] 2):=by kernel_rfl
theorem zt:aH dY (bU [0,1,2,2,3] 3)=aI dZ (bU [0,1,2,2,3] 3):=by kernel_rfl
theorem zu:aH dY (bU [0,1,2,3,0] 0)=aI dZ (bU [0,1,2,3,0] 0):=by kernel_rfl
theorem zv:aH dY (bU [0,1,2,3,1] 1)=aI dZ (bU [0,1,2,3,1] 1):=by kernel_rfl
theorem zw:aH dY (bU [0,1,2,3,2] 2)=aI dZ (bU [0,1,2,3,2] 2):=by kernel_rfl
theorem zx:aH dY (bU [0,1,2,3,3] 3)=aI dZ (bU [0,1,2,3,3] 3):=by kernel_rfl
theorem zy:aH dY (bU [0,1,2,3,4] 4)=aI dZ (bU [0,1,2,3,4] 4):=by kernel_rfl
noncomputable def H1 (l:List (List Nat×Nat)):List (List Nat×Nat):=l.flatMap fun p=>(rt (p.2+1)).map fun i=>(p.1++[i],i)
theorem iZ {l:List (List Nat×Nat)} {p:List Nat} {d i:Nat} (h:(p,d)∈l) (hi:i≤d+1):(p++[i],i)∈H1 l:=List.mem_flatMap.mpr ⟨_,h,List.mem_map.mpr ⟨i,gS hi,rfl⟩⟩
theorem GG:∀ p∈H1 (H1 (H1 (H1 [([0],0)]))),aH dY (bU p.1 p.2)=aI dZ (bU p.1 p.2):=by
 show ∀ p∈[([0,0,0,0,0],0),([0,0,0,0,1],1),([0,0,0,1,0],0),([0,0,0,1,1],1),([0,0,0,1,2],2),([0,0,1,0,0],0),([0,0,1,0,1],1),([0,0,1,1,0],0),([0,0,1,1,1],1),([0,0,1,1,2],2),([0,0,1,2,0],0),([0,0,1,2,1],1),([0,0,1,2,2],2),([0,0,1,2,3],3),([0,1,0,0,0],0),([0,1,0,0,1],1),([0,1,0,1,0],0),([0,1,0,1,1],1),([0,1,0,1,2],2),([0,1,1,0,0],0),([0,1,1,0,1],1),([0,1,1,1,0],0),([0,1,1,1,1],1),([0,1,1,1,2],2),([0,1,1,2,0],0),([0,1,1,2,1],1),([0,1,1,2,2],2),([0,1,1,2,3],3),([0,1,2,0,0],0),([0,1,2,0,1],1),([0,1,2,1,0],0),([0,1,2,1,1],1),([0,1,2,1,2],2),([0,1,2,2,0],0),([0,1,2,2,1],1),([0,1,2,2,2],2),([0,1,2,2,3],3),([0,1,2,3,0],0),([0,1,2,3,1],1),([0,1,2,3,2],2),([0,1,2,3,3],3),([0,1,2,3,4],4)],aH dY (bU p.1 p.2)=aI dZ (bU p.1 p.2)
 exact List.forall_mem_cons.mpr ⟨yQ,List.forall_mem_cons.mpr ⟨yR,List.forall_mem_cons.mpr ⟨yS,List.forall_mem_cons.mpr ⟨yT,List.forall_mem_cons.mpr ⟨yU,List.forall_mem_cons.mpr ⟨yV,List.forall_mem_cons.mpr ⟨yW,List.forall_mem_cons.mpr ⟨yX,List.forall_mem_cons.mpr ⟨yY,List.forall_mem_cons.mpr ⟨yZ,List.forall_mem_cons.mpr ⟨y0,List.forall_mem_cons.mpr ⟨y3,List.forall_mem_cons.mpr ⟨y4,List.forall_mem_cons.mpr ⟨y5,List.forall_mem_cons.mpr ⟨y6,List.forall_mem_cons.mpr ⟨y7,List.forall_mem_cons.mpr ⟨y8,List.forall_mem_cons.mpr ⟨y9,List.forall_mem_cons.mpr ⟨za,List.forall_mem_cons.mpr ⟨zb,List.forall_mem_cons.mpr ⟨zd,List.forall_mem_cons.mpr ⟨ze,List.forall_mem_cons.mpr ⟨zf,List.forall_mem_cons.mpr ⟨zg,List.forall_mem_cons.mpr ⟨zh,List.forall_mem_cons.mpr ⟨zi,List.forall_mem_cons.mpr ⟨zj,List.forall_mem_cons.mpr ⟨zk,List.forall_mem_cons.mpr ⟨zl,List.forall_mem_cons.mpr ⟨zm,List.forall_mem_cons.mpr ⟨zn,List.forall_mem_cons.mpr ⟨zo,List.forall_mem_cons.mpr ⟨zp,List.forall_mem_cons.mpr ⟨zq,List.forall_mem_cons.mpr ⟨zr,List.forall_mem_cons.mpr ⟨zs,List.forall_mem_cons.mpr ⟨zt,List.forall_mem_cons.mpr ⟨zu,List.forall_mem_cons.mpr ⟨zv,List.forall_mem_cons.mpr ⟨zw,List.forall_mem_cons.mpr ⟨zx,List.forall_mem_cons.mpr ⟨zy,fun _ h=>nomatch h⟩⟩⟩⟩⟩⟩⟩⟩⟩⟩⟩⟩⟩⟩⟩⟩⟩⟩⟩⟩⟩⟩⟩⟩⟩⟩⟩⟩⟩⟩⟩⟩⟩⟩⟩⟩⟩⟩⟩⟩⟩⟩
theorem GF {a b c d e f:Nat} (h1:a≤1) (h2:b≤a+1) (h3:c≤b+1) (h4:d≤c+1) (h5:e≤d+1) (h6:f≤e+1):dY [0,a,b,c,d,e,f]=dZ [0,a,b,c,d,e,f]:=
 aF (GG ([0,a,b,c,d],d) (iZ (iZ (iZ (iZ (List.mem_singleton_self _) h1) h2) h3) h4)) _ (xu (p:=[0,a,b,c,d]) h5 h6)
theorem eB {α:Type} {l:List α} {n:Nat} (h:l.length=n+1):∃ a r,l=a::r∧r.length=n:=by
 cases l with
 | nil=>cases h
 | cons a r=>exact ⟨a,r,rfl,Nat.succ.inj h⟩
theorem rest_ok:kT:=by
 intro path hv hp sv lv cs xs P
 obtain ⟨⟨a,k1⟩,_,rfl,p0⟩:=eB hp
 obtain ⟨⟨b,k2⟩,_,rfl,p1⟩:=eB p0
 obtain ⟨⟨c,k3⟩,_,rfl,p2⟩:=eB p1
 obtain ⟨⟨d,k4⟩,_,rfl,p3⟩:=eB p2
 obtain ⟨⟨e,k5⟩,_,rfl,p4⟩:=eB p3
 obtain ⟨⟨f,k6⟩,_,rfl,p5⟩:=eB p4
 cases List.length_eq_zero_iff.mp p5
 obtain ⟨h1,_,h2,_,h3,_,h4,_,h5,_,h6,_,_⟩:=hv
 have e1:=dW (b:=[]) (k:=k1) h1
 have e2:=dW (k:=k2) h2
 have e3:=dW (k:=k3) h3
 have e4:=dW (k:=k4) h4
 have e5:=dW (k:=k5) h5
 rw [e1] at h2
 rw [e2] at h3
 rw [e3] at h4
 rw [e4] at h5
 rw [e5] at h6
 exact Mt (Mt (Mt (Mt (Mt (GF h1 h2 h3 h4 h5 h6) sv) lv) cs) xs) P
end
end Mine
theorem PySem.Challenge.cw_tp0065_01_holds : PySem.Challenge.rw_tp0065_01.Holds :=
  Mine.law_holds Mine.rest_ok
