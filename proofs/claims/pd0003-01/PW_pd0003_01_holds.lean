import PyProof.Rows.All
import Wide.All
import OpenK.AllK
import Wide.FinOn
import PySem.Challenge.RW_pd0003_01
set_option Elab.async false
set_option maxRecDepth 100000
set_option linter.unusedVariables false
namespace Mine
open PySem PySem.W PySem.Calls PyProof.Rows PySem.Spec
abbrev PG : Program := PySem.Challenge.pw_pd0003_01
noncomputable def topSt (n : Nat) : Stmt := PG.main.body.getD n (.Pass ⟨0, 0, 0, 0⟩)
noncomputable def bodyOf : Stmt → List Stmt
  | .FunctionDef _ _ b _ _ _ _ _ _ _ => b
  | .ClassDef _ _ _ b _ _ _ _ _ _ _ => b
  | _ => []
noncomputable def scopeOf : Stmt → Scope
  | .FunctionDef _ _ _ _ _ _ sc _ _ _ => sc
  | _ => default
noncomputable def parOf : Stmt → Arguments
  | .FunctionDef _ a _ _ _ _ _ _ _ _ => a
  | _ => default
noncomputable def nameOf : Stmt → Str
  | .FunctionDef n _ _ _ _ _ _ _ _ _ => n
  | _ => default
noncomputable def memSt (n k : Nat) : Stmt := (bodyOf (topSt n)).getD k (.Pass ⟨0, 0, 0, 0⟩)
noncomputable def nth (ss : List Stmt) (i : Nat) : Stmt := ss.getD i (.Pass ⟨0, 0, 0, 0⟩)
noncomputable def vr (a : Nat) : Value := .ref a
noncomputable def vs (x : String) (t : Nat) : Value := .str (Str.ofString x) t
noncomputable def vI (i t : Nat) : Value := .int (.ofNat i) t
noncomputable def vi (i : Nat) : Value := .int (.ofNat i) 0
noncomputable def vb (b : Bool) : Value := .bool b
noncomputable def vn : Value := .none
noncomputable def vt (x : String) : Value := .type x
noncomputable def vB (x : String) : Value := .builtin x
noncomputable def en (P : Params) (k : String) (t : Nat) (v : Value) : DictEntry := ⟨PyData.keyHash P (Str.ofString k), .str (Str.ofString k) t, v⟩
noncomputable def oE : Obj := ⟨.type "tuple", none, .seq #[] 0, #[]⟩
noncomputable def oG : Obj := ⟨.none, none, .fields #[], #[]⟩
noncomputable def oT (l : List Value) : Obj := ⟨.type "tuple", none, .seq ⟨l⟩ 0, #[]⟩
noncomputable def oF (l : List Value) : Obj := ⟨.none, none, .fields ⟨l⟩, #[]⟩
noncomputable def oC (l : List Value) : Obj := ⟨.type "code", none, .fields ⟨l⟩, #[]⟩
noncomputable def oN (f : FuncData) : Obj := ⟨.none, none, .func f, #[]⟩
noncomputable def oU (f : FuncData) : Obj := ⟨.type "function", none, .func f, #[]⟩
noncomputable def oD (l : List DictEntry) (n : Nat) : Obj := ⟨.type "dict", none, .dict ⟨l⟩ n, #[]⟩
noncomputable def oK (n q : String) (t line a b c fl r0 : Nat) (bb : Bool) (r1 : Nat) (x y z u : Value) (t2 : Nat) : Obj :=
  oC [vs n t, vs q (t + 1), vs "/claim/cut.py" (t + 2), vi line, vi a, vi b, vi c, vi fl, vr r0, vb bb, vi 318, vr r1, x, y, z, u, vi t2, vi line, vs "/claim/cut.py" (t2 + 1)]
noncomputable def fnB (st : Stmt) (q : String) : FuncData := { name := nameOf st, qualname := Str.ofString q, params := parOf st, body := .stmts (bodyOf st), scope := scopeOf st, globals := 0, closure := [], defaults := .none, kwdefaults := .none }
noncomputable def strsAt : Nat → List String → List Value
  | _, [] => []
  | t, x :: r => vs x t :: strsAt (t + 1) r
noncomputable def k7 (b t ln : Nat) (st : Stmt) (q : String) (a1 a2 a3 fl : Nat) (ns : List String) : Obj :=
  oC [.str (nameOf st) t, vs q (t + 1), vs "/claim/cut.py" (t + 2), vi ln, vi a1, vi a2, vi a3, vi fl, vr b, vb true, vi 318, vr (b + 1), vn, vr (b + 2), vr (b + 3), vr (b + 4), vi (t + 3 + ns.length), vi ln, vs "/claim/cut.py" (t + 4 + ns.length)]
noncomputable def f7 (b : Nat) (st : Stmt) (q : String) (df md : Value) : Obj := oU { fnB st q with globals := 3, defaults := df, pyModule := md, code := vr (b + 5) }
noncomputable def d7 (b t ln : Nat) (st : Stmt) (q : String) (a1 a2 a3 fl : Nat) (ns : List String) (df md : Value) (r : List Obj) : List Obj :=
  oE :: oG :: oT (strsAt (t + 3) ns) :: oE :: oN (fnB st q) :: k7 b t ln st q a1 a2 a3 fl ns :: f7 b st q df md :: r
noncomputable def md0 : Value := (vs "__main__" 164)
noncomputable def md1 : Value := (vs "os" 331)
noncomputable def md2 : Value := (vs "abc" 342)
noncomputable def md3 : Value := (vs "collections.abc" 368)
noncomputable def md4 : Value := (vs "os" 418)
noncomputable def md5 : Value := (vs "cpy313.genericpath" 430)
noncomputable def md6 : Value := (vs "cpy313.posixpath" 444)
noncomputable def md7 : Value := (vs "io" 529)
noncomputable def md8 : Value := (vs "os.path" 1186)
noncomputable def md9 : Value := (vs "cpy313.shlex" 1246)
noncomputable def md10 : Value := (vs "law_pd0003_01" 1406)
noncomputable def ob156 (P : Params) : Obj :=
  oT [(vi 14), (vi 17), (vi 4), (vi 1), (vi 1), (vi 21), (vi 9), (vi 0), (vi 604043296), (vi 1), (vi 0), (vi 0), (vi 0), (vi 0), (vi 0), (vi 8), (vi 4), (vi 0), (vi 13), (vi 14), (vi 21), (vi 9), (vi 0), (vi 604043296), (vi 1), (vi 0), (vi 0), (vi 0), (vi 0), (vi 0), (vi 8), (vi 4), (vi 0), (vi 1)]
noncomputable def ob157 (P : Params) : Obj :=
  ⟨(vt "re.Pattern"), none, (.fields ⟨[(vs "[^\\w@%+=:,./-]" 490), (vI 256 527), (vi 0), vn, vn, (vr 156), (vi 0)]⟩), #[]⟩
noncomputable def ob200 (P : Params) : Obj :=
  oD [en P "__module__" 576 (vs "io" 581), en P "__firstlineno__" 580 (vI 145 579), en P "__new__" 591 (vr 202), en P "__static_attributes__" 592 (vr 199), en P "__dict__" 595 (vr 203), en P "__weakref__" 597 (vr 204), en P "__doc__" 598 vn] 4
noncomputable def ob201 (P : Params) : Obj :=
  ⟨(vt "type"), none, (.cls ⟨"IOBase", [(vt "object")], [(vr 201), (vt "object")], 200, "IOBase", true, [], [(vr 216), (vr 228)], false, none, false⟩), #[none, none, some (vs "IOBase" 569), some (vs "IOBase" 577), some vn, some (vb true)]⟩
noncomputable def ob202 (P : Params) : Obj :=
  ⟨(vt "staticmethod"), none, (.fields ⟨[(vr 198)]⟩), #[]⟩
noncomputable def ob203 (P : Params) : Obj :=
  ⟨(vt "getset_descriptor"), none, (.fields ⟨[(vs "__dict__" 594), (vr 201), (vB "function.__dict__"), (vB "function.__dict__#set")]⟩), #[]⟩
noncomputable def ob215 (P : Params) : Obj :=
  oD [en P "__module__" 608 (vs "io" 613), en P "__firstlineno__" 612 (vI 152 611), en P "__static_attributes__" 615 (vr 214), en P "__doc__" 616 vn] 2
noncomputable def ob227 (P : Params) : Obj :=
  oD [en P "__module__" 626 (vs "io" 631), en P "__firstlineno__" 630 (vI 154 629), en P "__static_attributes__" 633 (vr 226), en P "__doc__" 634 vn] 2
noncomputable def ob457 (P : Params) : Obj :=
  oD [en P "__module__" 644 (vs "_io" 649), en P "__firstlineno__" 648 (vI 156 647), en P "__init__" 658 (vr 245), en P "_BytesIO__check" 665 (vr 252), en P "_BytesIO__line" 676 (vr 259), en P "closed" 684 (vr 267), en P "close" 691 (vr 274), en P "__enter__" 698 (vr 281), en P "__exit__" 706 (vr 288), en P "readable" 713 (vr 295), en P "writable" 720 (vr 302), en P "seekable" 727 (vr 309), en P "isatty" 734 (vr 316), en P "flush" 741 (vr 323), en P "fileno" 748 (vr 330), en P "detach" 755 (vr 337), en P "getvalue" 762 (vr 344), en P "getbuffer" 769 (vr 351), en P "tell" 776 (vr 358), en P "seek" 786 (vr 366), en P "truncate" 794 (vr 374), en P "read" 806 (vr 382), en P "read1" 816 (vr 390), en P "readinto" 826 (vr 397), en P "readinto1" 834 (vr 404), en P "readline" 844 (vr 412), en P "readlines" 852 (vr 420), en P "__iter__" 859 (vr 427), en P "__next__" 867 (vr 434), en P "write" 877 (vr 441), en P "writelines" 885 (vr 448), en P "__repr__" 892 (vr 455), en P "__static_attributes__" 895 (vr 456), en P "__doc__" 896 vn] 2
noncomputable def ob458 (P : Params) : Obj :=
  ⟨(vt "type"), none, (.cls ⟨"BytesIO", [(vr 216)], [(vr 458), (vr 216), (vr 201), (vt "object")], 457, "BytesIO", true, [], [], false, none, false⟩), #[some (vr 231), none, some (vs "BytesIO" 637), some (vs "BytesIO" 645), some vn, some (vb true)]⟩
noncomputable def ob468 (P : Params) : Obj :=
  oT [(vs "" 913), (vs "\n" 914)]
noncomputable def ob644 (P : Params) : Obj :=
  oT [(Value.int (.negSucc 0) 1106)]
noncomputable def ob704 (P : Params) : Obj :=
  oD [en P "__module__" 906 (vs "_io" 911), en P "__firstlineno__" 910 (vI 326 909), en P "__init__" 923 (vr 475), en P "_StringIO__translated" 932 (vr 482), en P "_StringIO__check" 939 (vr 489), en P "_StringIO__check_dot" 946 (vr 496), en P "_StringIO__line" 961 (vr 503), en P "closed" 969 (vr 511), en P "line_buffering" 977 (vr 519), en P "newlines" 985 (vr 527), en P "encoding" 993 (vr 535), en P "errors" 1001 (vr 543), en P "close" 1008 (vr 550), en P "__enter__" 1015 (vr 557), en P "__exit__" 1023 (vr 564), en P "readable" 1030 (vr 571), en P "writable" 1037 (vr 578), en P "seekable" 1044 (vr 585), en P "isatty" 1051 (vr 592), en P "flush" 1058 (vr 599), en P "fileno" 1065 (vr 606), en P "detach" 1072 (vr 613), en P "getvalue" 1079 (vr 620), en P "tell" 1086 (vr 627), en P "seek" 1096 (vr 635), en P "truncate" 1104 (vr 643), en P "read" 1116 (vr 651), en P "readline" 1126 (vr 659), en P "readlines" 1136 (vr 667), en P "__iter__" 1143 (vr 674), en P "__next__" 1151 (vr 681), en P "write" 1163 (vr 688), en P "writelines" 1171 (vr 695), en P "__repr__" 1178 (vr 702), en P "__static_attributes__" 1182 (vr 703), en P "__doc__" 1183 vn] 2
noncomputable def ob705 (P : Params) : Obj :=
  ⟨(vt "type"), none, (.cls ⟨"StringIO", [(vr 228)], [(vr 705), (vr 228), (vr 201), (vt "object")], 704, "StringIO", true, [], [], false, none, false⟩), #[some (vr 461), none, some (vs "StringIO" 899), some (vs "StringIO" 907), some vn, some (vb true)]⟩
noncomputable def ob757 (P : Params) : Obj :=
  oT [vn, vn, (vb false), (vb false)]
noncomputable def ob772 (P : Params) : Obj :=
  ⟨(vt "property"), none, (.fields ⟨[(vr 771), vn, vn, vn, (vs "punctuation_chars" 1279), (vb false)]⟩), #[]⟩
noncomputable def ob839 (P : Params) : Obj :=
  oD [en P "__module__" 1255 (vs "cpy313.shlex" 1246), en P "__firstlineno__" 1259 (vI 597 1258), en P "__init__" 1271 (vr 764), en P "punctuation_chars" 1279 (vr 772), en P "push_token" 1287 (vr 779), en P "push_source" 1296 (vr 787), en P "pop_source" 1303 (vr 794), en P "get_token" 1315 (vr 801), en P "read_token" 1326 (vr 808), en P "sourcehook" 1334 (vr 815), en P "error_leader" 1343 (vr 823), en P "__iter__" 1350 (vr 830), en P "__next__" 1358 (vr 837), en P "__static_attributes__" 1379 (vr 838), en P "__dict__" 1381 (vr 841), en P "__weakref__" 1383 (vr 842), en P "__doc__" 1384 vn] 4
noncomputable def ob840 (P : Params) : Obj :=
  ⟨(vt "type"), none, (.cls ⟨"shlex", [(vt "object")], [(vr 840), (vt "object")], 839, "shlex", true, [], [], false, none, false⟩), #[none, none, some (vs "shlex" 1248), some (vs "shlex" 1256), some (vB "object.__new__"), some (vb true)]⟩
noncomputable def ob841 (P : Params) : Obj :=
  ⟨(vt "getset_descriptor"), none, (.fields ⟨[(vs "__dict__" 1380), (vr 840), (vB "function.__dict__"), (vB "function.__dict__#set")]⟩), #[]⟩
noncomputable def ob842 (P : Params) : Obj :=
  ⟨(vt "getset_descriptor"), none, (.fields ⟨[(vs "__weakref__" 1382), (vr 840), (vB "ExceptionGroup.__weakref__"), vn]⟩), #[]⟩
noncomputable def ob845 (P : Params) : Obj :=
  oT [(vb false), (vb true)]
noncomputable def ob853 (P : Params) : Obj :=
  ⟨(vt "builtin_function_or_method"), none, (.fields ⟨[(vB "re.Pattern.search"), (vr 157)]⟩), #[]⟩
noncomputable def ob885 (P : Params) : Obj :=
  oK "_law_text" "_law_text" 1453 921 1 0 0 3 882 true 883 vn vn vn (vr 884) 1456
noncomputable def ob886 (P : Params) : Obj :=
  oU ({ fnB (topSt 49) "_law_text" with globals := 3, pyModule := (vs "law_pd0003_01" 1406), code := (vr 885) })
noncomputable def ob890 (P : Params) : Obj :=
  oK "law" "law" 1459 926 1 0 0 3 887 true 888 vn vn vn (vr 889) 1462
noncomputable def ob891 (P : Params) : Obj :=
  oU ({ fnB (topSt 50) "law" with globals := 3, pyModule := (vs "law_pd0003_01" 1406), code := (vr 890) })
noncomputable def ob2 (P : Params) (n : Nat) : Obj :=
  ⟨vn, none, .dict ⟨[en P "\x69mport.loaded._sre" 183 (vb true), en P "class._frozen_importlib.BuiltinImporter" 185 (vr 14), en P "watched.\x69mport" 206 (vr 18), en P "class._frozen_importlib.ModuleSpec" 216 (vr 22), en P "sys.modules.booked-epoch" 245 (vi 4), en P "\x69mport.later-laid._sre" 270 (vb true), en P "watched.library" 272 (vr 27), en P "watched.library-objects" 0 (vs "\x0c\x1e" 0), en P "watched.library-deep._sre" 273 (vs "\x04\x00\x00\x0b\x04\x00\x00\x0b\x04\x00\x00\x03\x04\x00\x00\x0b\x08\x04dict\x02" 0), en P "\x69mport.loaded._collections" 280 (vb true), en P "sys.modules.landed._collections" 294 (vb true), en P "\x69mport.later-laid._collections" 309 (vb true), en P "watched.library-deep._collections" 311 (vs "\x04\x00\x00\x1d\x04\x00\x00\x1d\x04\x00\x00\x03\x04\x00\x00\x1d\x08\x04dict\x02" 0), en P "type.__subclasses__.OSError.0" 565 (vi 181), en P "type.__subclasses__.OSError.n" 566 (vi 1)].take n⟩ n, #[]⟩
noncomputable def ob3 (P : Params) (m : Value) (c j : Nat) (n : Nat) : Obj :=
  oD (en P "__name__" 165 m :: [en P "__doc__" 166 vn, en P "__package__" 167 vn, en P "__loader__" 168 (vB "__main__.__loader__#opaque"), en P "__spec__" 169 vn, en P "__annotations__" 170 (vr 6), en P "__builtins__" 171 (vr 4), en P "__file__" 173 (vs "/claim/cut.py" 172), en P "__cached__" 174 vn, en P "_sre" 275 (vr 12), en P "deque" 317 (vt "collections.deque"), en P "_wall" 330 (vr 44), en P "_plain_name" 341 (vr 51), en P "ABCMeta" 367 (vr 68), en P "_ABCLike" 410 (vr 101), en P "_abc_plain_meta" 417 (vr 110), en P "fspath" 429 (vr 117), en P "_check_arg_types" 442 (vr c), en P "check_arg_types_genericpath" 443 (vr 124), en P "_get_sep" 452 (vr 131), en P "join" 463 (vr j), en P "join_posixpath" 464 (vr 138), en P "splitroot" 473 (vr 145), en P "normpath" 488 (vr 152), en P "_twin_re_1" 528 (vr 157), en P "_whence" 538 (vr 164), en P "_index" 546 (vr 171), en P "UnsupportedOperation" 568 (vr 181), en P "IOBase" 600 (vr 201), en P "BufferedIOBase" 618 (vr 216), en P "TextIOBase" 636 (vr 228), en P "BytesIO" 898 (vr 458), en P "StringIO" 1185 (vr 705), en P "_kind" 1196 (vr 714), en P "_fspath" 1205 (vr 721), en P "check_arg_types_path" 1216 (vr 728), en P "isabs" 1223 (vr 735), en P "join_path" 1235 (vr 742), en P "dirname" 1245 (vr 749), en P "shlex" 1386 (vr 840), en P "split" 1396 (vr 852), en P "_find_unsafe" 1398 (vr 853), en P "quote" 1405 (vr 860), en P "_law_tour" 1429 (vr 867), en P "_law_spell" 1440 (vr 874), en P "_law_line" 1452 (vr 881), en P "_law_text" 1458 (vr 886), en P "law" 1464 (vr 891)].take n) (n + 1)
noncomputable def ob35 (n : Nat) : Obj :=
  oF ([(vi 3), (vi 0), (vr 43), (vi 7), (vi 0), (vr 50), (vi 13), (vi 0), (vr 57), (vi 18), (vi 0), (vr 76), (vi 33), (vi 0), (vr 109), (vi 37), (vi 0), (vr 116), (vi 54), (vi 0), (vr 123), (vi 67), (vi 0), (vr 130), (vi 72), (vi 0), (vr 137), (vi 90), (vi 0), (vr 144), (vi 104), (vi 0), (vr 151), (vi 131), (vi 0), (vr 163), (vi 136), (vi 0), (vr 170), (vi 143), (vi 0), (vr 177), (vi 145), (vi 0), (vr 190), (vi 152), (vi 0), (vr 212), (vi 154), (vi 0), (vr 224), (vi 156), (vi 0), (vr 236), (vi 326), (vi 0), (vr 466), (vi 532), (vi 0), (vr 713), (vi 553), (vi 0), (vr 720), (vi 558), (vi 0), (vr 727), (vi 564), (vi 0), (vr 734), (vi 567), (vi 0), (vr 741), (vi 588), (vi 0), (vr 748), (vi 597), (vi 0), (vr 755), (vi 849), (vi 0), (vr 851), (vi 858), (vi 0), (vr 859), (vi 865), (vi 0), (vr 866), (vi 901), (vi 0), (vr 873), (vi 915), (vi 0), (vr 880), (vi 921), (vi 0), (vr 885), (vi 926), (vi 0), (vr 890)].take n)
noncomputable def ob216 (l : List Value) : Obj :=
  ⟨(vt "type"), none, (.cls ⟨"BufferedIOBase", [(vr 201)], [(vr 216), (vr 201), (vt "object")], 215, "BufferedIOBase", true, [], l, false, none, false⟩), #[some (vr 207), none, some (vs "BufferedIOBase" 601), some (vs "BufferedIOBase" 609), some vn, some (vb true)]⟩
noncomputable def ob228 (l : List Value) : Obj :=
  ⟨(vt "type"), none, (.cls ⟨"TextIOBase", [(vr 201)], [(vr 228), (vr 201), (vt "object")], 227, "TextIOBase", true, [], l, false, none, false⟩), #[some (vr 219), none, some (vs "TextIOBase" 619), some (vs "TextIOBase" 627), some vn, some (vb true)]⟩
noncomputable def hc0 (P : Params) (m2 m3 : Obj) (r : List Obj) : List Obj :=
  (oD [en P "__name__" 1 (vs "builtins" 160), en P "__doc__" 2 (vB "builtins.__doc__:str#opaque"), en P "__package__" 3 (vB "builtins.__package__:str#opaque"), en P "__loader__" 4 (vB "builtins.__loader__:shared#opaque"), en P "__spec__" 5 (vB "builtins.__spec__#opaque"), en P "__build_class__" 6 (vB "__build_class__"), en P "__import__" 7 (vB "__import__"), en P "abs" 8 (vB "abs"), en P "all" 9 (vB "all"), en P "any" 10 (vB "any"), en P "ascii" 11 (vB "ascii"), en P "bin" 12 (vB "bin"), en P "breakpoint" 13 (vB "breakpoint"), en P "callable" 14 (vB "callable"), en P "chr" 15 (vB "chr"), en P "compile" 16 (vB "compile"), en P "delattr" 17 (vB "delattr"), en P "dir" 18 (vB "dir"), en P "divmod" 19 (vB "divmod"), en P "eval" 20 (vB "eval"), en P "exec" 21 (vB "exec"), en P "format" 22 (vB "format"), en P "getattr" 23 (vB "getattr"), en P "globals" 24 (vB "globals"), en P "hasattr" 25 (vB "hasattr"), en P "hash" 26 (vB "hash"), en P "hex" 27 (vB "hex"), en P "id" 28 (vB "id"), en P "input" 29 (vB "input"), en P "isinstance" 30 (vB "isinstance"), en P "issubclass" 31 (vB "issubclass"), en P "iter" 32 (vB "iter"), en P "aiter" 33 (vB "aiter"), en P "len" 34 (vB "len"), en P "locals" 35 (vB "locals"), en P "max" 36 (vB "max"), en P "min" 37 (vB "min"), en P "next" 38 (vB "next"), en P "anext" 39 (vB "anext"), en P "oct" 40 (vB "oct"), en P "ord" 41 (vB "ord"), en P "pow" 42 (vB "pow"), en P "print" 43 (vB "print"), en P "repr" 44 (vB "repr"), en P "round" 45 (vB "round"), en P "setattr" 46 (vB "setattr"), en P "sorted" 47 (vB "sorted"), en P "sum" 48 (vB "sum"), en P "vars" 49 (vB "vars"), en P "None" 50 vn, en P "Ellipsis" 51 Value.ellipsis, en P "NotImplemented" 52 Value.notImplemented, en P "False" 53 (vb false), en P "True" 54 (vb true), en P "bool" 55 (vt "bool"), en P "memoryview" 56 (vt "memoryview"), en P "bytearray" 57 (vt "bytearray"), en P "bytes" 58 (vt "bytes"), en P "classmethod" 59 (vt "classmethod"), en P "complex" 60 (vt "complex"), en P "dict" 61 (vt "dict"), en P "enumerate" 62 (vt "enumerate"), en P "filter" 63 (vt "filter"), en P "float" 64 (vt "float"), en P "frozenset" 65 (vt "frozenset"), en P "property" 66 (vt "property"), en P "int" 67 (vt "int"), en P "list" 68 (vt "list"), en P "map" 69 (vt "map"), en P "object" 70 (vt "object"), en P "range" 71 (vt "range"), en P "reversed" 72 (vt "reversed"), en P "set" 73 (vt "set"), en P "slice" 74 (vt "slice"), en P "staticmethod" 75 (vt "staticmethod"), en P "str" 76 (vt "str"), en P "super" 77 (vt "super"), en P "tuple" 78 (vt "tuple"), en P "type" 79 (vt "type"), en P "zip" 80 (vt "zip"), en P "__debug__" 81 (vb true), en P "BaseException" 82 (vt "BaseException"), en P "BaseExceptionGroup" 83 (vt "BaseExceptionGroup"), en P "Exception" 84 (vt "Exception"), en P "GeneratorExit" 85 (vt "GeneratorExit"), en P "KeyboardInterrupt" 86 (vt "KeyboardInterrupt"), en P "SystemExit" 87 (vt "SystemExit"), en P "ArithmeticError" 88 (vt "ArithmeticError"), en P "AssertionError" 89 (vt "AssertionError"), en P "AttributeError" 90 (vt "AttributeError"), en P "BufferError" 91 (vt "BufferError"), en P "EOFError" 92 (vt "EOFError"), en P "ImportError" 93 (vt "ImportError"), en P "LookupError" 94 (vt "LookupError"), en P "MemoryError" 95 (vt "MemoryError"), en P "NameError" 96 (vt "NameError"), en P "OSError" 97 (vt "OSError"), en P "ReferenceError" 98 (vt "ReferenceError"), en P "RuntimeError" 99 (vt "RuntimeError"), en P "StopAsyncIteration" 100 (vt "StopAsyncIteration"), en P "StopIteration" 101 (vt "StopIteration"), en P "SyntaxError" 102 (vt "SyntaxError"), en P "SystemError" 103 (vt "SystemError"), en P "TypeError" 104 (vt "TypeError"), en P "ValueError" 105 (vt "ValueError"), en P "Warning" 106 (vt "Warning"), en P "FloatingPointError" 107 (vt "FloatingPointError"), en P "OverflowError" 108 (vt "OverflowError"), en P "ZeroDivisionError" 109 (vt "ZeroDivisionError"), en P "BytesWarning" 110 (vt "BytesWarning"), en P "DeprecationWarning" 111 (vt "DeprecationWarning"), en P "EncodingWarning" 112 (vt "EncodingWarning"), en P "FutureWarning" 113 (vt "FutureWarning"), en P "ImportWarning" 114 (vt "ImportWarning"), en P "PendingDeprecationWarning" 115 (vt "PendingDeprecationWarning"), en P "ResourceWarning" 116 (vt "ResourceWarning"), en P "RuntimeWarning" 117 (vt "RuntimeWarning"), en P "SyntaxWarning" 118 (vt "SyntaxWarning"), en P "UnicodeWarning" 119 (vt "UnicodeWarning"), en P "UserWarning" 120 (vt "UserWarning"), en P "BlockingIOError" 121 (vt "BlockingIOError"), en P "ChildProcessError" 122 (vt "ChildProcessError"), en P "ConnectionError" 123 (vt "ConnectionError"), en P "FileExistsError" 124 (vt "FileExistsError"), en P "FileNotFoundError" 125 (vt "FileNotFoundError"), en P "InterruptedError" 126 (vt "InterruptedError"), en P "IsADirectoryError" 127 (vt "IsADirectoryError"), en P "NotADirectoryError" 128 (vt "NotADirectoryError"), en P "PermissionError" 129 (vt "PermissionError"), en P "ProcessLookupError" 130 (vt "ProcessLookupError"), en P "TimeoutError" 131 (vt "TimeoutError"), en P "IndentationError" 132 (vt "IndentationError"), en P "_IncompleteInputError" 133 (vt "_IncompleteInputError"), en P "IndexError" 134 (vt "IndexError"), en P "KeyError" 135 (vt "KeyError"), en P "ModuleNotFoundError" 136 (vt "ModuleNotFoundError"), en P "NotImplementedError" 137 (vt "NotImplementedError"), en P "PythonFinalizationError" 138 (vt "PythonFinalizationError"), en P "RecursionError" 139 (vt "RecursionError"), en P "UnboundLocalError" 140 (vt "UnboundLocalError"), en P "UnicodeError" 141 (vt "UnicodeError"), en P "BrokenPipeError" 142 (vt "BrokenPipeError"), en P "ConnectionAbortedError" 143 (vt "ConnectionAbortedError"), en P "ConnectionRefusedError" 144 (vt "ConnectionRefusedError"), en P "ConnectionResetError" 145 (vt "ConnectionResetError"), en P "TabError" 146 (vt "TabError"), en P "UnicodeDecodeError" 147 (vt "UnicodeDecodeError"), en P "UnicodeEncodeError" 148 (vt "UnicodeEncodeError"), en P "UnicodeTranslateError" 149 (vt "UnicodeTranslateError"), en P "ExceptionGroup" 150 (vt "ExceptionGroup"), en P "EnvironmentError" 151 (vt "OSError"), en P "IOError" 152 (vt "OSError"), en P "open" 153 (vB "open"), en P "quit" 154 (vB "builtins.quit#opaque"), en P "exit" 155 (vB "builtins.exit#opaque"), en P "copyright" 156 (vB "builtins.copyright#opaque"), en P "credits" 157 (vB "builtins.credits#opaque"), en P "license" 158 (vB "builtins.license#opaque"), en P "help" 159 (vB "builtins.help#opaque")] 159) :: (oD [en P "builtins" 162 (vr 4), en P "__main__" 163 (vr 5), en P "_sre" 244 (vr 12), en P "_collections" 292 (vr 30)] 4) :: m2 :: m3 :: (⟨(vt "module"), (some 0), .plain, #[]⟩) :: (⟨(vt "module"), (some 3), .plain, #[]⟩) :: (oD [] 0) :: oE :: oG :: (oC [(vs "<module>" 176), (vs "<module>" 177), (vs "/claim/cut.py" 178), (vi 1), (vi 0), (vi 0), (vi 0), (vi 0), (vr 7), (vb false), (vi 175), (vr 8), vn, vn, vn, vn, (vi 179), (vi 1), (vs "/claim/cut.py" 180)]) :: (⟨(vt "frame"), none, .plain, #[some (vr 9), some (vr 3), some (vr 3), none, some (vs "__main__" 164), none, some (vr 0)]⟩) :: (oD [en P "__name__" 247 (vs "_sre" 246), en P "__doc__" 248 vn, en P "__package__" 250 (vs "" 249), en P "__loader__" 251 (vB "off-the-table:_sre.__loader__:shared#opaque"), en P "__spec__" 252 (vB "off-the-table:_sre.__spec__:shared#opaque"), en P "compile" 253 (vB "_sre.compile"), en P "template" 254 (vB "off-the-table:_sre.template:shared#opaque"), en P "getcodesize" 255 (vB "off-the-table:_sre.getcodesize:shared#opaque"), en P "ascii_iscased" 256 (vB "off-the-table:_sre.ascii_iscased:shared#opaque"), en P "unicode_iscased" 257 (vB "off-the-table:_sre.unicode_iscased:shared#opaque"), en P "ascii_tolower" 258 (vB "off-the-table:_sre.ascii_tolower:shared#opaque"), en P "unicode_tolower" 259 (vB "off-the-table:_sre.unicode_tolower:shared#opaque"), en P "MAGIC" 261 (vI 20230612 260), en P "CODESIZE" 263 (vI 4 262), en P "MAXREPEAT" 265 (vI 4294967295 264), en P "MAXGROUPS" 267 (vI 1073741823 266), en P "copyright" 269 (vs " SRE 2.2.2 Copyright (c) 1997-2002 by Secret Labs AB " 268)] 17) :: (⟨(vt "module"), (some 11), .plain, #[]⟩) :: (oD [en P "__module__" 189 (vs "_frozen_importlib" 186), en P "__firstlineno__" 190 (vI 971 187), en P "__doc__" 191 (vB "_frozen_importlib.BuiltinImporter.__doc__:str#opaque"), en P "_ORIGIN" 192 (vs "built-in" 188), en P "find_spec" 193 (vB "_frozen_importlib.BuiltinImporter.find_spec#opaque"), en P "create_module" 194 (vB "_frozen_importlib.BuiltinImporter.create_module#opaque"), en P "exec_module" 195 (vB "_frozen_importlib.BuiltinImporter.exec_module#opaque"), en P "get_code" 196 (vB "_frozen_importlib.BuiltinImporter.get_code#opaque"), en P "get_source" 197 (vB "_frozen_importlib.BuiltinImporter.get_source#opaque"), en P "is_package" 198 (vB "_frozen_importlib.BuiltinImporter.is_package#opaque"), en P "load_module" 199 (vB "_frozen_importlib.BuiltinImporter.load_module#opaque"), en P "__static_attributes__" 200 (vr 15), en P "__dict__" 202 (vr 16), en P "__weakref__" 204 (vr 17)] 14) :: (⟨(vt "type"), none, (.cls ⟨"BuiltinImporter", [(vt "object")], [(vr 14), (vt "object")], 13, "BuiltinImporter", true, [], [], false, none, false⟩), #[]⟩) :: oE :: (⟨(vt "getset_descriptor"), none, (.fields ⟨[(vs "__dict__" 201), (vr 14), (vB "function.__dict__"), (vB "function.__dict__#set")]⟩), #[]⟩) :: (⟨(vt "getset_descriptor"), none, (.fields ⟨[(vs "__weakref__" 203), (vr 14), (vB "ExceptionGroup.__weakref__"), vn]⟩), #[]⟩) :: (⟨vn, none, (.seq ⟨[(vi 13), (Value.str ⟨⟨[6,189,10,95,95,109,111,100,117,108,101,95,95,6,186,17,95,102,114,111,122,101,110,95,105,109,112,111,114,116,108,105,98,6,190,15,95,95,102,105,114,115,116,108,105,110,101,110,111,95,95,4,187,0,971,6,191,7,95,95,100,111,99,95,95,9,52,95,102,114,111,122,101,110,95,105,109,112,111,114,116,108,105,98,46,66,117,105,108,116,105,110,73,109,112,111,114,116,101,114,46,95,95,100,111,99,95,95,58,115,116,114,35,111,112,97,113,117,101,6,192,7,95,79,82,73,71,73,78,6,188,8,98,117,105,108,116,45,105,110,6,193,9,102,105,110,100,95,115,112,101,99,9,50,95,102,114,111,122,101,110,95,105,109,112,111,114,116,108,105,98,46,66,117,105,108,116,105,110,73,109,112,111,114,116,101,114,46,102,105,110,100,95,115,112,101,99,35,111,112,97,113,117,101,6,194,13,99,114,101,97,116,101,95,109,111,100,117,108,101,9,54,95,102,114,111,122,101,110,95,105,109,112,111,114,116,108,105,98,46,66,117,105,108,116,105,110,73,109,112,111,114,116,101,114,46,99,114,101,97,116,101,95,109,111,100,117,108,101,35,111,112,97,113,117,101,6,195,11,101,120,101,99,95,109,111,100,117,108,101,9,52,95,102,114,111,122,101,110,95,105,109,112,111,114,116,108,105,98,46,66,117,105,108,116,105,110,73,109,112,111,114,116,101,114,46,101,120,101,99,95,109,111,100,117,108,101,35,111,112,97,113,117,101,6,196,8,103,101,116,95,99,111,100,101,9,49,95,102,114,111,122,101,110,95,105,109,112,111,114,116,108,105,98,46,66,117,105,108,116,105,110,73,109,112,111,114,116,101,114,46,103,101,116,95,99,111,100,101,35,111,112,97,113,117,101,6,197,10,103,101,116,95,115,111,117,114,99,101,9,51,95,102,114,111,122,101,110,95,105,109,112,111,114,116,108,105,98,46,66,117,105,108,116,105,110,73,109,112,111,114,116,101,114,46,103,101,116,95,115,111,117,114,99,101,35,111,112,97,113,117,101,6,198,10,105,115,95,112,97,99,107,97,103,101,9,51,95,102,114,111,122,101,110,95,105,109,112,111,114,116,108,105,98,46,66,117,105,108,116,105,110,73,109,112,111,114,116,101,114,46,105,115,95,112,97,99,107,97,103,101,35,111,112,97,113,117,101,6,199,11,108,111,97,100,95,109,111,100,117,108,101,9,52,95,102,114,111,122,101,110,95,105,109,112,111,114,116,108,105,98,46,66,117,105,108,116,105,110,73,109,112,111,114,116,101,114,46,108,111,97,100,95,109,111,100,117,108,101,35,111,112,97,113,117,101,6,200,21,95,95,115,116,97,116,105,99,95,97,116,116,114,105,98,117,116,101,115,95,95,4,0,0,15,6,202,8,95,95,100,105,99,116,95,95,4,0,0,16,6,204,11,95,95,119,101,97,107,114,101,102,95,95,4,0,0,17]⟩⟩ 0), (vb true), (vb true), (vs "" 205), (vi 21), (Value.str ⟨⟨[6,227,10,95,95,109,111,100,117,108,101,95,95,6,217,17,95,102,114,111,122,101,110,95,105,109,112,111,114,116,108,105,98,6,228,15,95,95,102,105,114,115,116,108,105,110,101,110,111,95,95,4,218,0,562,6,229,7,95,95,100,111,99,95,95,9,47,95,102,114,111,122,101,110,95,105,109,112,111,114,116,108,105,98,46,77,111,100,117,108,101,83,112,101,99,46,95,95,100,111,99,95,95,58,115,116,114,35,111,112,97,113,117,101,6,230,8,95,95,105,110,105,116,95,95,9,44,95,102,114,111,122,101,110,95,105,109,112,111,114,116,108,105,98,46,77,111,100,117,108,101,83,112,101,99,46,95,95,105,110,105,116,95,95,35,111,112,97,113,117,101,6,231,8,95,95,114,101,112,114,95,95,9,44,95,102,114,111,122,101,110,95,105,109,112,111,114,116,108,105,98,46,77,111,100,117,108,101,83,112,101,99,46,95,95,114,101,112,114,95,95,35,111,112,97,113,117,101,6,232,6,95,95,101,113,95,95,9,42,95,102,114,111,122,101,110,95,105,109,112,111,114,116,108,105,98,46,77,111,100,117,108,101,83,112,101,99,46,95,95,101,113,95,95,35,111,112,97,113,117,101,6,233,6,99,97,99,104,101,100,9,42,95,102,114,111,122,101,110,95,105,109,112,111,114,116,108,105,98,46,77,111,100,117,108,101,83,112,101,99,46,99,97,99,104,101,100,35,111,112,97,113,117,101,6,234,6,112,97,114,101,110,116,9,42,95,102,114,111,122,101,110,95,105,109,112,111,114,116,108,105,98,46,77,111,100,117,108,101,83,112,101,99,46,112,97,114,101,110,116,35,111,112,97,113,117,101,6,235,12,104,97,115,95,108,111,99,97,116,105,111,110,9,48,95,102,114,111,122,101,110,95,105,109,112,111,114,116,108,105,98,46,77,111,100,117,108,101,83,112,101,99,46,104,97,115,95,108,111,99,97,116,105,111,110,35,111,112,97,113,117,101,6,236,21,95,95,115,116,97,116,105,99,95,97,116,116,114,105,98,117,116,101,115,95,95,4,0,0,23,6,238,8,95,95,100,105,99,116,95,95,4,0,0,24,6,240,11,95,95,119,101,97,107,114,101,102,95,95,4,0,0,25,6,241,8,95,95,104,97,115,104,95,95,0]⟩⟩ 0), (vb true), (vb true), (vs "" 242)]⟩ 1), #[]⟩) :: (⟨(vt "list"), none, (.seq ⟨[]⟩ 0), #[]⟩) :: (oD [en P "name" 208 (vs "_sre" 207), en P "loader" 209 (vr 14), en P "origin" 210 (vs "built-in" 184), en P "loader_state" 211 vn, en P "submodule_search_locations" 212 vn, en P "_uninitialized_submodules" 213 (vr 19), en P "_set_fileattr" 214 (vb false), en P "_cached" 215 vn, en P "_initializing" 243 (vb false)] 9) :: (oD [en P "__module__" 227 (vs "_frozen_importlib" 217), en P "__firstlineno__" 228 (vI 562 218), en P "__doc__" 229 (vB "_frozen_importlib.ModuleSpec.__doc__:str#opaque"), en P "__init__" 230 (vB "_frozen_importlib.ModuleSpec.__init__#opaque"), en P "__repr__" 231 (vB "_frozen_importlib.ModuleSpec.__repr__#opaque"), en P "__eq__" 232 (vB "_frozen_importlib.ModuleSpec.__eq__#opaque"), en P "cached" 233 (vB "_frozen_importlib.ModuleSpec.cached#opaque"), en P "parent" 234 (vB "_frozen_importlib.ModuleSpec.parent#opaque"), en P "has_location" 235 (vB "_frozen_importlib.ModuleSpec.has_location#opaque"), en P "__static_attributes__" 236 (vr 23), en P "__dict__" 238 (vr 24), en P "__weakref__" 240 (vr 25), en P "__hash__" 241 vn] 13) :: (⟨(vt "type"), none, (.cls ⟨"ModuleSpec", [(vt "object")], [(vr 22), (vt "object")], 21, "ModuleSpec", true, [], [], false, none, false⟩), #[]⟩) :: (oT [(vs "_cached" 219), (vs "_set_fileattr" 220), (vs "_uninitialized_submodules" 221), (vs "loader" 222), (vs "loader_state" 223), (vs "name" 224), (vs "origin" 225), (vs "submodule_search_locations" 226)]) :: (⟨(vt "getset_descriptor"), none, (.fields ⟨[(vs "__dict__" 237), (vr 22), (vB "function.__dict__"), (vB "function.__dict__#set")]⟩), #[]⟩) :: (⟨(vt "getset_descriptor"), none, (.fields ⟨[(vs "__weakref__" 239), (vr 22), (vB "ExceptionGroup.__weakref__"), vn]⟩), #[]⟩) :: (⟨(vr 22), (some 20), .plain, #[]⟩) :: (⟨vn, none, (.seq ⟨[(vi 11), (Value.str ⟨⟨[6,247,8,95,95,110,97,109,101,95,95,6,246,4,95,115,114,101,6,248,7,95,95,100,111,99,95,95,0,6,250,11,95,95,112,97,99,107,97,103,101,95,95,6,249,0,6,251,10,95,95,108,111,97,100,101,114,95,95,4,0,0,14,6,252,8,95,95,115,112,101,99,95,95,4,0,0,26,6,253,7,99,111,109,112,105,108,101,9,12,95,115,114,101,46,99,111,109,112,105,108,101,6,254,8,116,101,109,112,108,97,116,101,9,13,95,115,114,101,46,116,101,109,112,108,97,116,101,6,255,11,103,101,116,99,111,100,101,115,105,122,101,9,16,95,115,114,101,46,103,101,116,99,111,100,101,115,105,122,101,6,256,13,97,115,99,105,105,95,105,115,99,97,115,101,100,9,18,95,115,114,101,46,97,115,99,105,105,95,105,115,99,97,115,101,100,6,257,15,117,110,105,99,111,100,101,95,105,115,99,97,115,101,100,9,20,95,115,114,101,46,117,110,105,99,111,100,101,95,105,115,99,97,115,101,100,6,258,13,97,115,99,105,105,95,116,111,108,111,119,101,114,9,18,95,115,114,101,46,97,115,99,105,105,95,116,111,108,111,119,101,114,6,259,15,117,110,105,99,111,100,101,95,116,111,108,111,119,101,114,9,20,95,115,114,101,46,117,110,105,99,111,100,101,95,116,111,108,111,119,101,114,6,261,5,77,65,71,73,67,4,260,0,20230612,6,263,8,67,79,68,69,83,73,90,69,4,262,0,4,6,265,9,77,65,88,82,69,80,69,65,84,4,264,0,4294967295,6,267,9,77,65,88,71,82,79,85,80,83,4,266,0,1073741823,6,269,9,99,111,112,121,114,105,103,104,116,6,268,53,32,83,82,69,32,50,46,50,46,50,32,67,111,112,121,114,105,103,104,116,32,40,99,41,32,49,57,57,55,45,50,48,48,50,32,98,121,32,83,101,99,114,101,116,32,76,97,98,115,32,65,66,32]⟩⟩ 0), (vb true), (vb false), (vs "_sre" 271), (vi 29), (Value.str ⟨⟨[6,296,8,95,95,110,97,109,101,95,95,6,295,12,95,99,111,108,108,101,99,116,105,111,110,115,6,297,7,95,95,100,111,99,95,95,9,31,95,99,111,108,108,101,99,116,105,111,110,115,46,95,95,100,111,99,95,95,58,115,116,114,35,111,112,97,113,117,101,6,299,11,95,95,112,97,99,107,97,103,101,95,95,6,298,0,6,300,10,95,95,108,111,97,100,101,114,95,95,4,0,0,14,6,301,8,95,95,115,112,101,99,95,95,4,0,0,33,6,302,15,95,99,111,117,110,116,95,101,108,101,109,101,110,116,115,9,28,95,99,111,108,108,101,99,116,105,111,110,115,46,95,99,111,117,110,116,95,101,108,101,109,101,110,116,115,6,303,5,100,101,113,117,101,8,17,99,111,108,108,101,99,116,105,111,110,115,46,100,101,113,117,101,6,304,11,100,101,102,97,117,108,116,100,105,99,116,8,23,99,111,108,108,101,99,116,105,111,110,115,46,100,101,102,97,117,108,116,100,105,99,116,6,305,15,95,100,101,113,117,101,95,105,116,101,114,97,116,111,114,8,27,99,111,108,108,101,99,116,105,111,110,115,46,95,100,101,113,117,101,95,105,116,101,114,97,116,111,114,6,306,23,95,100,101,113,117,101,95,114,101,118,101,114,115,101,95,105,116,101,114,97,116,111,114,8,35,99,111,108,108,101,99,116,105,111,110,115,46,95,100,101,113,117,101,95,114,101,118,101,114,115,101,95,105,116,101,114,97,116,111,114,6,307,12,95,116,117,112,108,101,103,101,116,116,101,114,8,24,99,111,108,108,101,99,116,105,111,110,115,46,95,116,117,112,108,101,103,101,116,116,101,114,6,308,11,79,114,100,101,114,101,100,68,105,99,116,8,23,99,111,108,108,101,99,116,105,111,110,115,46,79,114,100,101,114,101,100,68,105,99,116]⟩⟩ 0), (vb true), (vb false), (vs "_collections" 310)]⟩ 1), #[]⟩) :: (oT [(vs "deque" 277)]) :: (oD [en P "__name__" 296 (vs "_collections" 295), en P "__doc__" 297 (vB "off-the-table:_collections.__doc__:shared#opaque"), en P "__package__" 299 (vs "" 298), en P "__loader__" 300 (vB "off-the-table:_collections.__loader__:shared#opaque"), en P "__spec__" 301 (vB "off-the-table:_collections.__spec__:shared#opaque"), en P "_count_elements" 302 (vB "_collections._count_elements"), en P "deque" 303 (vt "collections.deque"), en P "defaultdict" 304 (vt "collections.defaultdict"), en P "_deque_iterator" 305 (vB "off-the-table:_collections._deque_iterator:shared#opaque"), en P "_deque_reverse_iterator" 306 (vB "off-the-table:_collections._deque_reverse_iterator:shared#opaque"), en P "_tuplegetter" 307 (vt "collections._tuplegetter"), en P "OrderedDict" 308 (vt "collections.OrderedDict")] 12) :: (⟨(vt "module"), (some 29), .plain, #[]⟩) :: (⟨(vt "list"), none, (.seq ⟨[]⟩ 0), #[]⟩) :: (oD [en P "name" 283 (vs "_collections" 282), en P "loader" 284 (vr 14), en P "origin" 285 (vs "built-in" 281), en P "loader_state" 286 vn, en P "submodule_search_locations" 287 vn, en P "_uninitialized_submodules" 288 (vr 31), en P "_set_fileattr" 289 (vb false), en P "_cached" 290 vn, en P "_initializing" 291 (vb false)] 9) :: (⟨(vr 22), (some 32), .plain, #[]⟩) :: r
noncomputable def hc34 (P : Params) (m35 : Obj) (r : List Obj) : List Obj :=
  oE :: m35 :: (oK "<module>" "<module>" 319 1 0 0 0 0 34 false 35 vn vn vn vn 322) :: (⟨(vt "frame"), none, .plain, #[some (vr 36), some (vr 3), some (vr 3), none, some (vs "__main__" 164), none, some (vr 0)]⟩) :: r
noncomputable def hc38 (P : Params) (r : List Obj) : List Obj :=
  d7 38 324 3 (topSt 2) "_wall" 1 0 0 3 ["k"] vn md0 ( d7 45 333 7 (topSt 4) "_plain_name" 2 0 0 3 ["x", "what", "kind"] vn md1 ( (oT [(vt "type")]) :: (⟨(vt "builtin_function_or_method"), none, (.fields ⟨[(vB "type.__prepare__"), (vt "type")]⟩), #[]⟩) :: (oD [en P "__module__" 351 (vs "abc" 342), en P "__qualname__" 353 (vs "ABCMeta" 352), en P "__firstlineno__" 355 (vI 13 354), en P "register" 363 (vr 65), en P "__static_attributes__" 364 (vr 66)] 5) :: oE :: (oF [(vi 15), (vi 4), (vr 64)]) :: (oK "ABCMeta" "ABCMeta" 346 13 0 0 0 0 55 false 56 vn vn vn vn 349) :: (⟨(vt "frame"), none, .plain, #[some (vr 57), some (vr 3), some (vr 54), none, some (vs "abc" 342), none, some (vr 0)]⟩) :: d7 59 356 15 (memSt 6 0) "ABCMeta.register" 2 0 0 3 ["cls", "subclass"] vn md2 ( oE :: (oD [en P "__module__" 351 (vs "abc" 342), en P "__firstlineno__" 355 (vI 13 354), en P "register" 363 (vr 65), en P "__static_attributes__" 364 (vr 66), en P "__doc__" 365 vn] 2) :: (⟨(vt "type"), none, (.cls ⟨"ABCMeta", [(vt "type")], [(vr 68), (vt "type"), (vt "object")], 67, "ABCMeta", true, [], [(vr 101)], false, none, false⟩), #[some (vr 52), none, some (vs "ABCMeta" 344), some (vs "ABCMeta" 352), some (vB "type.__new__"), some (vb true)]⟩) :: (⟨(vt "super"), none, (.fields ⟨[(vr 68), (vr 68), (vr 68)]⟩), #[]⟩) :: (⟨(vt "builtin_function_or_method"), none, (.fields ⟨[(vB "object.__init_subclass__"), (vr 68)]⟩), #[]⟩) :: (oT [(vr 68)]) :: (⟨(vt "builtin_function_or_method"), none, (.fields ⟨[(vB "type.__prepare__"), (vt "type")]⟩), #[]⟩) :: (oD [en P "__module__" 377 (vs "collections.abc" 368), en P "__qualname__" 379 (vs "_ABCLike" 378), en P "__firstlineno__" 381 (vI 18 380), en P "__instancecheck__" 390 (vr 84), en P "__subclasscheck__" 398 (vr 91), en P "register" 406 (vr 98), en P "__static_attributes__" 407 (vr 99)] 7) :: oE :: (oF [(vi 20), (vi 4), (vr 83), (vi 26), (vi 4), (vr 90), (vi 31), (vi 4), (vr 97)]) :: (oK "_ABCLike" "_ABCLike" 372 18 0 0 0 0 74 false 75 vn vn vn vn 375) :: (⟨(vt "frame"), none, .plain, #[some (vr 76), some (vr 3), some (vr 73), none, some (vs "collections.abc" 368), none, some (vr 0)]⟩) :: d7 78 382 20 (memSt 8 0) "_ABCLike.__instancecheck__" 2 0 0 3 ["cls", "\x69nstance", "C"] vn md3 ( d7 85 391 26 (memSt 8 1) "_ABCLike.__subclasscheck__" 2 0 0 3 ["cls", "C"] vn md3 ( d7 92 399 31 (memSt 8 2) "_ABCLike.register" 2 0 0 3 ["cls", "subclass"] vn md3 ( oE :: (oD [en P "__module__" 377 (vs "collections.abc" 368), en P "__firstlineno__" 381 (vI 18 380), en P "__instancecheck__" 390 (vr 84), en P "__subclasscheck__" 398 (vr 91), en P "register" 406 (vr 98), en P "__static_attributes__" 407 (vr 99), en P "__doc__" 408 vn] 2) :: (⟨(vt "type"), none, (.cls ⟨"_ABCLike", [(vr 68)], [(vr 101), (vr 68), (vt "type"), (vt "object")], 100, "_ABCLike", true, [], [], false, none, false⟩), #[some (vr 71), none, some (vs "_ABCLike" 370), some (vs "_ABCLike" 378), some (vB "type.__new__"), some (vb true)]⟩) :: (⟨(vt "super"), none, (.fields ⟨[(vr 101), (vr 101), (vr 101)]⟩), #[]⟩) :: (⟨(vt "builtin_function_or_method"), none, (.fields ⟨[(vB "object.__init_subclass__"), (vr 101)]⟩), #[]⟩) :: d7 104 411 33 (topSt 9) "_abc_plain_meta" 1 0 0 3 ["C"] vn md3 ( d7 111 420 37 (topSt 11) "fspath" 1 0 0 3 ["path", "kind", "hook", "given"] vn md4 ( d7 118 432 54 (topSt 13) "_check_arg_types" 1 0 0 7 ["funcname", "args", "hasstr", "hasbytes", "s"] vn md5 ( d7 125 446 67 (topSt 16) "_get_sep" 1 0 0 3 ["path"] vn md6 ( d7 132 453 72 (topSt 17) "join" 1 0 0 7 ["a", "p", "sep", "path", "b"] vn md6 ( d7 139 465 90 (topSt 19) "splitroot" 1 0 0 3 ["p", "sep", "empty"] vn md6 ( d7 146 474 104 (topSt 20) "normpath" 1 0 0 3 ["path", "sep", "dot", "dotdot", "_", "initial_slashes", "comps", "new_comps", "comp"] vn md6 ( (⟨(vt "list"), none, (.seq ⟨[(vI 14 492), (vI 17 493), (vI 4 494), (vI 1 495), (vI 1 496), (vI 21 497), (vI 9 498), (vI 0 499), (vI 604043296 500), (vI 1 501), (vI 0 502), (vI 0 503), (vI 0 504), (vI 0 505), (vI 0 506), (vI 8 507), (vI 4 508), (vI 0 509), (vI 13 510), (vI 14 511), (vI 21 512), (vI 9 513), (vI 0 514), (vI 604043296 515), (vI 1 516), (vI 0 517), (vI 0 518), (vI 0 519), (vI 0 520), (vI 0 521), (vI 8 522), (vI 4 523), (vI 0 524), (vI 1 525)]⟩ 0), #[]⟩) :: (oD [] 0) :: (oT [vn]) :: ob156 P :: ob157 P :: r)))))))))))))
noncomputable def hc158 (P : Params) (m216 m228 : Obj) (r : List Obj) : List Obj :=
  d7 158 531 131 (topSt 23) "_whence" 2 0 0 3 ["n", "what"] vn md7 ( d7 165 539 136 (topSt 24) "_index" 2 0 0 3 ["n", "what"] vn md7 ( (oT [(vt "OSError"), (vt "ValueError")]) :: (⟨(vt "builtin_function_or_method"), none, (.fields ⟨[(vB "type.__prepare__"), (vt "type")]⟩), #[]⟩) :: (oD [en P "__module__" 554 (vs "io" 559), en P "__qualname__" 556 (vs "UnsupportedOperation" 555), en P "__firstlineno__" 558 (vI 143 557), en P "__static_attributes__" 561 (vr 179)] 4) :: oE :: oG :: (oK "UnsupportedOperation" "UnsupportedOperation" 549 143 0 0 0 0 175 false 176 vn vn vn vn 552) :: (⟨(vt "frame"), none, .plain, #[some (vr 177), some (vr 3), some (vr 174), none, some (vs "io" 529), none, some (vr 0)]⟩) :: oE :: (oD [en P "__module__" 554 (vs "io" 559), en P "__firstlineno__" 558 (vI 143 557), en P "__static_attributes__" 561 (vr 179), en P "__weakref__" 563 (vr 182), en P "__doc__" 564 vn] 3) :: (⟨(vt "type"), none, (.cls ⟨"UnsupportedOperation", [(vt "OSError"), (vt "ValueError")], [(vr 181), (vt "OSError"), (vt "ValueError"), (vt "Exception"), (vt "BaseException"), (vt "object")], 180, "UnsupportedOperation", true, [], [], false, none, false⟩), #[some (vr 172), none, some (vs "UnsupportedOperation" 547), some (vs "UnsupportedOperation" 555), some (vB "OSError.__new__"), some (vb true)]⟩) :: (⟨(vt "getset_descriptor"), none, (.fields ⟨[(vs "__weakref__" 562), (vr 181), (vB "ExceptionGroup.__weakref__"), vn]⟩), #[]⟩) :: (⟨(vt "super"), none, (.fields ⟨[(vr 181), (vr 181), (vr 181)]⟩), #[]⟩) :: (⟨(vt "builtin_function_or_method"), none, (.fields ⟨[(vB "object.__init_subclass__"), (vr 181)]⟩), #[]⟩) :: oE :: (⟨(vt "builtin_function_or_method"), none, (.fields ⟨[(vB "type.__prepare__"), (vt "type")]⟩), #[]⟩) :: (oD [en P "__module__" 576 (vs "io" 581), en P "__qualname__" 578 (vs "IOBase" 577), en P "__firstlineno__" 580 (vI 145 579), en P "__new__" 591 (vr 198), en P "__static_attributes__" 592 (vr 199)] 5) :: oE :: (oF [(vi 148), (vi 4), (vr 197)]) :: (oK "IOBase" "IOBase" 571 145 0 0 0 0 188 false 189 vn vn vn vn 574) :: (⟨(vt "frame"), none, .plain, #[some (vr 190), some (vr 3), some (vr 187), none, some (vs "io" 529), none, some (vr 0)]⟩) :: d7 192 583 148 (memSt 26 1) "IOBase.__new__" 1 1 0 15 ["cls", "args", "kwargs"] vn md7 ( oE :: ob200 P :: ob201 P :: ob202 P :: ob203 P :: (⟨(vt "getset_descriptor"), none, (.fields ⟨[(vs "__weakref__" 596), (vr 201), (vB "ExceptionGroup.__weakref__"), vn]⟩), #[]⟩) :: (⟨(vt "super"), none, (.fields ⟨[(vr 201), (vr 201), (vr 201)]⟩), #[]⟩) :: (⟨(vt "builtin_function_or_method"), none, (.fields ⟨[(vB "object.__init_subclass__"), (vr 201)]⟩), #[]⟩) :: (oT [(vr 201)]) :: (⟨(vt "builtin_function_or_method"), none, (.fields ⟨[(vB "type.__prepare__"), (vt "type")]⟩), #[]⟩) :: (oD [en P "__module__" 608 (vs "io" 613), en P "__qualname__" 610 (vs "BufferedIOBase" 609), en P "__firstlineno__" 612 (vI 152 611), en P "__static_attributes__" 615 (vr 214)] 4) :: oE :: oG :: (oK "BufferedIOBase" "BufferedIOBase" 603 152 0 0 0 0 210 false 211 vn vn vn vn 606) :: (⟨(vt "frame"), none, .plain, #[some (vr 212), some (vr 3), some (vr 209), none, some (vs "io" 529), none, some (vr 0)]⟩) :: oE :: ob215 P :: m216 :: (⟨(vt "super"), none, (.fields ⟨[(vr 216), (vr 216), (vr 216)]⟩), #[]⟩) :: (⟨(vt "builtin_function_or_method"), none, (.fields ⟨[(vB "object.__init_subclass__"), (vr 216)]⟩), #[]⟩) :: (oT [(vr 201)]) :: (⟨(vt "builtin_function_or_method"), none, (.fields ⟨[(vB "type.__prepare__"), (vt "type")]⟩), #[]⟩) :: (oD [en P "__module__" 626 (vs "io" 631), en P "__qualname__" 628 (vs "TextIOBase" 627), en P "__firstlineno__" 630 (vI 154 629), en P "__static_attributes__" 633 (vr 226)] 4) :: oE :: oG :: (oK "TextIOBase" "TextIOBase" 621 154 0 0 0 0 222 false 223 vn vn vn vn 624) :: (⟨(vt "frame"), none, .plain, #[some (vr 224), some (vr 3), some (vr 221), none, some (vs "io" 529), none, some (vr 0)]⟩) :: oE :: ob227 P :: m228 :: (⟨(vt "super"), none, (.fields ⟨[(vr 228), (vr 228), (vr 228)]⟩), #[]⟩) :: (⟨(vt "builtin_function_or_method"), none, (.fields ⟨[(vB "object.__init_subclass__"), (vr 228)]⟩), #[]⟩) :: r)))
noncomputable def hc231 (P : Params) (r : List Obj) : List Obj :=
  (oT [(vr 216)]) :: (⟨(vt "builtin_function_or_method"), none, (.fields ⟨[(vB "type.__prepare__"), (vt "type")]⟩), #[]⟩) :: (oD [en P "__module__" 644 (vs "_io" 649), en P "__qualname__" 646 (vs "BytesIO" 645), en P "__firstlineno__" 648 (vI 156 647), en P "__init__" 658 (vr 245), en P "_BytesIO__check" 665 (vr 252), en P "_BytesIO__line" 676 (vr 259), en P "closed" 684 (vr 267), en P "close" 691 (vr 274), en P "__enter__" 698 (vr 281), en P "__exit__" 706 (vr 288), en P "readable" 713 (vr 295), en P "writable" 720 (vr 302), en P "seekable" 727 (vr 309), en P "isatty" 734 (vr 316), en P "flush" 741 (vr 323), en P "fileno" 748 (vr 330), en P "detach" 755 (vr 337), en P "getvalue" 762 (vr 344), en P "getbuffer" 769 (vr 351), en P "tell" 776 (vr 358), en P "seek" 786 (vr 366), en P "truncate" 794 (vr 374), en P "read" 806 (vr 382), en P "read1" 816 (vr 390), en P "readinto" 826 (vr 397), en P "readinto1" 834 (vr 404), en P "readline" 844 (vr 412), en P "readlines" 852 (vr 420), en P "__iter__" 859 (vr 427), en P "__next__" 867 (vr 434), en P "write" 877 (vr 441), en P "writelines" 885 (vr 448), en P "__repr__" 892 (vr 455), en P "__static_attributes__" 895 (vr 456)] 34) :: oE :: (oF [(vi 159), (vi 4), (vr 244), (vi 165), (vi 4), (vr 251), (vi 169), (vi 4), (vr 258), (vi 183), (vi 4), (vr 265), (vi 186), (vi 4), (vr 273), (vi 189), (vi 4), (vr 280), (vi 193), (vi 4), (vr 287), (vi 196), (vi 4), (vr 294), (vi 200), (vi 4), (vr 301), (vi 204), (vi 4), (vr 308), (vi 208), (vi 4), (vr 315), (vi 212), (vi 4), (vr 322), (vi 215), (vi 4), (vr 329), (vi 218), (vi 4), (vr 336), (vi 221), (vi 4), (vr 343), (vi 224), (vi 4), (vr 350), (vi 227), (vi 4), (vr 357), (vi 231), (vi 4), (vr 365), (vi 248), (vi 4), (vr 373), (vi 251), (vi 4), (vr 381), (vi 265), (vi 4), (vr 389), (vi 268), (vi 4), (vr 396), (vi 282), (vi 4), (vr 403), (vi 285), (vi 4), (vr 411), (vi 292), (vi 4), (vr 419), (vi 295), (vi 4), (vr 426), (vi 298), (vi 4), (vr 433), (vi 305), (vi 4), (vr 440), (vi 321), (vi 4), (vr 447), (vi 324), (vi 4), (vr 454)]) :: (oK "BytesIO" "BytesIO" 639 156 0 0 0 0 234 false 235 vn vn vn vn 642) :: (⟨(vt "frame"), none, .plain, #[some (vr 236), some (vr 3), some (vr 233), none, some (vs "io" 529), none, some (vr 0)]⟩) :: (oT [vn]) :: d7 239 651 159 (memSt 29 1) "BytesIO.__init__" 2 0 0 3 ["self", "initial_bytes"] (vr 238) md7 ( d7 246 659 165 (memSt 29 2) "BytesIO.__check" 1 0 0 3 ["self"] vn md7 ( d7 253 666 169 (memSt 29 3) "BytesIO.__line" 2 0 0 3 ["self", "limit", "start", "stop", "i"] vn md7 ( d7 260 677 182 (memSt 29 4) "BytesIO.closed" 1 0 0 3 ["self"] vn md7 ( (⟨(vt "property"), none, (.fields ⟨[(vr 266), vn, vn, vn, (vs "closed" 684), (vb false)]⟩), #[]⟩) :: d7 268 685 186 (memSt 29 5) "BytesIO.close" 1 0 0 3 ["self"] vn md7 ( d7 275 692 189 (memSt 29 6) "BytesIO.__enter__" 1 0 0 3 ["self"] vn md7 ( d7 282 699 193 (memSt 29 7) "BytesIO.__exit__" 1 0 0 7 ["self", "args"] vn md7 ( d7 289 707 196 (memSt 29 8) "BytesIO.readable" 1 0 0 3 ["self"] vn md7 ( d7 296 714 200 (memSt 29 9) "BytesIO.writable" 1 0 0 3 ["self"] vn md7 ( d7 303 721 204 (memSt 29 10) "BytesIO.seekable" 1 0 0 3 ["self"] vn md7 ( d7 310 728 208 (memSt 29 11) "BytesIO.isatty" 1 0 0 3 ["self"] vn md7 ( d7 317 735 212 (memSt 29 12) "BytesIO.flush" 1 0 0 3 ["self"] vn md7 ( d7 324 742 215 (memSt 29 13) "BytesIO.fileno" 1 0 0 3 ["self"] vn md7 ( d7 331 749 218 (memSt 29 14) "BytesIO.detach" 1 0 0 3 ["self"] vn md7 ( d7 338 756 221 (memSt 29 15) "BytesIO.getvalue" 1 0 0 3 ["self"] vn md7 ( d7 345 763 224 (memSt 29 16) "BytesIO.getbuffer" 1 0 0 3 ["self"] vn md7 ( d7 352 770 227 (memSt 29 17) "BytesIO.tell" 1 0 0 3 ["self"] vn md7 ( (oT [(vI 0 777)]) :: d7 360 778 231 (memSt 29 18) "BytesIO.seek" 3 3 0 3 ["self", "pos", "whence"] (vr 359) md7 ( (oT [vn]) :: d7 368 787 248 (memSt 29 19) "BytesIO.truncate" 2 2 0 3 ["self", "size"] (vr 367) md7 ( (oT [(Value.int (.negSucc 0) 796)]) :: d7 376 797 251 (memSt 29 20) "BytesIO.read" 2 2 0 3 ["self", "size", "start", "stop"] (vr 375) md7 ( (oT [(Value.int (.negSucc 0) 808)]) :: d7 384 809 265 (memSt 29 21) "BytesIO.read1" 2 2 0 3 ["self", "size"] (vr 383) md7 ( d7 391 817 268 (memSt 29 22) "BytesIO.readinto" 2 2 0 3 ["self", "buffer", "start", "n"] vn md7 ( d7 398 827 282 (memSt 29 23) "BytesIO.readinto1" 2 2 0 3 ["self", "buffer"] vn md7 ( (oT [(Value.int (.negSucc 0) 836)]) :: d7 406 837 285 (memSt 29 24) "BytesIO.readline" 2 2 0 3 ["self", "size"] (vr 405) md7 ( (oT [vn]) :: d7 414 845 292 (memSt 29 25) "BytesIO.readlines" 2 2 0 3 ["self", "size"] (vr 413) md7 ( d7 421 853 295 (memSt 29 26) "BytesIO.__iter__" 1 0 0 3 ["self"] vn md7 ( d7 428 860 298 (memSt 29 27) "BytesIO.__next__" 1 0 0 3 ["self", "line"] vn md7 ( d7 435 868 305 (memSt 29 28) "BytesIO.write" 2 2 0 3 ["self", "b", "n", "start"] vn md7 ( d7 442 878 321 (memSt 29 29) "BytesIO.writelines" 2 2 0 3 ["self", "lines"] vn md7 ( d7 449 886 324 (memSt 29 30) "BytesIO.__repr__" 1 0 0 3 ["self"] vn md7 ( (oT [(vs "__buf" 893), (vs "__pos" 894)]) :: ob457 P :: ob458 P :: (⟨(vt "super"), none, (.fields ⟨[(vr 458), (vr 458), (vr 458)]⟩), #[]⟩) :: (⟨(vt "builtin_function_or_method"), none, (.fields ⟨[(vB "object.__init_subclass__"), (vr 458)]⟩), #[]⟩) :: r))))))))))))))))))))))))))))))
noncomputable def hc461 (P : Params) (r : List Obj) : List Obj :=
  (oT [(vr 228)]) :: (⟨(vt "builtin_function_or_method"), none, (.fields ⟨[(vB "type.__prepare__"), (vt "type")]⟩), #[]⟩) :: (oD [en P "__module__" 906 (vs "_io" 911), en P "__qualname__" 908 (vs "StringIO" 907), en P "__firstlineno__" 910 (vI 326 909), en P "__init__" 923 (vr 475), en P "_StringIO__translated" 932 (vr 482), en P "_StringIO__check" 939 (vr 489), en P "_StringIO__check_dot" 946 (vr 496), en P "_StringIO__line" 961 (vr 503), en P "closed" 969 (vr 511), en P "line_buffering" 977 (vr 519), en P "newlines" 985 (vr 527), en P "encoding" 993 (vr 535), en P "errors" 1001 (vr 543), en P "close" 1008 (vr 550), en P "__enter__" 1015 (vr 557), en P "__exit__" 1023 (vr 564), en P "readable" 1030 (vr 571), en P "writable" 1037 (vr 578), en P "seekable" 1044 (vr 585), en P "isatty" 1051 (vr 592), en P "flush" 1058 (vr 599), en P "fileno" 1065 (vr 606), en P "detach" 1072 (vr 613), en P "getvalue" 1079 (vr 620), en P "tell" 1086 (vr 627), en P "seek" 1096 (vr 635), en P "truncate" 1104 (vr 643), en P "read" 1116 (vr 651), en P "readline" 1126 (vr 659), en P "readlines" 1136 (vr 667), en P "__iter__" 1143 (vr 674), en P "__next__" 1151 (vr 681), en P "write" 1163 (vr 688), en P "writelines" 1171 (vr 695), en P "__repr__" 1178 (vr 702), en P "__static_attributes__" 1182 (vr 703)] 36) :: oE :: (oF [(vi 329), (vi 4), (vr 474), (vi 342), (vi 4), (vr 481), (vi 350), (vi 4), (vr 488), (vi 354), (vi 4), (vr 495), (vi 358), (vi 4), (vr 502), (vi 391), (vi 4), (vr 509), (vi 395), (vi 4), (vr 517), (vi 399), (vi 4), (vr 525), (vi 403), (vi 4), (vr 533), (vi 407), (vi 4), (vr 541), (vi 410), (vi 4), (vr 549), (vi 413), (vi 4), (vr 556), (vi 417), (vi 4), (vr 563), (vi 420), (vi 4), (vr 570), (vi 424), (vi 4), (vr 577), (vi 428), (vi 4), (vr 584), (vi 432), (vi 4), (vr 591), (vi 436), (vi 4), (vr 598), (vi 439), (vi 4), (vr 605), (vi 442), (vi 4), (vr 612), (vi 445), (vi 4), (vr 619), (vi 448), (vi 4), (vr 626), (vi 452), (vi 4), (vr 634), (vi 469), (vi 4), (vr 642), (vi 472), (vi 4), (vr 650), (vi 486), (vi 4), (vr 658), (vi 493), (vi 4), (vr 666), (vi 496), (vi 4), (vr 673), (vi 500), (vi 4), (vr 680), (vi 507), (vi 4), (vr 687), (vi 526), (vi 4), (vr 694), (vi 529), (vi 4), (vr 701)]) :: (oK "StringIO" "StringIO" 901 326 0 0 0 0 464 false 465 vn vn vn vn 904) :: (⟨(vt "frame"), none, .plain, #[some (vr 466), some (vr 3), some (vr 463), none, some (vs "io" 529), none, some (vr 0)]⟩) :: ob468 P :: d7 469 915 329 (memSt 30 1) "StringIO.__init__" 3 0 0 3 ["self", "initial_value", "newline"] (vr 468) md7 ( d7 476 924 342 (memSt 30 2) "StringIO.__translated" 2 0 0 3 ["self", "s", "newline"] vn md7 ( d7 483 933 350 (memSt 30 3) "StringIO.__check" 1 0 0 3 ["self"] vn md7 ( d7 490 940 354 (memSt 30 4) "StringIO.__check_dot" 1 0 0 3 ["self"] vn md7 ( d7 497 947 358 (memSt 30 5) "StringIO.__line" 2 0 0 3 ["self", "limit", "start", "stop", "cut", "newline", "i", "j", "end"] vn md7 ( d7 504 962 390 (memSt 30 6) "StringIO.closed" 1 0 0 3 ["self"] vn md7 ( (⟨(vt "property"), none, (.fields ⟨[(vr 510), vn, vn, vn, (vs "closed" 969), (vb false)]⟩), #[]⟩) :: d7 512 970 394 (memSt 30 7) "StringIO.line_buffering" 1 0 0 3 ["self"] vn md7 ( (⟨(vt "property"), none, (.fields ⟨[(vr 518), vn, vn, vn, (vs "line_buffering" 977), (vb false)]⟩), #[]⟩) :: d7 520 978 398 (memSt 30 8) "StringIO.newlines" 1 0 0 3 ["self"] vn md7 ( (⟨(vt "property"), none, (.fields ⟨[(vr 526), vn, vn, vn, (vs "newlines" 985), (vb false)]⟩), #[]⟩) :: d7 528 986 402 (memSt 30 9) "StringIO.encoding" 1 0 0 3 ["self"] vn md7 ( (⟨(vt "property"), none, (.fields ⟨[(vr 534), vn, vn, vn, (vs "encoding" 993), (vb false)]⟩), #[]⟩) :: d7 536 994 406 (memSt 30 10) "StringIO.errors" 1 0 0 3 ["self"] vn md7 ( (⟨(vt "property"), none, (.fields ⟨[(vr 542), vn, vn, vn, (vs "errors" 1001), (vb false)]⟩), #[]⟩) :: d7 544 1002 410 (memSt 30 11) "StringIO.close" 1 0 0 3 ["self"] vn md7 ( d7 551 1009 413 (memSt 30 12) "StringIO.__enter__" 1 0 0 3 ["self"] vn md7 ( d7 558 1016 417 (memSt 30 13) "StringIO.__exit__" 1 0 0 7 ["self", "args"] vn md7 ( d7 565 1024 420 (memSt 30 14) "StringIO.readable" 1 0 0 3 ["self"] vn md7 ( d7 572 1031 424 (memSt 30 15) "StringIO.writable" 1 0 0 3 ["self"] vn md7 ( d7 579 1038 428 (memSt 30 16) "StringIO.seekable" 1 0 0 3 ["self"] vn md7 ( d7 586 1045 432 (memSt 30 17) "StringIO.isatty" 1 0 0 3 ["self"] vn md7 ( d7 593 1052 436 (memSt 30 18) "StringIO.flush" 1 0 0 3 ["self"] vn md7 ( d7 600 1059 439 (memSt 30 19) "StringIO.fileno" 1 0 0 3 ["self"] vn md7 ( d7 607 1066 442 (memSt 30 20) "StringIO.detach" 1 0 0 3 ["self"] vn md7 ( d7 614 1073 445 (memSt 30 21) "StringIO.getvalue" 1 0 0 3 ["self"] vn md7 ( d7 621 1080 448 (memSt 30 22) "StringIO.tell" 1 0 0 3 ["self"] vn md7 ( (oT [(vI 0 1087)]) :: d7 629 1088 452 (memSt 30 23) "StringIO.seek" 3 3 0 3 ["self", "pos", "whence"] (vr 628) md7 ( (oT [vn]) :: d7 637 1097 469 (memSt 30 24) "StringIO.truncate" 2 2 0 3 ["self", "pos"] (vr 636) md7 ( ob644 P :: d7 645 1107 472 (memSt 30 25) "StringIO.read" 2 2 0 3 ["self", "size", "start", "stop"] (vr 644) md7 ( (oT [(Value.int (.negSucc 0) 1118)]) :: d7 653 1119 486 (memSt 30 26) "StringIO.readline" 2 2 0 3 ["self", "size"] (vr 652) md7 ( (oT [(Value.int (.negSucc 0) 1128)]) :: d7 661 1129 493 (memSt 30 27) "StringIO.readlines" 2 2 0 3 ["self", "hint"] (vr 660) md7 ( d7 668 1137 496 (memSt 30 28) "StringIO.__iter__" 1 0 0 3 ["self"] vn md7 ( d7 675 1144 500 (memSt 30 29) "StringIO.__next__" 1 0 0 3 ["self", "line"] vn md7 ( d7 682 1152 507 (memSt 30 30) "StringIO.write" 2 2 0 3 ["self", "s", "n", "m", "start", "buf"] vn md7 ( d7 689 1164 526 (memSt 30 31) "StringIO.writelines" 2 2 0 3 ["self", "lines"] vn md7 ( d7 696 1172 529 (memSt 30 32) "StringIO.__repr__" 1 0 0 3 ["self"] vn md7 ( (oT [(vs "__buf" 1179), (vs "__newline" 1180), (vs "__pos" 1181)]) :: ob704 P :: ob705 P :: (⟨(vt "super"), none, (.fields ⟨[(vr 705), (vr 705), (vr 705)]⟩), #[]⟩) :: (⟨(vt "builtin_function_or_method"), none, (.fields ⟨[(vB "object.__init_subclass__"), (vr 705)]⟩), #[]⟩) :: r))))))))))))))))))))))))))))))))
noncomputable def hc708 (P : Params) (r : List Obj) : List Obj :=
  d7 708 1188 532 (topSt 32) "_kind" 2 0 0 3 ["name", "x", "t"] vn md8 ( d7 715 1197 553 (topSt 33) "_fspath" 2 0 0 3 ["name", "x", "k"] vn md8 ( d7 722 1206 558 (topSt 34) "_check_arg_types" 1 0 0 7 ["funcname", "args", "s", "k"] vn md8 ( d7 729 1217 564 (topSt 36) "isabs" 1 0 0 3 ["s"] vn md8 ( d7 736 1224 567 (topSt 37) "join" 1 0 0 7 ["a", "p", "b", "sep", "path"] vn md8 ( d7 743 1236 588 (topSt 39) "dirname" 1 0 0 3 ["p", "sep", "i", "head"] vn md8 ( oE :: (⟨(vt "builtin_function_or_method"), none, (.fields ⟨[(vB "type.__prepare__"), (vt "type")]⟩), #[]⟩) :: (oD [en P "__module__" 1255 (vs "cpy313.shlex" 1246), en P "__qualname__" 1257 (vs "shlex" 1256), en P "__firstlineno__" 1259 (vI 597 1258), en P "__init__" 1271 (vr 764), en P "punctuation_chars" 1279 (vr 772), en P "push_token" 1287 (vr 779), en P "push_source" 1296 (vr 787), en P "pop_source" 1303 (vr 794), en P "get_token" 1315 (vr 801), en P "read_token" 1326 (vr 808), en P "sourcehook" 1334 (vr 815), en P "error_leader" 1343 (vr 823), en P "__iter__" 1350 (vr 830), en P "__next__" 1358 (vr 837), en P "__static_attributes__" 1379 (vr 838)] 15) :: oE :: (oF [(vi 599), (vi 4), (vr 763), (vi 641), (vi 4), (vr 770), (vi 644), (vi 4), (vr 778), (vi 647), (vi 4), (vr 786), (vi 660), (vi 4), (vr 793), (vi 667), (vi 4), (vr 800), (vi 694), (vi 4), (vr 807), (vi 831), (vi 4), (vr 814), (vi 838), (vi 4), (vr 822), (vi 841), (vi 4), (vr 829), (vi 844), (vi 4), (vr 836)]) :: (oK "shlex" "shlex" 1250 597 0 0 0 0 753 false 754 vn vn vn vn 1253) :: (⟨(vt "frame"), none, .plain, #[some (vr 755), some (vr 3), some (vr 752), none, some (vs "cpy313.shlex" 1246), none, some (vr 0)]⟩) :: ob757 P :: d7 758 1260 599 (memSt 41 0) "shlex.__init__" 5 0 0 3 ["self", "instream", "infile", "posix", "punctuation_chars", "t"] (vr 757) md9 ( d7 765 1272 640 (memSt 41 1) "shlex.punctuation_chars" 1 0 0 3 ["self"] vn md9 ( ob772 P :: d7 773 1280 644 (memSt 41 2) "shlex.push_token" 2 0 0 3 ["self", "tok"] vn md9 ( (oT [vn]) :: d7 781 1288 647 (memSt 41 3) "shlex.push_source" 3 0 0 3 ["self", "newstream", "newfile"] (vr 780) md9 ( d7 788 1297 660 (memSt 41 4) "shlex.pop_source" 1 0 0 3 ["self"] vn md9 ( d7 795 1304 667 (memSt 41 5) "shlex.get_token" 1 0 0 3 ["self", "tok", "raw", "spec", "newfile", "newstream"] vn md9 ( d7 802 1316 694 (memSt 41 6) "shlex.read_token" 1 0 0 3 ["self", "quoted", "escapedstate", "nextchar", "result"] vn md9 ( d7 809 1327 831 (memSt 41 7) "shlex.sourcehook" 2 0 0 3 ["self", "newfile"] vn md9 ( (oT [vn, vn]) :: d7 817 1335 838 (memSt 41 8) "shlex.error_leader" 3 0 0 3 ["self", "infile", "lineno"] (vr 816) md9 ( d7 824 1344 841 (memSt 41 9) "shlex.__iter__" 1 0 0 3 ["self"] vn md9 ( d7 831 1351 844 (memSt 41 10) "shlex.__next__" 1 0 0 3 ["self", "token"] vn md9 ( (oT [(vs "_punctuation_chars" 1359), (vs "_pushback_chars" 1360), (vs "commenters" 1361), (vs "debug" 1362), (vs "eof" 1363), (vs "escape" 1364), (vs "escapedquotes" 1365), (vs "filestack" 1366), (vs "infile" 1367), (vs "instream" 1368), (vs "lineno" 1369), (vs "posix" 1370), (vs "pushback" 1371), (vs "quotes" 1372), (vs "source" 1373), (vs "state" 1374), (vs "token" 1375), (vs "whitespace" 1376), (vs "whitespace_split" 1377), (vs "wordchars" 1378)]) :: ob839 P :: ob840 P :: ob841 P :: ob842 P :: (⟨(vt "super"), none, (.fields ⟨[(vr 840), (vr 840), (vr 840)]⟩), #[]⟩) :: (⟨(vt "builtin_function_or_method"), none, (.fields ⟨[(vB "object.__init_subclass__"), (vr 840)]⟩), #[]⟩) :: ob845 P :: d7 846 1387 849 (topSt 42) "split" 3 0 0 3 ["s", "comments", "posix", "lex"] (vr 845) md9 ( ob853 P :: d7 854 1399 858 (topSt 44) "quote" 1 0 0 3 ["s"] vn md9 ( d7 861 1408 865 (topSt 46) "_law_tour" 1 0 0 3 ["script", "root", "ups", "names", "words", "places", "k", "x", "name", "more", "kept", "way", "front", "over", "pieces", "detour"] vn md10 ( d7 868 1430 901 (topSt 47) "_law_spell" 2 0 0 3 ["word", "style", "text", "k", "half"] vn md10 ( d7 875 1441 915 (topSt 48) "_law_line" 2 0 0 3 ["words", "script", "line", "k", "x", "white"] vn md10 ( oE :: oG :: (oN (fnB (topSt 49) "_law_text")) :: ob885 P :: ob886 P :: oE :: oG :: (oN (fnB (topSt 50) "law")) :: ob890 P :: ob891 P :: r))))))))))))))))))))))
noncomputable def hp0 (P : Params) : List Obj := hc0 P (ob2 P 13) (ob3 P md0 124 138 10) []
noncomputable def hp1 (P : Params) : List Obj := hc0 P (ob2 P 13) (ob3 P md0 124 138 10) (hc34 P (ob35 0) [])
noncomputable def hp2 (P : Params) : List Obj := hc0 P (ob2 P 13) (ob3 P md6 124 138 24) (hc34 P (ob35 33) (hc38 P []))
noncomputable def hp3 (P : Params) : List Obj := hc0 P (ob2 P 15) (ob3 P md7 124 138 30) (hc34 P (ob35 51) (hc38 P (hc158 P (ob216 []) (ob228 []) [])))
noncomputable def hp4 (P : Params) : List Obj := hc0 P (ob2 P 15) (ob3 P md7 124 138 31) (hc34 P (ob35 54) (hc38 P (hc158 P (ob216 [(vr 458)]) (ob228 []) (hc231 P []))))
noncomputable def hp5 (P : Params) : List Obj := hc0 P (ob2 P 15) (ob3 P md7 124 138 32) (hc34 P (ob35 57) (hc38 P (hc158 P (ob216 [(vr 458)]) (ob228 [(vr 705)]) (hc231 P (hc461 P [])))))
noncomputable def hp6 (P : Params) : List Obj := hc0 P (ob2 P 15) (ob3 P md10 728 742 47) (hc34 P (ob35 99) (hc38 P (hc158 P (ob216 [(vr 458)]) (ob228 [(vr 705)]) (hc231 P (hc461 P (hc708 P []))))))
noncomputable def kAs : List Nat := [2, 3, 43, 44, 116, 117, 123, 124, 130, 131, 137, 138, 144, 145, 151, 152, 156, 157, 170, 171, 197, 198, 200, 201, 202, 203, 215, 216, 227, 228, 457, 458, 468, 474, 475, 481, 482, 488, 489, 644, 650, 651, 704, 705, 757, 763, 764, 770, 771, 772, 800, 801, 807, 808, 829, 830, 836, 837, 839, 840, 841, 842, 845, 851, 852, 853, 859, 860, 866, 867, 873, 874, 880, 881, 885, 886, 890, 891]
noncomputable def kfr (P : Params) : Frag := [(2, ob2 P 15), (3, ob3 P md10 728 742 47), (43, k7 38 324 3 (topSt 2) "_wall" 1 0 0 3 ["k"]), (44, f7 38 (topSt 2) "_wall" vn md0), (116, k7 111 420 37 (topSt 11) "fspath" 1 0 0 3 ["path", "kind", "hook", "given"]), (117, f7 111 (topSt 11) "fspath" vn md4), (123, k7 118 432 54 (topSt 13) "_check_arg_types" 1 0 0 7 ["funcname", "args", "hasstr", "hasbytes", "s"]), (124, f7 118 (topSt 13) "_check_arg_types" vn md5), (130, k7 125 446 67 (topSt 16) "_get_sep" 1 0 0 3 ["path"]), (131, f7 125 (topSt 16) "_get_sep" vn md6), (137, k7 132 453 72 (topSt 17) "join" 1 0 0 7 ["a", "p", "sep", "path", "b"]), (138, f7 132 (topSt 17) "join" vn md6), (144, k7 139 465 90 (topSt 19) "splitroot" 1 0 0 3 ["p", "sep", "empty"]), (145, f7 139 (topSt 19) "splitroot" vn md6), (151, k7 146 474 104 (topSt 20) "normpath" 1 0 0 3 ["path", "sep", "dot", "dotdot", "_", "initial_slashes", "comps", "new_comps", "comp"]), (152, f7 146 (topSt 20) "normpath" vn md6), (156, ob156 P), (157, ob157 P), (170, k7 165 539 136 (topSt 24) "_index" 2 0 0 3 ["n", "what"]), (171, f7 165 (topSt 24) "_index" vn md7), (197, k7 192 583 148 (memSt 26 1) "IOBase.__new__" 1 1 0 15 ["cls", "args", "kwargs"]), (198, f7 192 (memSt 26 1) "IOBase.__new__" vn md7), (200, ob200 P), (201, ob201 P), (202, ob202 P), (203, ob203 P), (215, ob215 P), (216, ob216 [(vr 458)]), (227, ob227 P), (228, ob228 [(vr 705)]), (457, ob457 P), (458, ob458 P), (468, ob468 P), (474, k7 469 915 329 (memSt 30 1) "StringIO.__init__" 3 0 0 3 ["self", "initial_value", "newline"]), (475, f7 469 (memSt 30 1) "StringIO.__init__" (vr 468) md7), (481, k7 476 924 342 (memSt 30 2) "StringIO.__translated" 2 0 0 3 ["self", "s", "newline"]), (482, f7 476 (memSt 30 2) "StringIO.__translated" vn md7), (488, k7 483 933 350 (memSt 30 3) "StringIO.__check" 1 0 0 3 ["self"]), (489, f7 483 (memSt 30 3) "StringIO.__check" vn md7), (644, ob644 P), (650, k7 645 1107 472 (memSt 30 25) "StringIO.read" 2 2 0 3 ["self", "size", "start", "stop"]), (651, f7 645 (memSt 30 25) "StringIO.read" (vr 644) md7), (704, ob704 P), (705, ob705 P), (757, ob757 P), (763, k7 758 1260 599 (memSt 41 0) "shlex.__init__" 5 0 0 3 ["self", "instream", "infile", "posix", "punctuation_chars", "t"]), (764, f7 758 (memSt 41 0) "shlex.__init__" (vr 757) md9), (770, k7 765 1272 640 (memSt 41 1) "shlex.punctuation_chars" 1 0 0 3 ["self"]), (771, f7 765 (memSt 41 1) "shlex.punctuation_chars" vn md9), (772, ob772 P), (800, k7 795 1304 667 (memSt 41 5) "shlex.get_token" 1 0 0 3 ["self", "tok", "raw", "spec", "newfile", "newstream"]), (801, f7 795 (memSt 41 5) "shlex.get_token" vn md9), (807, k7 802 1316 694 (memSt 41 6) "shlex.read_token" 1 0 0 3 ["self", "quoted", "escapedstate", "nextchar", "result"]), (808, f7 802 (memSt 41 6) "shlex.read_token" vn md9), (829, k7 824 1344 841 (memSt 41 9) "shlex.__iter__" 1 0 0 3 ["self"]), (830, f7 824 (memSt 41 9) "shlex.__iter__" vn md9), (836, k7 831 1351 844 (memSt 41 10) "shlex.__next__" 1 0 0 3 ["self", "token"]), (837, f7 831 (memSt 41 10) "shlex.__next__" vn md9), (839, ob839 P), (840, ob840 P), (841, ob841 P), (842, ob842 P), (845, ob845 P), (851, k7 846 1387 849 (topSt 42) "split" 3 0 0 3 ["s", "comments", "posix", "lex"]), (852, f7 846 (topSt 42) "split" (vr 845) md9), (853, ob853 P), (859, k7 854 1399 858 (topSt 44) "quote" 1 0 0 3 ["s"]), (860, f7 854 (topSt 44) "quote" vn md9), (866, k7 861 1408 865 (topSt 46) "_law_tour" 1 0 0 3 ["script", "root", "ups", "names", "words", "places", "k", "x", "name", "more", "kept", "way", "front", "over", "pieces", "detour"]), (867, f7 861 (topSt 46) "_law_tour" vn md10), (873, k7 868 1430 901 (topSt 47) "_law_spell" 2 0 0 3 ["word", "style", "text", "k", "half"]), (874, f7 868 (topSt 47) "_law_spell" vn md10), (880, k7 875 1441 915 (topSt 48) "_law_line" 2 0 0 3 ["words", "script", "line", "k", "x", "white"]), (881, f7 875 (topSt 48) "_law_line" vn md10), (885, ob885 P), (886, ob886 P), (890, ob890 P), (891, ob891 P)]
noncomputable def KK (w : World) : Frag := kfr w.params
noncomputable def hs (l : List Obj) : Heap := ⟨⟨l⟩, {}⟩
noncomputable def ztB : List Stmt := behindTheImports PG
noncomputable def ztE : Env := { scope := PG.main.scope, locals := mainNs, globals := mainNs, cells := [], code := .ref 36, frame := some 37 }
noncomputable def ztC : Code := .body ztB ztE
noncomputable def zq0 : Pos := ⟨0, 0, 0, 0⟩
noncomputable def zS (l : List Obj) (k : Nat) (os : OsState) : Shared := ⟨hs l, #[], {}, k, os⟩
noncomputable def zb1 : List Stmt := ztB.take 20
noncomputable def zb2 : List Stmt := (ztB.drop 20).take 7
noncomputable def zb3 : List Stmt := (ztB.drop 27).take 1
noncomputable def zb4 : List Stmt := (ztB.drop 28).take 1
noncomputable def zb5 : List Stmt := ztB.drop 29
noncomputable abbrev zAnn : Option Value := some (.ref 6)
noncomputable def zRun (w : World) (n : Nat) (b : List Stmt) (p : Pos) (s : Shared) : Option (Flow × Shared × Code × Pos) := segRun treeTable PG w 34 zAnn 1 n s (piecesOf b ztE ztC p [topFrame zq0])
noncomputable def zq1 : Pos := ⟨129, 0, 129, 10⟩
noncomputable def zq2 : Pos := ⟨154, 0, 155, 21⟩
noncomputable def zq3 : Pos := ⟨156, 0, 325, 17⟩
noncomputable def zq4 : Pos := ⟨326, 0, 530, 17⟩
noncomputable def zq5 : Pos := ⟨926, 0, 934, 56⟩
noncomputable def btL : Nat → List Obj → BT → BT
  | _, [], t => t
  | i, o :: r, t => btL (i + 1) r (t.ins i o)
noncomputable def zT (l : List Obj) (n k : Nat) (os : OsState) : SharedT := ⟨btL 0 l .nil, n, {}, #[], {}, k, os⟩
noncomputable def zRunT (w : World) (n : Nat) (b : List Stmt) (p : Pos) (s : SharedT) : Option (Flow × SharedT × Code × Pos) := Fast.tw10110043849684766642 Fast.tw14364793385576792824 PG w 34 zAnn 1 n s (piecesOf b ztE ztC p [topFrame zq0])
noncomputable abbrev zAbs (l : List Obj) (n : Nat) : Prop := absHeap (btL 0 l .nil) n {} = hs l
theorem zRun_of {w : World} {os : OsState} {N n n' k k' : Nat} {b : List Stmt} {p p' : Pos} {l l' : List Obj} (h : zRunT w N b p (zT l n k os) = some (.next, zT l' n' k' os, ztC, p')) (e : zAbs l n) (e' : zAbs l' n') :
    zRun w N b p (zS l k os) = some (.next, zS l' k' os, ztC, p') := by
  unfold zRunT at h
  rw [← Fast.te10110043849684766642, ← Fast.te14364793385576792824] at h
  have q := segRun_of h
  unfold zT SharedT.abs at q
  dsimp only at q
  rw [e, e'] at q
  exact q
theorem e_1 (P : Params) : zAbs (hp1 P) 38 := by kernel_rfl
theorem e_2 (P : Params) : zAbs (hp2 P) 158 := by kernel_rfl
theorem e_3 (P : Params) : zAbs (hp3 P) 231 := by kernel_rfl
theorem e_4 (P : Params) : zAbs (hp4 P) 461 := by kernel_rfl
theorem e_5 (P : Params) : zAbs (hp5 P) 708 := by kernel_rfl
theorem e_6 (P : Params) : zAbs (hp6 P) 892 := by kernel_rfl
noncomputable def qV : Program := view PG [50]
noncomputable def looseN : List Str := ["_sre", "deque", "_wall", "_plain_name", "ABCMeta", "_ABCLike", "_abc_plain_meta", "fspath", "_check_arg_types", "check_arg_types_genericpath", "_get_sep", "join", "join_posixpath", "splitroot", "normpath", "_twin_re_1", "_whence", "_index", "UnsupportedOperation", "IOBase", "BufferedIOBase", "TextIOBase", "BytesIO", "StringIO", "_kind", "_fspath", "check_arg_types_path", "isabs", "join_path", "dirname", "shlex", "split", "_find_unsafe", "quote", "_law_tour", "_law_spell", "_law_line", "_law_text"].map Str.ofString
noncomputable def HK : Hook := kHook kfr kAs (fun _ => by kernel_rfl)
noncomputable def Xq (s : Shared) : Bool := xlAt qV [] s && recOk [] s
noncomputable abbrev rP : Program := PySem.Challenge.rw_pd0003_01.row.prog
theorem none3 {α : Type} {f : α → Bool} {a b c : α} (h1 : f a = false) (h2 : f b = false) (h3 : f c = false) : [a, b, c].filter f = [] := by
  rw [List.filter_cons, h1, List.filter_cons, h2, List.filter_cons, h3]; rfl
theorem road_app {lk : Look} {b : List Stmt} (k : noRoadLSs lk b = true) : ∀ {a : List Stmt}, noRoadLSs lk a = true → noRoadLSs lk (a ++ b) = true
  | [], _ => k
  | s :: r, h => by
    rw [List.cons_append, noRoadLSs]
    rw [noRoadLSs] at h
    have h := Bool.and_eq_true_iff.mp h
    rw [h.1, road_app k h.2]; rfl
noncomputable abbrev rL : Look := { strict := false, foot := none, bare := [] }
theorem t_b1 : readsOut rP rP.main.body "vars" = false := by kernel_rfl
theorem t_b2 : readsOut rP rP.main.body "dir" = false := by kernel_rfl
theorem t_b3 : readsOut rP rP.main.body "locals" = false := by kernel_rfl
theorem t_imp : (importedModules rP.main.body).all cThrough.contains = true := by kernel_rfl
theorem t_r1 : noRoadLSs rL (rP.main.body.take 29) = true := by kernel_rfl
theorem t_r2 : noRoadLSs rL (rP.main.body.drop 29) = true := by kernel_rfl
theorem t_lo1 : namesResolve rP = true := by kernel_rfl
theorem t_lo2 : noRoadLSs { strict := !(importedModules rP.main.body).all cThrough.contains, foot := none, bare := (["vars", "dir", "locals"] : List Str).filter (readsOut rP rP.main.body) } rP.main.body = true := by
  rw [none3 t_b1 t_b2 t_b3, t_imp]
  have h := road_app t_r2 t_r1
  rw [List.take_append_drop] at h
  exact h
theorem t_lo3 : namesMeet rP rP.main.body (fun _ n => attrL n) = true := by kernel_rfl
theorem t_lo : looksOpen rP = true := by
  unfold looksOpen
  rw [t_lo1, t_lo2, t_lo3]
  kernel_rfl
theorem t_row : PySem.Challenge.rw_pd0003_01.row.wellSaid = true := by
  unfold OpenRow.wellSaid OpenRow.partSaid
  rw [t_lo]
  kernel_rfl
theorem t_said : PySem.Challenge.rw_pd0003_01.wellSaid = true := by
  unfold OpenLaw.wellSaid
  rw [t_row]
  kernel_rfl
theorem t_4T (w : World) (os : OsState) : zRunT w 2000 zb4 zq3 (zT (hp4 w.params) 461 899 os) = some (.next, zT (hp5 w.params) 708 1186 os, ztC, zq4) := by kernel_rfl
theorem t_4 (w : World) (os : OsState) : zRun w 2000 zb4 zq3 (zS (hp4 w.params) 899 os) = some (.next, zS (hp5 w.params) 1186 os, ztC, zq4) := zRun_of (t_4T w os) (e_4 _) (e_5 _)
theorem t_5T (w : World) (os : OsState) : zRunT w 2000 zb5 zq4 (zT (hp5 w.params) 708 1186 os) = some (.next, zT (hp6 w.params) 892 1465 os, ztC, zq5) := by kernel_rfl
theorem t_5 (w : World) (os : OsState) : zRun w 2000 zb5 zq4 (zS (hp5 w.params) 1186 os) = some (.next, zS (hp6 w.params) 1465 os, ztC, zq5) := zRun_of (t_5T w os) (e_5 _) (e_6 _)
theorem t_3T (w : World) (os : OsState) : zRunT w 1500 zb3 zq2 (zT (hp3 w.params) 231 637 os) = some (.next, zT (hp4 w.params) 461 899 os, ztC, zq3) := by kernel_rfl
theorem t_3 (w : World) (os : OsState) : zRun w 1500 zb3 zq2 (zS (hp3 w.params) 637 os) = some (.next, zS (hp4 w.params) 899 os, ztC, zq3) := zRun_of (t_3T w os) (e_3 _) (e_4 _)
theorem t_openT (w : World) : ((Fast.tw10274390034422433532 Fast.tw14364793385576792824 (opening PG) w 12000 (start (opening PG)).1 (start (opening PG)).2).bind (fenceModules? PG)).map (fun s => (s.heap, s.gens, s.drawn, s.toks)) = some (hs (hp0 w.params), #[], {}, 318) := by kernel_rfl
theorem t_open (w : World) : (fencedOpening treeTable PG w 12000).map (fun s => (s.heap, s.gens, s.drawn, s.toks)) = some (hs (hp0 w.params), #[], {}, 318) := by
  unfold fencedOpening
  rw [Fast.te10274390034422433532, Fast.te14364793385576792824]
  exact t_openT w
theorem t_1T (w : World) (os : OsState) : zRunT w 1500 zb1 zq0 (zT (hp1 w.params) 38 324 os) = some (.next, zT (hp2 w.params) 158 529 os, ztC, zq1) := by kernel_rfl
theorem t_1 (w : World) (os : OsState) : zRun w 1500 zb1 zq0 (zS (hp1 w.params) 324 os) = some (.next, zS (hp2 w.params) 529 os, ztC, zq1) := zRun_of (t_1T w os) (e_1 _) (e_2 _)
theorem t_2T (w : World) (os : OsState) : zRunT w 1500 zb2 zq1 (zT (hp2 w.params) 158 529 os) = some (.next, zT (hp3 w.params) 231 637 os, ztC, zq2) := by kernel_rfl
theorem t_2 (w : World) (os : OsState) : zRun w 1500 zb2 zq1 (zS (hp2 w.params) 529 os) = some (.next, zS (hp3 w.params) 637 os, ztC, zq2) := zRun_of (t_2T w os) (e_2 _) (e_3 _)
theorem t_size (w : World) : ((hs (hp0 w.params)).isNs mainGlobals && (#[] : Array GenState).size == 0, (hs (hp0 w.params)).objs.size, (hs (hp0 w.params)).nsMap mainGlobals "__annotations__") = (true, 34, zAnn) := by kernel_rfl
theorem t_pre (w : World) (os : OsState) : topGo treeTable PG w 34 zAnn 12 (zS (hp0 w.params) 318 os) (topStub PG) = some (zS (hp1 w.params) 324 os, ⟨denote treeTable (.body ztB ztE), ztC, zq0, [topFrame zq0]⟩) := by kernel_rfl
theorem t_block (w : World) (os : OsState) : segRun treeTable PG w 34 zAnn 1 1 (zS (hp1 w.params) 324 os) (blockOf ztB ztE ztC zq0 [topFrame zq0]) = some (.next, zS (hp1 w.params) 324 os, ztC, zq0) := by kernel_rfl
theorem t_fin (w : World) (os : OsState) : topRun treeTable PG w 34 zAnn 2 (zS (hp6 w.params) 1465 os) ⟨doneF .next, ztC, zq5, [topFrame zq0]⟩ = some (zS (hp6 w.params) 1465 os) := by kernel_rfl
theorem t_app : ztB = zb1 ++ (zb2 ++ (zb3 ++ (zb4 ++ (zb5 ++ [])))) := by kernel_rfl
theorem t_looks (w : World) : (fun os => ((staticsOk (importedModules PG.main.body) (hs (hp0 w.params)) (hs (hp6 w.params)) && namesBound PG (hs (hp6 w.params)) && gensDone ⟨hs (hp6 w.params), #[], {}, 1465, os⟩ && laidKept (hs (hp0 w.params)) (hs (hp6 w.params))),
    openSeen qV looseN (importedModules PG.main.body) Xq true ⟨hs (hp6 w.params), #[], {}, 1465, os⟩, HK.obs ⟨hs (hp6 w.params), #[], {}, 1465, os⟩)) = fun _ => (true, openGood qV looseN, HK.val w) := by kernel_rfl
theorem t_run (w : World) (os : OsState) : topRun treeTable PG w 34 zAnn (12 + (1 + (1500 + (1500 + (1500 + (2000 + (2000 + 2))))))) ⟨hs (hp0 w.params), #[], {}, 318, os⟩ (topStub PG) = some ⟨hs (hp6 w.params), #[], {}, 1465, os⟩ := by
  refine go_top (t_pre w os) (piece_block (t_block w os) ?_)
  rw [t_app]
  exact piece_app (t_1 w os) (piece_app (t_2 w os) (piece_app (t_3 w os) (piece_app (t_4 w os) (piece_app (t_5 w os) (piece_nil (t_fin w os))))))
theorem t_left : LeftO PG qV looseN Xq HK.obs HK.val 12000 :=
  LeftO.of_pieces (H₀ := fun P => hs (hp0 P)) (H₁ := fun P => hs (hp6 P)) t_open t_size t_run (by decide) t_looks
noncomputable abbrev zRow : OpenRow := PySem.Challenge.rw_pd0003_01.row
theorem t_def : (defOf qV zRow.name).isSome = true := by kernel_rfl
noncomputable def zD : DefRec × List (Str × Expr) := (defOf qV zRow.name).get t_def
theorem t_def1 : defOf qV zRow.name = some (zD.1, zD.2) := (Option.some_get t_def).symm
theorem t_def2 : zRow.prog.theDef zRow.name = some (zD.1.params, zD.1.body, zD.1.scope) := by kernel_rfl
theorem t_def3 : kwWritten? zD.1.params.kwonlyargs zD.1.params.kw_defaults = some zD.2 := by kernel_rfl
theorem t_wr : (!zRow.writes || zRow.records.isEmpty) = true := by kernel_rfl
theorem t_ok : (chainsOk qV && opensWell zRow.prog && (frees zRow.toRowW && zRow.within.isEmpty)) = true := by kernel_rfl
theorem t_bare : zRow.prog.bare := ⟨rfl, rfl, rfl, rfl, rfl, by decide +kernel⟩
theorem t_prom : zRow.toRowW.promised := ⟨[.list []], by decide +kernel, by decide +kernel⟩
theorem t_head (call : WalkO qV looseN (XL qV []) HK.says zRow.toRowW zD.1 zD.2 fun f vs => PySem.call f vs) : PySem.Challenge.rw_pd0003_01.Holds :=
  holds_law t_said fun said => holds_open (q := qV) (loose := looseN) (Xt := Xq) (Yf := HK.obs) (Ya := HK.val) (N := 12000) t_left HK.of HK.keeps (fun s e => xl_of s (Bool.and_eq_true_iff.mp e).1) XL.keeps
    t_def1 t_def2 t_def3 (fun s e => recFacts_of (Bool.and_eq_true_iff.mp e).2) t_wr said t_ok t_bare t_prom call
noncomputable abbrev MM (w : World) : Model := model PG w
noncomputable abbrev I (i : Int) : Value := .int i 0
noncomputable abbrev S (s : Str) : Value := .str s 0
theorem sz {a b c : Nat} (h : a ≤ b) (e : Nat.ble b c = true) : a ≤ c := Nat.le_trans h (Nat.le_of_ble_eq_true e)
inductive Teq : Value → Value → Prop
  | int (i : Int) (t u : Tok) : Teq (.int i t) (.int i u)
  | str (s : Str) (t u : Tok) : Teq (.str s t) (.str s u)
  | same (v : Value) : Teq v v
theorem Teq.int_inv {i : Int} {t : Tok} {v : Value} (h : Teq (.int i t) v) : ∃ u, v = .int i u := by
  cases h with
  | int => exact ⟨_, rfl⟩
  | same => exact ⟨_, rfl⟩
theorem Teq.str_inv {i : Str} {t : Tok} {v : Value} (h : Teq (.str i t) v) : ∃ u, v = .str i u := by
  cases h with
  | str => exact ⟨_, rfl⟩
  | same => exact ⟨_, rfl⟩
theorem Teq.ref_inv {a : Addr} {v : Value} (h : Teq (.ref a) v) : v = .ref a := by cases h; rfl
theorem Teq.bool_inv {b : Bool} {v : Value} (h : Teq (.bool b) v) : v = .bool b := by cases h; rfl
theorem Teq.none_inv {v : Value} (h : Teq .none v) : v = .none := by cases h; rfl
theorem Teq.type_inv {n : String} {v : Value} (h : Teq (.type n) v) : v = .type n := by cases h; rfl
theorem Teq.builtin_inv {n : String} {v : Value} (h : Teq (.builtin n) v) : v = .builtin n := by cases h; rfl
theorem Teq.i {i : Int} {u : Tok} : Teq (I i) (.int i u) := .int ..
theorem Teq.s {i : Str} {u : Tok} : Teq (S i) (.str i u) := .str ..
theorem Teq.symm {a b : Value} (h : Teq a b) : Teq b a := by
  cases h with
  | int => exact .int ..
  | str => exact .str ..
  | same => exact .same _
theorem Teq.trans {a b c : Value} (h : Teq a b) (k : Teq b c) : Teq a c := by
  cases h with
  | int => obtain ⟨u, rfl⟩ := k.int_inv; exact .int ..
  | str => obtain ⟨u, rfl⟩ := k.str_inv; exact .str ..
  | same => exact k
inductive TeqL : List Value → List Value → Prop
  | nil : TeqL [] []
  | cons {a b : Value} {l r : List Value} : Teq a b → TeqL l r → TeqL (a :: l) (b :: r)
theorem TeqL.length {l r : List Value} (h : TeqL l r) : l.length = r.length := by
  induction h with
  | nil => rfl
  | cons _ _ ih => simp [ih]
theorem TeqL.refl : ∀ l : List Value, TeqL l l
  | [] => .nil
  | v :: r => .cons (.same v) (TeqL.refl r)
theorem TeqL.append {a b c d : List Value} (h : TeqL a b) (k : TeqL c d) : TeqL (a ++ c) (b ++ d) := by
  induction h with
  | nil => exact k
  | cons x _ ih => exact .cons x ih
theorem TeqL.get {l r : List Value} (h : TeqL l r) : ∀ {i : Nat} {v : Value}, l[i]? = some v → ∃ u, r[i]? = some u ∧ Teq v u := by
  induction h with
  | nil => intro i v e; simp at e
  | cons x _ ih =>
    intro i v e
    cases i with
    | zero => simp at e; subst e; exact ⟨_, rfl, x⟩
    | succ i => simp at e; simpa using ih e
theorem TeqL.take {l r : List Value} (h : TeqL l r) : ∀ n, TeqL (l.take n) (r.take n) := by
  induction h with
  | nil => intro n; simp; exact .nil
  | cons x _ ih =>
    intro n
    cases n with
    | zero => exact .nil
    | succ n => exact .cons x (ih n)
theorem TeqL.drop {l r : List Value} (h : TeqL l r) : ∀ n, TeqL (l.drop n) (r.drop n) := by
  induction h with
  | nil => intro n; simp; exact .nil
  | cons x y ih =>
    intro n
    cases n with
    | zero => exact .cons x y
    | succ n => exact ih n
theorem TeqL.trans {a b c : List Value} (h : TeqL a b) (k : TeqL b c) : TeqL a c := by
  induction h generalizing c with
  | nil => exact k
  | cons x _ ih => cases k with | cons y k => exact .cons (x.trans y) (ih k)
inductive ORel : Option Value → Option Value → Prop
  | none : ORel .none .none
  | some {a b} : Teq a b → ORel (some a) (some b)
noncomputable abbrev Loc := List (Str × Option Value)
inductive AO where
  | list (xs : List Value)
  | tup (xs : List Value)
  | inst (C d : Addr)
  | idict (kvs : List (Str × Value))
  | cell (v : Option Value)
  | ns (m : Loc)
  | obj (o : Obj)
  | pred (P : Obj → Prop)
noncomputable def EntIs (P : Params) (kv : Str × Value) (e : DictEntry) : Prop := (∃ t, e.key = .str kv.1 t) ∧ e.hash = PyData.keyHash P kv.1 ∧ Teq kv.2 e.val
inductive EntsIs (P : Params) : List (Str × Value) → List DictEntry → Prop
  | nil : EntsIs P [] []
  | cons {a b l r} : EntIs P a b → EntsIs P l r → EntsIs P (a :: l) (b :: r)
noncomputable def AO.Is (P : Params) : AO → Obj → Prop
  | .list xs, o => ∃ arr n, o = ⟨.type "list", none, .seq arr n, #[]⟩ ∧ TeqL xs arr.toList
  | .tup xs, o => ∃ arr n, o = ⟨.type "tuple", none, .seq arr n, #[]⟩ ∧ TeqL xs arr.toList
  | .inst C d, o => o = ⟨.ref C, some d, .plain, #[]⟩
  | .idict kvs, o => (kvs.map (·.1)).Nodup ∧ ∃ es n, o = ⟨.type "dict", none, .dict es n, #[]⟩ ∧ EntsIs P kvs es.toList
  | .cell v, o => ∃ v', o.data = .cell v' ∧ ORel v v'
  | .ns m, o => (m.map (·.1)).Nodup ∧ ∃ es ep, o.data = .dict es ep ∧ StrKeys es ∧ ∀ x v, (x, some v) ∈ m → ∃ v', nsFind es x = some v' ∧ Teq v v'
  | .obj o', o => o = o'
  | .pred P', o => P' o
noncomputable abbrev Sto := List (Addr × AO)
structure HR (P : Params) (g : Heap) (σ : Sto) (h : Heap) : Prop where
  keep : ∀ b o, g.get? b = some o → h.get? b = some o
  own : ∀ p ∈ σ, g.get? p.1 = none ∧ ∃ o, h.get? p.1 = some o ∧ p.2.Is P o
  nd : (σ.map (·.1)).Nodup
structure Bg (w : World) (g : Heap) : Prop where
  kk : (KK w).In g
  nolim : g.NoLimit
  bn : ∃ mb, g.Ns builtinsNs mb ∧ ∀ x : Str, x ≠ "__name__" → mb x = bootBuiltins x
theorem Bg.keeps {w : World} {g g' : Heap} (b : Bg w g) (k : ∀ b o, g.get? b = some o → g'.get? b = some o) : Bg w g' :=
  ⟨b.kk.keeps k, b.nolim.keeps k, let ⟨mb, h1, h2⟩ := b.bn; ⟨mb, h1.keeps k, h2⟩⟩
structure Sr0 (w : World) (os : OsState) (g : Heap) (σ : Sto) (s : Shared) : Prop where
  hr : HR w.params g σ s.heap
  gens : s.gens = #[]
  os : s.os = os
structure Sr (w : World) (os : OsState) (g : Heap) (σ : Sto) (s : Shared) : Prop extends Sr0 w os g σ s where
  tk : 1 ≤ s.toks
theorem Sr0.toks {w : World} {os : OsState} {g : Heap} {σ : Sto} {s : Shared} (h : Sr0 w os g σ s) (t : Nat) : Sr0 w os g σ { s with toks := t } := ⟨h.hr, h.gens, h.os⟩
theorem Sr0.bg {w : World} {os : OsState} {g : Heap} {σ : Sto} {s : Shared} (h : Sr0 w os g σ s) (b : Bg w g) : Bg w s.heap := b.keeps h.hr.keep
theorem wm0 {α : Type} {M : Model} {A : Around} {t : Sem α} {Q Q' : α → Shared → Prop} {E E' : Value → Shared → Prop} {s : Shared} (tk : 1 ≤ s.toks) (h : wpAny M A t Q E s) (k : ∀ v s', 1 ≤ s'.toks → Q v s' → Q' v s') (kE : ∀ v s', E v s' → E' v s') : wpAny M A t Q' E' s :=
  wpAny_with_toks tk (wpAny_mono h (fun v s' q q' => k v s' q' q) (fun v s' q _ => kE v s' q))
theorem wm {α β : Type} {M : Model} {A : Around} {t : Sem α} {R : β → α → Prop} {Q : β → Loc → Sto → Prop} {Q' : α → Shared → Prop} {E E' : Value → Shared → Prop} {s : Shared} {w : World} {os : OsState} {g : Heap} {L : Addr} (tk : 1 ≤ s.toks)
    (h : wpAny M A t (fun v s' => ∃ b m' σ', R b v ∧ Q b m' σ' ∧ Sr0 w os g ((L, .ns m') :: σ') s') E s) (k : ∀ v s' b m' σ', R b v → Q b m' σ' → Sr w os g ((L, .ns m') :: σ') s' → Q' v s') (kE : ∀ v s', E v s' → E' v s') : wpAny M A t Q' E' s := by
  refine wm0 tk h ?_ kE
  rintro v s' tk ⟨b, m', σ', h1, h2, h3⟩
  exact k v s' b m' σ' h1 h2 ⟨h3, tk⟩
theorem wmx {α β : Type} {M : Model} {A : Around} {t : Sem α} {R : β → α → Prop} {Q : β → Loc → Sto → Prop} {Q' : α → Shared → Prop} {E E' : Value → Shared → Prop} {s : Shared} {w : World} {os : OsState} {g : Heap} {L : Addr} (tk : 1 ≤ s.toks)
    (h : wpAny M A t (fun v s' => ∃ b m' σ', R b v ∧ Q b m' σ' ∧ Sr0 w os g ((L, .ns m') :: σ') s') E s) (k : ∀ v s', (∃ b m' σ', R b v ∧ Q b m' σ' ∧ Sr w os g ((L, .ns m') :: σ') s') → Q' v s') (kE : ∀ v s', E v s' → E' v s') : wpAny M A t Q' E' s :=
  wm tk h (fun v s' b m' σ' h1 h2 h3 => k v s' ⟨b, m', σ', h1, h2, h3⟩) kE
theorem wpm {α β : Type} {M : Model} {A : Around} {t : Sem α} {R : β → α → Prop} {Q : β → Loc → Sto → Prop} {Q' : α → Shared → Prop} {E E' : Value → Shared → Prop} {s : Shared} {w : World} {os : OsState} {g : Heap} {L : Addr}
    (h : wpAny M A t (fun v s' => ∃ b m' σ', R b v ∧ Q b m' σ' ∧ Sr0 w os g ((L, .ns m') :: σ') s') E s) (k : ∀ v s' b m' σ', R b v → Q b m' σ' → Sr0 w os g ((L, .ns m') :: σ') s' → Q' v s') (kE : ∀ v s', E v s' → E' v s') : wpAny M A t Q' E' s := by
  refine wpAny_mono h ?_ kE
  rintro v s' ⟨b, m', σ', h1, h2, h3⟩
  exact k v s' b m' σ' h1 h2 h3
structure Fx where
  w : World
  A : Around
  g : Heap
  os : OsState
  L : Addr
  q : Str
  fn : Option Addr
  cd : Value
  fr : Option Addr
  cl : List (Str × Addr)
  E : Value → Shared → Prop
noncomputable def Fx.env (c : Fx) (sc : Scope) : Env := { scope := sc, locals := c.L, globals := mainGlobals, cells := c.cl, qual := c.q, func := c.fn, code := c.cd, frame := c.fr, builtins := builtinsNs }
noncomputable def Room (n : Nat) (A : Around) : Prop := A.depth + 2 * n < recursionLimit ∧ A.units + 30 * n < cLine
structure Fx.Ok (c : Fx) (n : Nat) : Prop where
  bg : Bg c.w c.g
  hh : c.A.handled = none
  room : Room n c.A
noncomputable def WT (c : Fx) {α β : Type} (R : β → α → Prop) (t : Sem α) (m : Loc) (σ : Sto) (Q : β → Loc → Sto → Prop) : Prop :=
  ∀ s, Sr c.w c.os c.g ((c.L, .ns m) :: σ) s → wpAny (MM c.w) c.A t (fun v s' => ∃ b m' σ', R b v ∧ Q b m' σ' ∧ Sr0 c.w c.os c.g ((c.L, .ns m') :: σ') s') c.E s
noncomputable abbrev We (c : Fx) (sc : Scope) (e : Expr) (m : Loc) (σ : Sto) (Q : Value → Loc → Sto → Prop) : Prop := WT c Teq (eval e (c.env sc)) m σ Q
noncomputable abbrev Wb (c : Fx) (sc : Scope) (e : Expr) (m : Loc) (σ : Sto) (Q : Bool → Loc → Sto → Prop) : Prop := WT c Eq (isTrue e (c.env sc) (eval e (c.env sc))) m σ Q
inductive FTeq : Flow → Flow → Prop
  | ret {v u : Value} : Teq v u → FTeq (.ret v) (.ret u)
  | next : FTeq .next .next
  | brk : FTeq .brk .brk
  | cont : FTeq .cont .cont
noncomputable abbrev W1 (c : Fx) (sc : Scope) (e : Stmt) (m : Loc) (σ : Sto) (Q : Flow → Loc → Sto → Prop) : Prop := WT c FTeq (exec e (c.env sc)) m σ Q
noncomputable abbrev Wx (c : Fx) (sc : Scope) (e : List Stmt) (m : Loc) (σ : Sto) (Q : Flow → Loc → Sto → Prop) : Prop := WT c FTeq (execs e (c.env sc)) m σ Q
section
variable {c : Fx} {α β γ δ : Type} {m : Loc} {σ : Sto}
theorem WT.mono {R : β → α → Prop} {t : Sem α} {Q Q' : β → Loc → Sto → Prop} (h : WT c R t m σ Q) (k : ∀ b m' σ', Q b m' σ' → Q' b m' σ') : WT c R t m σ Q' :=
  fun s hs => wpm (h s hs) (fun _ _ b m' σ' h1 h2 h3 => ⟨b, m', σ', h1, k _ _ _ h2, h3⟩) fun _ _ e => e
theorem WT.bind {R : β → α → Prop} {R' : δ → γ → Prop} {t : Sem α} {f : α → Sem γ} {Q : δ → Loc → Sto → Prop}
    (h : WT c R t m σ (fun b m' σ' => ∀ v, R b v → WT c R' (f v) m' σ' Q)) : WT c R' (t >>= f) m σ Q :=
  fun s hs => wpAny_bind (wm hs.tk (h s hs) (fun v s' b m' σ' h1 h2 h3 => h2 v h1 s' h3) fun _ _ e => e)
theorem WT.pure {R : β → α → Prop} {a : α} {b : β} {Q : β → Loc → Sto → Prop} (r : R b a) (h : Q b m σ) : WT c R (pure a) m σ Q :=
  fun s hs => wpAny_pure ⟨b, m, σ, r, h, hs.toSr0⟩
theorem HR.sub {P : Params} {g h : Heap} {σ σ' : Sto} (x : HR P g σ h) (hs : σ'.Sublist σ) : HR P g σ' h :=
  ⟨x.keep, fun p hp => x.own p (hs.subset hp), x.nd.sublist (hs.map _)⟩
theorem Sr0.sub {w : World} {os : OsState} {g : Heap} {σ σ' : Sto} {s : Shared} (x : Sr0 w os g σ s) (hs : σ'.Sublist σ) : Sr0 w os g σ' s := ⟨x.hr.sub hs, x.gens, x.os⟩
theorem Sr.sub {w : World} {os : OsState} {g : Heap} {σ σ' : Sto} {s : Shared} (x : Sr w os g σ s) (hs : σ'.Sublist σ) : Sr w os g σ' s := ⟨x.toSr0.sub hs, x.tk⟩
theorem HR.perm {P : Params} {g h : Heap} {σ σ' : Sto} (x : HR P g σ h) (hs : σ'.Perm σ) : HR P g σ' h :=
  ⟨x.keep, fun p hp => x.own p (hs.mem_iff.mp hp), (hs.map _).nodup_iff.mpr x.nd⟩
theorem Sr0.perm {w : World} {os : OsState} {g : Heap} {σ σ' : Sto} {s : Shared} (x : Sr0 w os g σ s) (hs : σ'.Perm σ) : Sr0 w os g σ' s := ⟨x.hr.perm hs, x.gens, x.os⟩
theorem Sr.perm {w : World} {os : OsState} {g : Heap} {σ σ' : Sto} {s : Shared} (x : Sr w os g σ s) (hs : σ'.Perm σ) : Sr w os g σ' s := ⟨x.toSr0.perm hs, x.tk⟩
theorem WT.sub {R : β → α → Prop} {t : Sem α} {Q : β → Loc → Sto → Prop} {σ' : Sto} (hs : σ'.Sublist σ) (h : WT c R t m σ' Q) : WT c R t m σ Q :=
  fun s x => h s (x.sub (.cons_cons _ hs))
theorem WT.perm {R : β → α → Prop} {t : Sem α} {Q : β → Loc → Sto → Prop} {σ' : Sto} (hs : σ'.Perm σ) (h : WT c R t m σ' Q) : WT c R t m σ Q :=
  fun s x => h s (x.perm (.cons _ hs))
end
theorem HR.frame {P : Params} {g h : Heap} {τ σ : Sto} (x : HR P g (τ ++ σ) h) :
    ∃ g', (∀ b o, g.get? b = some o → g'.get? b = some o) ∧ HR P g' σ h ∧ (∀ b o, g'.get? b = some o → h.get? b = some o) ∧ ∀ σ' h', HR P g' σ' h' → HR P g (τ ++ σ') h' := by
  have nmem : ∀ p ∈ τ ++ σ, ∀ b o, g.get? b = some o → b ≠ p.1 := fun p hp b o e q => by
    have := (x.own p hp).1; rw [← q, e] at this; cases this
  have nd := x.nd
  rw [List.map_append, List.nodup_append] at nd
  obtain ⟨ndτ, ndσ, dis⟩ := nd
  have kτ : ∀ p ∈ τ, ∃ o, (hideAll h (σ.map (·.1))).get? p.1 = some o ∧ p.2.Is P o := fun p hp => by
    obtain ⟨o, ho, hi⟩ := (x.own p (List.mem_append_left _ hp)).2
    refine ⟨o, hideAll_get _ ho fun q => ?_, hi⟩
    exact dis _ (List.mem_map_of_mem hp) _ q rfl
  refine ⟨hideAll h (σ.map (·.1)), fun b o e => ?_, ⟨fun b o e => of_hideAll _ e, fun p hp => ⟨hideAll_none _ (List.mem_map_of_mem hp), (x.own p (List.mem_append_right _ hp)).2⟩, ndσ⟩, fun b o e => of_hideAll _ e, fun σ' h' y => ?_⟩
  · refine hideAll_get _ (x.keep b o e) fun q => ?_
    obtain ⟨p, hp, e'⟩ := List.mem_map.mp q
    exact nmem p (List.mem_append_right _ hp) b o e e'.symm
  · have kg : ∀ b o, g.get? b = some o → (hideAll h (σ.map (·.1))).get? b = some o := fun b o e => by
      refine hideAll_get _ (x.keep b o e) fun q => ?_
      obtain ⟨p, hp, e'⟩ := List.mem_map.mp q
      exact nmem p (List.mem_append_right _ hp) b o e e'.symm
    refine ⟨fun b o e => y.keep b o (kg b o e), fun p hp => ?_, ?_⟩
    · rcases List.mem_append.mp hp with q | q
      · obtain ⟨o, ho, hi⟩ := kτ p q
        exact ⟨(x.own p (List.mem_append_left _ q)).1, o, y.keep _ _ ho, hi⟩
      · refine ⟨?_, (y.own p q).2⟩
        cases e : g.get? p.1 with
        | none => rfl
        | some o => have := (y.own p q).1; rw [kg _ _ e] at this; cases this
    · rw [List.map_append, List.nodup_append]
      refine ⟨ndτ, y.nd, fun a ha b hb e => ?_⟩
      obtain ⟨p, hp, rfl⟩ := List.mem_map.mp ha
      obtain ⟨q, hq, rfl⟩ := List.mem_map.mp hb
      obtain ⟨o, ho, _⟩ := kτ p hp
      have := (y.own q hq).1
      rw [← e, ho] at this; cases this
noncomputable def Fp (w : World) (os : OsState) (g : Heap) (E : Value → Shared → Prop) (Q : Value → Sto → Prop) : Result → Shared → Prop := fun r s' => match r with
  | .ok (.ret v) => ∃ v' σ', Teq v' v ∧ Q v' σ' ∧ Sr0 w os g σ' s'
  | .ok _ => False
  | .error e => E e s'
theorem Fp.mono {w : World} {os : OsState} {g g' : Heap} {E : Value → Shared → Prop} {Q Q' : Value → Sto → Prop} (k : ∀ v σ' s', Q v σ' → Sr0 w os g σ' s' → ∃ σ'', Q' v σ'' ∧ Sr0 w os g' σ'' s') : ∀ r s', Fp w os g E Q r s' → Fp w os g' E Q' r s' := by
  intro r s' h
  rcases r with e | (v | _ | _ | _)
  · exact h
  all_goals first
    | exact h.elim
    | (obtain ⟨v', σ', h1, h2, h3⟩ := h
       obtain ⟨σ'', k1, k2⟩ := k _ _ _ h2 h3
       exact ⟨v', σ'', h1, k1, k2⟩)
noncomputable def Fn (w : World) (os : OsState) (n : Nat) (f : Value) (args : List Value) (kw : List (Str × Value)) (σ : Sto) (Q : Value → Sto → Prop) : Prop :=
  ∀ (A : Around) (g : Heap) (E : Value → Shared → Prop) (s : Shared) (vs : List Value) (ks : List Value), Bg w g → Room n A → A.handled = none → TeqL args vs → TeqL (kw.map (·.2)) ks → Sr w os g σ s →
    codeAny (MM w) A (.call f ⟨vs, (kw.map (·.1)).zip ks⟩) (Fp w os g E Q) s
theorem Fn.mono {w : World} {os : OsState} {n : Nat} {f : Value} {args : List Value} {kw : List (Str × Value)} {σ : Sto} {Q Q' : Value → Sto → Prop} (h : Fn w os n f args kw σ Q) (k : ∀ v σ', Q v σ' → Q' v σ') : Fn w os n f args kw σ Q' :=
  fun A g E s vs ks b r hh ht hk hs => codeAny_mono (h A g E s vs ks b r hh ht hk hs) (Fp.mono fun _ σ' _ q z => ⟨σ', k _ _ q, z⟩)
theorem Fn.beside {w : World} {os : OsState} {n : Nat} {f : Value} {args : List Value} {kw : List (Str × Value)} {τ σ : Sto} {Q : Value → Sto → Prop} (h : Fn w os n f args kw σ (fun v σ' => Q v (τ ++ σ'))) : Fn w os n f args kw (τ ++ σ) Q := by
  intro A g E s vs ks b r hh ht hk hs
  obtain ⟨g', k1, k2, k3, k4⟩ := hs.hr.frame
  exact codeAny_mono (h A g' E s vs ks (b.keeps k1) r hh ht hk ⟨⟨k2, hs.gens, hs.os⟩, hs.tk⟩) (Fp.mono fun _ σ' _ q h3 => ⟨τ ++ σ', q, ⟨k4 _ _ h3.hr, h3.gens, h3.os⟩⟩)
theorem Room.le {n n' : Nat} {A : Around} (h : Room n A) (k : n' ≤ n) : Room n' A := by
  unfold Room at *; omega
theorem WT.call {c : Fx} {n n' : Nat} {f : Value} {args vs ks : List Value} {kw : List (Str × Value)} {m : Loc} {σ : Sto} {Q : Value → Loc → Sto → Prop} (ok : c.Ok n) (hn : n' ≤ n) (ha : TeqL args vs) (hk : TeqL (kw.map (·.2)) ks)
    (h : Fn c.w c.os n' f args kw σ (fun v σ' => Q v m σ')) : WT c Teq (call f vs ((kw.map (·.1)).zip ks)) m σ Q := by
  intro s hs
  have hs' : Sr c.w c.os c.g ([(c.L, .ns m)] ++ σ) s := hs
  obtain ⟨g', k1, k2, k3, k4⟩ := hs'.hr.frame
  refine wpAny_call (codeAny_mono (h c.A g' c.E s vs ks (ok.bg.keeps k1) (ok.room.le hn) ok.hh ha hk ⟨⟨k2, hs.gens, hs.os⟩, hs.tk⟩) fun r s' h => ?_)
  rcases r with e | (v | _ | _ | _)
  · exact h
  all_goals first
    | exact h.elim
    | (obtain ⟨v', σ', h1, h2, h3⟩ := h
       exact ⟨v', m, σ', h1, h2, ⟨k4 _ _ h3.hr, h3.gens, h3.os⟩⟩)
section
variable {P : Params} {g h h' : Heap} {σ σ' : Sto} {a : Addr} {x y : AO} {o o' : Obj} {w : World} {os : OsState} {s : Shared}
inductive Put : Sto → Addr → AO → AO → Sto → Prop
  | here {a x y r} : Put ((a, x) :: r) a x y ((a, y) :: r)
  | there {p r a x y r'} : Put r a x y r' → Put (p :: r) a x y (p :: r')
theorem Put.keys (p : Put σ a x y σ') : σ'.map (·.1) = σ.map (·.1) := by
  induction p with
  | here => rfl
  | there _ ih => simp [ih]
theorem Put.mem (p : Put σ a x y σ') : (a, x) ∈ σ := by
  induction p with
  | here => exact .head _
  | there _ ih => exact .tail _ ih
theorem Put.mem' (p : Put σ a x y σ') : ∀ q ∈ σ', q = (a, y) ∨ (q ∈ σ ∧ ((σ.map (·.1)).Nodup → q.1 ≠ a)) := by
  induction p with
  | here =>
    intro q hq
    rcases List.mem_cons.mp hq with rfl | hq
    · exact .inl rfl
    · refine .inr ⟨.tail _ hq, fun nd e => ?_⟩
      rw [List.map_cons, List.nodup_cons] at nd
      exact nd.1 (by rw [← e]; exact List.mem_map_of_mem (f := (·.1)) hq)
  | @there p r a x y r' hp ih =>
    intro q hq
    rcases List.mem_cons.mp hq with rfl | hq
    · refine .inr ⟨.head _, fun nd e => ?_⟩
      rw [List.map_cons, List.nodup_cons] at nd
      exact nd.1 (by rw [e]; exact List.mem_map_of_mem (f := (·.1)) hp.mem)
    · rcases ih q hq with e | ⟨h1, h2⟩
      · exact .inl e
      · refine .inr ⟨.tail _ h1, fun nd => h2 ?_⟩
        rw [List.map_cons, List.nodup_cons] at nd
        exact nd.2
theorem HR.put (z : HR P g σ h) (p : Put σ a x y σ') (hs : Heap.SameBut a h h') (ho : h'.get? a = some o') (hi : y.Is P o') : HR P g σ' h' := by
  refine ⟨fun b o e => ?_, fun q hq => ?_, by rw [p.keys]; exact z.nd⟩
  · have ne : b ≠ a := fun e' => by have := (z.own _ p.mem).1; simp only at this; rw [← e', e] at this; cases this
    exact (hs.2 b ne).trans (z.keep b o e)
  · rcases p.mem' q hq with rfl | ⟨h1, h2⟩
    · exact ⟨(z.own _ p.mem).1, o', ho, hi⟩
    · obtain ⟨u, o, ho, hi⟩ := z.own q h1
      exact ⟨u, o, (hs.2 _ (h2 z.nd)).trans ho, hi⟩
theorem Sr0.put (z : Sr0 w os g σ s) (p : Put σ a x y σ') (hs : Heap.SameBut a s.heap h') (ho : h'.get? a = some o') (hi : y.Is w.params o') (t : Nat) : Sr0 w os g σ' { s with heap := h', toks := t } :=
  ⟨z.hr.put p hs ho hi, z.gens, z.os⟩
theorem Sr0.at (z : Sr0 w os g σ s) (hm : (a, x) ∈ σ) : ∃ o, s.heap.get? a = some o ∧ x.Is w.params o := (z.hr.own _ hm).2
theorem HR.new (z : HR P g σ h) (hf : o.isFreed = false) (hi : x.Is P o) : HR P g ((h.objs.size, x) :: σ) (h.push o) := by
  refine ⟨fun b o e => Heap.get?_push_of_some _ (z.keep b o e), fun q hq => ?_, ?_⟩
  · rcases List.mem_cons.mp hq with rfl | hq
    · refine ⟨?_, o, Heap.get?_push_size _ hf, hi⟩
      cases e : g.get? h.objs.size with
      | none => rfl
      | some o => exact absurd (Heap.lt_size (z.keep _ _ e)) (Nat.lt_irrefl _)
    · obtain ⟨u, o, ho, hi⟩ := z.own q hq
      exact ⟨u, o, Heap.get?_push_of_some _ ho, hi⟩
  · rw [List.map_cons, List.nodup_cons]
    refine ⟨fun hm => ?_, z.nd⟩
    obtain ⟨q, hq, e⟩ := List.mem_map.mp hm
    obtain ⟨_, o, ho, _⟩ := z.own q hq
    rw [e] at ho
    exact absurd (Heap.lt_size ho) (Nat.lt_irrefl _)
theorem Sr0.new (z : Sr0 w os g σ s) (hf : o.isFreed = false) (hi : x.Is w.params o) (t : Nat) : Sr0 w os g ((s.heap.objs.size, x) :: σ) { s with heap := s.heap.push o, toks := t } := ⟨z.hr.new hf hi, z.gens, z.os⟩
theorem Sr0.new2 {p : Addr × AO} (z : Sr0 w os g (p :: σ) s) (hf : o.isFreed = false) (hi : x.Is w.params o) (t : Nat) : Sr0 w os g (p :: (s.heap.objs.size, x) :: σ) { s with heap := s.heap.push o, toks := t } :=
  (z.new hf hi t).perm (.swap ..)
end
inductive SetL : Loc → Str → Value → Loc → Prop
  | here {x o r v} : SetL ((x, o) :: r) x v ((x, some v) :: r)
  | there {p r x v r'} : SetL r x v r' → SetL (p :: r) x v (p :: r')
theorem SetL.keys {m m' : Loc} {x : Str} {v : Value} (p : SetL m x v m') : m'.map (·.1) = m.map (·.1) := by
  induction p with
  | here => rfl
  | there _ ih => simp [ih]
theorem SetL.key {m m' : Loc} {x : Str} {v : Value} (p : SetL m x v m') : x ∈ m.map (·.1) := by
  induction p with
  | here => exact .head _
  | there _ ih => exact .tail _ ih
theorem SetL.mem {m m' : Loc} {x : Str} {v : Value} (p : SetL m x v m') (nd : (m.map (·.1)).Nodup) : ∀ y u, (y, some u) ∈ m' → (y = x ∧ u = v) ∨ (y ≠ x ∧ (y, some u) ∈ m) := by
  induction p with
  | here =>
    intro y u hm
    rw [List.map_cons, List.nodup_cons] at nd
    rcases List.mem_cons.mp hm with e | hm
    · cases e; exact .inl ⟨rfl, rfl⟩
    · refine .inr ⟨fun e => nd.1 (by rw [← e]; exact List.mem_map_of_mem (f := (·.1)) hm), .tail _ hm⟩
  | @there p r x v r' hp ih =>
    intro y u hm
    rw [List.map_cons, List.nodup_cons] at nd
    rcases List.mem_cons.mp hm with e | hm
    · refine .inr ⟨fun e' => nd.1 ?_, by rw [e]; exact .head _⟩
      have : p.1 = x := by rw [← e]; exact e'
      rw [this]; exact hp.key
    · rcases ih nd.2 y u hm with e | ⟨h1, h2⟩
      · exact .inl e
      · exact .inr ⟨h1, .tail _ h2⟩
section
variable {c : Fx} {n : Nat} {sc : Scope} {m m' : Loc} {σ σ' : Sto} {s : Shared} {w : World} {os : OsState} {g : Heap} {L : Addr}
theorem Sr0.ns (z : Sr0 w os g ((L, .ns m) :: σ) s) : (m.map (·.1)).Nodup ∧ ∃ mm, s.heap.Ns L mm ∧ ∀ x v, (x, some v) ∈ m → ∃ v', mm x = some v' ∧ Teq v v' := by
  obtain ⟨o, ho, nd, es, ep, hd, hk, hv⟩ := z.at (.head _)
  exact ⟨nd, fun x => nsFind es x, ⟨o, es, ep, ho, hd, hk, fun _ => rfl⟩, hv⟩
theorem Sr0.setNs (z : Sr0 w os g ((L, .ns m) :: σ) s) {x : Str} {v u : Value} {mm : Str → Option Value} {h' : Heap} (e : s.heap.Ns L mm) (hv : ∀ x v, (x, some v) ∈ m → ∃ v', mm x = some v' ∧ Teq v v')
    (hp : SetL m x v m') (ht : Teq v u) (hn : h'.Ns L (fun y => if y = x then some u else mm y)) (hs : Heap.SameBut L s.heap h') (t : Nat) : Sr0 w os g ((L, .ns m') :: σ) { s with heap := h', toks := t } := by
  obtain ⟨o, es, ep, ho, hd, hk, hf⟩ := hn
  refine z.put (y := .ns m') .here hs ho ⟨by rw [hp.keys]; exact z.ns.1, es, ep, hd, hk, fun y u' hm => ?_⟩ t
  rw [hf]
  rcases hp.mem z.ns.1 y u' hm with ⟨rfl, rfl⟩ | ⟨h1, h2⟩
  · exact ⟨u, by simp, ht⟩
  · simp only [if_neg h1]; exact hv _ _ h2
theorem We.name {x : Str} {pos : Pos} {v : Value} {Q : Value → Loc → Sto → Prop} (hk : sc.kind = .function) (hl : sc.names.lookup x = some .local) (hd : (x == ("__debug__" : Str)) = false) (hg : (x, some v) ∈ m) (h : Q v m σ) : We c sc (.Name x pos) m σ Q := by
  intro s hs
  obtain ⟨_, mm, h1, h2⟩ := hs.ns
  obtain ⟨v', h3, h4⟩ := h2 _ _ hg
  exact wpAny_Name (wpAny_loadName_local hk hl h1 h3 ⟨v, m, σ, h4, h, hs.toSr0⟩) hd
theorem Wst {x : Str} {v : Value} {Q : Unit → Loc → Sto → Prop} (hk : sc.kind = .function) (hl : sc.names.lookup x = some .local) (hp : SetL m x v m') {u : Value} (ht : Teq v u) (h : Q () m' σ) : WT c Eq (storeName (c.env sc) x u) m σ Q := by
  intro s hs
  obtain ⟨_, mm, h1, h2⟩ := hs.ns
  refine wpAny_storeName_local hl h1 (fun h' hn hsb => ⟨(), m', σ, rfl, h, hs.setNs h1 h2 hp ht hn hsb _⟩) ?_
  show (sc.kind == .class || (sc.kind == .module && _)) = false
  rw [hk]; rfl
theorem We.glob {x : Str} {pos : Pos} {v : Value} {Q : Value → Loc → Sto → Prop} (ok : c.Ok n) (hk : sc.kind = .function) (hl : sc.names.lookup x = some .globalImplicit) (hd : (x == ("__debug__" : Str)) = false) (e : nsIn (KK c.w) mainGlobals x = some (some v)) (h : Q v m σ) : We c sc (.Name x pos) m σ Q := by
  intro s hs
  refine Name_function_global hk hl ?_ hd
  unfold loadGlobal
  refine wpAny_bind (Looks.here (looks_nsIn (hs.bg ok.bg).kk e) ?_)
  exact wpAny_pure ⟨v, m, σ, .same _, h, hs.toSr0⟩
theorem We.bltn {x : Str} {pos : Pos} {v : Value} {Q : Value → Loc → Sto → Prop} (ok : c.Ok n) (hk : sc.kind = .function) (hl : sc.names.lookup x = some .globalImplicit) (hd : (x == ("__debug__" : Str)) = false) (e : nsIn (KK c.w) mainGlobals x = some none) (hn : x ≠ "__name__") (hb : bootBuiltins x = some v) (h : Q v m σ) : We c sc (.Name x pos) m σ Q := by
  intro s hs
  refine Name_function_global hk hl ?_ hd
  unfold loadGlobal
  refine wpAny_bind (Looks.here (looks_nsIn (hs.bg ok.bg).kk e) ?_)
  obtain ⟨mb, h1, h2⟩ := (hs.bg ok.bg).bn
  refine wpAny_bind (wpAny_nsGet h1 ?_)
  rw [h2 _ hn, hb]
  exact wpAny_pure ⟨v, m, σ, .same _, h, hs.toSr0⟩
theorem We.cint {i : Int} {k : Nat} {pos : Pos} {Q : Value → Loc → Sto → Prop} (h : Q (I i) m σ) : We c sc (.Constant (.int i) k pos) m σ Q := fun s hs => wpAny_Constant_int ⟨_, m, σ, .i, h, hs.toks _⟩
theorem We.cstr {i : Str} {k : Nat} {pos : Pos} {Q : Value → Loc → Sto → Prop} (h : Q (S i) m σ) : We c sc (.Constant (.str i) k pos) m σ Q := fun s hs => wpAny_Constant_str ⟨_, m, σ, .s, h, hs.toks _⟩
theorem We.cnone {k : Nat} {pos : Pos} {Q : Value → Loc → Sto → Prop} (h : Q .none m σ) : We c sc (.Constant .none k pos) m σ Q := fun s hs => wpAny_Constant_none ⟨_, m, σ, .same _, h, hs.toSr0⟩
theorem We.cbool {b : Bool} {k : Nat} {pos : Pos} {Q : Value → Loc → Sto → Prop} (h : Q (.bool b) m σ) : We c sc (.Constant (.bool b) k pos) m σ Q := fun s hs => wpAny_Constant_bool ⟨_, m, σ, .same _, h, hs.toSr0⟩
noncomputable def Wo1 (c : Fx) {α β : Type} (R : β → α → Prop) (f : Value → Sem α) (v : Value) (m : Loc) (σ : Sto) (Q : β → Loc → Sto → Prop) : Prop := ∀ u, Teq v u → WT c R (f u) m σ Q
noncomputable def Wo2 (c : Fx) {α β : Type} (R : β → α → Prop) (f : Value → Value → Sem α) (v v' : Value) (m : Loc) (σ : Sto) (Q : β → Loc → Sto → Prop) : Prop := ∀ u u', Teq v u → Teq v' u' → WT c R (f u u') m σ Q
theorem We.binop {l r : Expr} {op : Operator} {pos : Pos} {Q : Value → Loc → Sto → Prop} (h : We c sc l m σ (fun v m1 σ1 => We c sc r m1 σ1 (fun v' m2 σ2 => Wo2 c Teq (binaryOp op) v v' m2 σ2 Q))) : We c sc (.BinOp l op r pos) m σ Q :=
  fun s hs => wpAny_BinOp (wm hs.tk (h s hs) (fun _ s1 v m1 σ1 t1 h1 hs1 => wm hs1.tk (h1 s1 hs1) (fun _ s2 v' m2 σ2 t2 h2 hs2 => h2 _ _ t1 t2 s2 hs2) fun _ _ e => e) fun _ _ e => e)
theorem We.cmp {l r : Expr} {op : CmpOp} {pos : Pos} {Q : Value → Loc → Sto → Prop} (hm : behindInMarks op r = false) (h : We c sc l m σ (fun v m1 σ1 => We c sc r m1 σ1 (fun v' m2 σ2 => Wo2 c Teq (compareOp op) v v' m2 σ2 Q))) : We c sc (.Compare l [op] [r] pos) m σ Q :=
  fun s hs => wpAny_Compare1 (wm hs.tk (h s hs) (fun _ s1 v m1 σ1 t1 h1 hs1 => wm hs1.tk (h1 s1 hs1) (fun _ s2 v' m2 σ2 t2 h2 hs2 => h2 _ _ t1 t2 s2 hs2) fun _ _ e => e) fun _ _ e => e) hm
theorem We.un {x : Expr} {op : UnaryOp} {pos : Pos} {Q : Value → Loc → Sto → Prop} (h : We c sc x m σ (fun v m1 σ1 => Wo1 c Teq (unaryOp op) v m1 σ1 Q)) : We c sc (.UnaryOp op x pos) m σ Q :=
  fun s hs => wpAny_UnaryOp (wm hs.tk (h s hs) (fun _ s1 v m1 σ1 t1 h1 hs1 => h1 _ t1 s1 hs1) fun _ _ e => e)
theorem We.ifx {t b o : Expr} {pos : Pos} {Q : Value → Loc → Sto → Prop} (h : Wb c sc t m σ (fun v m1 σ1 => (v = true → We c sc b m1 σ1 Q) ∧ (v = false → We c sc o m1 σ1 Q))) : We c sc (.IfExp t b o pos) m σ Q :=
  fun s hs => wpAny_IfExp (wm hs.tk (h s hs) (fun v s1 b' m1 σ1 t1 h1 hs1 => by
    subst t1
    cases b' with
    | true => exact h1.1 rfl s1 hs1
    | false => exact h1.2 rfl s1 hs1) fun _ _ e => e)
theorem We.sub {value slice : Expr} {pos : Pos} {Q : Value → Loc → Sto → Prop} (h : We c sc value m σ (fun v m1 σ1 => We c sc slice m1 σ1 (fun v' m2 σ2 => Wo2 c Teq (subscriptTail value slice) v v' m2 σ2 Q))) : We c sc (.Subscript value slice pos) m σ Q :=
  fun s hs => Subscript_ (wm hs.tk (h s hs) (fun _ s1 v m1 σ1 t1 h1 hs1 => wm hs1.tk (h1 s1 hs1) (fun _ s2 v' m2 σ2 t2 h2 hs2 => h2 _ _ t1 t2 s2 hs2) fun _ _ e => e) fun _ _ e => e)
theorem Wb.cmp {l r : Expr} {op : CmpOp} {pos : Pos} {Q : Bool → Loc → Sto → Prop} (hm : behindInMarks op r = false) (h : We c sc l m σ (fun v m1 σ1 => We c sc r m1 σ1 (fun v' m2 σ2 => Wo2 c Teq (compareOp op) v v' m2 σ2 (fun x m3 σ3 => Wo1 c Eq truthy x m3 σ3 Q)))) : Wb c sc (.Compare l [op] [r] pos) m σ Q :=
  fun s hs => wpAny_isTrue_Compare1 (wm hs.tk (h s hs) (fun _ s1 v m1 σ1 t1 h1 hs1 => wm hs1.tk (h1 s1 hs1) (fun _ s2 v' m2 σ2 t2 h2 hs2 => wm hs2.tk (h2 _ _ t1 t2 s2 hs2) (fun _ s3 x m3 σ3 t3 h3 hs3 => h3 _ t3 s3 hs3) fun _ _ e => e) fun _ _ e => e) fun _ _ e => e) hm
theorem Wb.not {x : Expr} {pos : Pos} {Q : Bool → Loc → Sto → Prop} (h : Wb c sc x m σ (fun b m1 σ1 => Q (!b) m1 σ1)) : Wb c sc (.UnaryOp .Not x pos) m σ Q :=
  fun s hs => wpAny_isTrue_Not (wm hs.tk (h s hs) (fun v s1 b m1 σ1 t1 h1 hs1 => ⟨!b, m1, σ1, by rw [t1], h1, hs1.toSr0⟩) fun _ _ e => e)
theorem Wb.val {e : Expr} {Q : Bool → Loc → Sto → Prop} (he : ∀ env t, isTrue e env t = (do let v ← t; standAt e.pos; holding [v] (truthy v))) (h : We c sc e m σ (fun v m1 σ1 => Wo1 c Eq truthy v m1 σ1 Q)) : Wb c sc e m σ Q :=
  fun s hs => wpAny_isTrue_value (wm hs.tk (h s hs) (fun _ s1 v m1 σ1 t1 h1 hs1 => h1 _ t1 s1 hs1) fun _ _ e => e) (he _ _)
theorem Wb.name {x : Str} {p : Pos} {Q : Bool → Loc → Sto → Prop} (h : We c sc (.Name x p) m σ (fun v m1 σ1 => Wo1 c Eq truthy v m1 σ1 Q)) : Wb c sc (.Name x p) m σ Q := .val (fun _ _ => rfl) h
theorem Wb.attr {e : Expr} {x : Str} {p : Pos} {Q : Bool → Loc → Sto → Prop} (h : We c sc (.Attribute e x p) m σ (fun v m1 σ1 => Wo1 c Eq truthy v m1 σ1 Q)) : Wb c sc (.Attribute e x p) m σ Q := .val (fun _ _ => rfl) h
theorem Wb.const {k : Const} {n : Nat} {p : Pos} {Q : Bool → Loc → Sto → Prop} (h : We c sc (.Constant k n p) m σ (fun v m1 σ1 => Wo1 c Eq truthy v m1 σ1 Q)) : Wb c sc (.Constant k n p) m σ Q := .val (fun _ _ => rfl) h
theorem Wb.call {f : Expr} {as : List Expr} {ks : List Keyword} {p : Pos} {Q : Bool → Loc → Sto → Prop} (h : We c sc (.Call f as ks p) m σ (fun v m1 σ1 => Wo1 c Eq truthy v m1 σ1 Q)) : Wb c sc (.Call f as ks p) m σ Q := .val (fun _ _ => rfl) h
noncomputable def Wall (c : Fx) (sc : Scope) (op : BoolOp) (es : List Expr) (m : Loc) (σ : Sto) (Q : Bool → Loc → Sto → Prop) : Prop := WT c Eq (allTrue op es (c.env sc)) m σ Q
theorem Wb.boolop {op : BoolOp} {es : List Expr} {pos : Pos} {Q : Bool → Loc → Sto → Prop} (h : Wall c sc op es m σ Q) : Wb c sc (.BoolOp op es pos) m σ Q := fun s hs => wpAny_isTrue_BoolOp (h s hs)
theorem Wall.and_nil {Q : Bool → Loc → Sto → Prop} (h : Q true m σ) : Wall c sc .And [] m σ Q := fun s hs => wpAny_allTrue_And_nil ⟨true, m, σ, rfl, h, hs.toSr0⟩
theorem Wall.or_nil {Q : Bool → Loc → Sto → Prop} (h : Q false m σ) : Wall c sc .Or [] m σ Q := fun s hs => wpAny_allTrue_Or_nil ⟨false, m, σ, rfl, h, hs.toSr0⟩
theorem Wall.and {x : Expr} {rest : List Expr} {Q : Bool → Loc → Sto → Prop} (h : Wb c sc x m σ (fun b m1 σ1 => (b = true → Wall c sc .And rest m1 σ1 Q) ∧ (b = false → Q false m1 σ1))) : Wall c sc .And (x :: rest) m σ Q :=
  fun s hs => wpAny_allTrue_And_cons (wm hs.tk (h s hs) (fun v s1 b' m1 σ1 t1 h1 hs1 => by
    subst t1
    cases b' with
    | true => exact h1.1 rfl s1 hs1
    | false => exact ⟨false, m1, σ1, rfl, h1.2 rfl, hs1.toSr0⟩) fun _ _ e => e)
theorem Wall.or {x : Expr} {rest : List Expr} {Q : Bool → Loc → Sto → Prop} (h : Wb c sc x m σ (fun b m1 σ1 => (b = true → Q true m1 σ1) ∧ (b = false → Wall c sc .Or rest m1 σ1 Q))) : Wall c sc .Or (x :: rest) m σ Q :=
  fun s hs => wpAny_allTrue_Or_cons (wm hs.tk (h s hs) (fun v s1 b' m1 σ1 t1 h1 hs1 => by
    subst t1
    cases b' with
    | true => exact ⟨true, m1, σ1, rfl, h1.1 rfl, hs1.toSr0⟩
    | false => exact h1.2 rfl s1 hs1) fun _ _ e => e)
theorem Wx.nil {Q : Flow → Loc → Sto → Prop} (h : Q .next m σ) : Wx c sc [] m σ Q := fun s hs => wpAny_execs_nil ⟨.next, m, σ, .next, h, hs.toSr0⟩
noncomputable def seqQ (c : Fx) (sc : Scope) (rest : List Stmt) (Q : Flow → Loc → Sto → Prop) : Flow → Loc → Sto → Prop := fun f m1 σ1 => match f with | .next => Wx c sc rest m1 σ1 Q | f => Q f m1 σ1
theorem seq_next {rest : List Stmt} {Q : Flow → Loc → Sto → Prop} (h : Wx c sc rest m σ Q) : seqQ c sc rest Q .next m σ := h
theorem seq_ret {rest : List Stmt} {v : Value} {Q : Flow → Loc → Sto → Prop} (h : Q (.ret v) m σ) : seqQ c sc rest Q (.ret v) m σ := h
theorem seq_brk {rest : List Stmt} {Q : Flow → Loc → Sto → Prop} (h : Q .brk m σ) : seqQ c sc rest Q .brk m σ := h
theorem seq_cont {rest : List Stmt} {Q : Flow → Loc → Sto → Prop} (h : Q .cont m σ) : seqQ c sc rest Q .cont m σ := h
theorem Wx.cons {st : Stmt} {rest : List Stmt} {Q : Flow → Loc → Sto → Prop} (h : W1 c sc st m σ (seqQ c sc rest Q)) : Wx c sc (st :: rest) m σ Q :=
  fun s hs => wpAny_execs_cons (wm hs.tk (h s hs) (fun v s1 f m1 σ1 t1 h1 hs1 => by
    cases t1 with
    | ret t => exact ⟨_, m1, σ1, .ret t, h1, hs1.toSr0⟩
    | next => exact h1 s1 hs1
    | brk => exact ⟨_, m1, σ1, .brk, h1, hs1.toSr0⟩
    | cont => exact ⟨_, m1, σ1, .cont, h1, hs1.toSr0⟩) fun _ _ e => e)
theorem W1.assign {x : Str} {p' p : Pos} {value : Expr} {Q : Flow → Loc → Sto → Prop} (hsw : swapsWith value (some (.Name x p')) p.line (c.env sc) = pure false) (hk : sc.kind = .function) (hl : sc.names.lookup x = some .local)
    (h : We c sc value m σ (fun v m1 σ1 => ∃ m2, SetL m1 x v m2 ∧ Q .next m2 σ1)) : W1 c sc (.Assign [.Name x p'] value p) m σ Q :=
  fun s hs => wpAny_Assign_Name (wm hs.tk (h s hs) (fun _ s1 v m1 σ1 t1 ⟨m2, hp, h1⟩ hs1 => wm hs1.tk (Wst (c := c) (Q := fun _ m' σ' => m' = m2 ∧ σ' = σ1) hk hl hp t1 ⟨rfl, rfl⟩ s1 hs1) (fun _ s2 _ m3 σ3 _ ⟨e1, e2⟩ hs3 => ⟨.next, m2, σ1, .next, h1, e1 ▸ e2 ▸ hs3.toSr0⟩) fun _ _ e => e) fun _ _ e => e) hsw
theorem W1.aug {x : Str} {p' p : Pos} {op : Operator} {value : Expr} {v₀ : Value} {Q : Flow → Loc → Sto → Prop} (hk : sc.kind = .function) (hl : sc.names.lookup x = some .local) (hg : (x, some v₀) ∈ m)
    (h : We c sc value m σ (fun v m1 σ1 => Wo2 c Teq (inplaceOp op) v₀ v m1 σ1 (fun r m2 σ2 => ∃ m3, SetL m2 x r m3 ∧ Q .next m3 σ2))) : W1 c sc (.AugAssign (.Name x p') op value p) m σ Q := by
  intro s hs
  obtain ⟨_, mm, h1, h2⟩ := hs.ns
  obtain ⟨v', h3, h4⟩ := h2 _ _ hg
  exact wpAny_AugAssign_Name (wpAny_loadName_local hk hl h1 h3 (wm hs.tk (h s hs) (fun _ s1 v m1 σ1 t1 h1 hs1 => wm hs1.tk (h1 _ _ h4 t1 s1 hs1) (fun _ s2 r m2 σ2 t2 ⟨m3, hp, h5⟩ hs2 =>
    wm hs2.tk (Wst (c := c) (Q := fun _ m' σ' => m' = m3 ∧ σ' = σ2) hk hl hp t2 ⟨rfl, rfl⟩ s2 hs2) (fun _ s2 _ m4 σ4 _ ⟨e1, e2⟩ hs3 => ⟨.next, m3, σ2, .next, h5, e1 ▸ e2 ▸ hs3.toSr0⟩) fun _ _ e => e) fun _ _ e => e) fun _ _ e => e))
theorem W1.if {t : Expr} {b o : List Stmt} {p : Pos} {Q : Flow → Loc → Sto → Prop} (h : Wb c sc t m σ (fun v m1 σ1 => (v = true → Wx c sc b m1 σ1 Q) ∧ (v = false → Wx c sc o m1 σ1 Q))) : W1 c sc (.If t b o p) m σ Q :=
  fun s hs => wpAny_If (wm hs.tk (h s hs) (fun v s1 b' m1 σ1 t1 h1 hs1 => by
    subst t1
    cases b' with
    | true => exact h1.1 rfl s1 hs1
    | false => exact h1.2 rfl s1 hs1) fun _ _ e => e)
theorem W1.ret {e : Expr} {p : Pos} {Q : Flow → Loc → Sto → Prop} (h : We c sc e m σ (fun v m1 σ1 => Q (.ret v) m1 σ1)) : W1 c sc (.Return (some e) p) m σ Q :=
  fun s hs => wpAny_Return_some (wm hs.tk (h s hs) (fun _ s1 v m1 σ1 t1 h1 hs1 => ⟨_, m1, σ1, .ret t1, h1, hs1.toSr0⟩) fun _ _ e => e)
theorem W1.brk {p : Pos} {Q : Flow → Loc → Sto → Prop} (h : Q .brk m σ) : W1 c sc (.Break p) m σ Q := fun s hs => wpAny_Break ⟨_, m, σ, .brk, h, hs.toSr0⟩
theorem W1.cont {p : Pos} {Q : Flow → Loc → Sto → Prop} (h : Q .cont m σ) : W1 c sc (.Continue p) m σ Q := fun s hs => wpAny_Continue ⟨_, m, σ, .cont, h, hs.toSr0⟩
theorem W1.pass {p : Pos} {Q : Flow → Loc → Sto → Prop} (h : Q .next m σ) : W1 c sc (.Pass p) m σ Q := fun s hs => wpAny_Pass ⟨_, m, σ, .next, h, hs.toSr0⟩
theorem W1.expr {e : Expr} {p : Pos} {Q : Flow → Loc → Sto → Prop} (hi : interactive (c.env sc) = false) (hsw : swapsWith e none p.line (c.env sc) = pure false) (h : We c sc e m σ (fun v m1 σ1 => (∀ a, v ≠ .ref a) ∧ Q .next m1 σ1)) : W1 c sc (.Expr e p) m σ Q :=
  fun s hs => wpAny_Expr (wm hs.tk (h s hs) (fun u s1 v m1 σ1 t1 ⟨h1, h2⟩ hs1 => by
    have fin : ∃ b m' σ', FTeq b Flow.next ∧ Q b m' σ' ∧ Sr0 c.w c.os c.g ((c.L, .ns m') :: σ') s1 := ⟨.next, m1, σ1, .next, h2, hs1.toSr0⟩
    cases u with
    | ref a => exact (h1 a t1.symm.ref_inv).elim
    | _ => exact fin) fun _ _ e => e) hi hsw
end
inductive Take : Sto → (Addr × AO) → Sto → Prop
  | here {p r} : Take (p :: r) p r
  | there {p q r r'} : Take r p r' → Take (q :: r) p (q :: r')
theorem Take.perm {σ τ : Sto} {p : Addr × AO} (h : Take σ p τ) : (p :: τ).Perm σ := by
  induction h with
  | here => exact .refl _
  | there _ ih => exact (List.Perm.swap ..).trans (.cons _ ih)
inductive Takes : Sto → Sto → Sto → Prop
  | nil {σ} : Takes σ [] σ
  | cons {σ σ1 p φ τ} : Take σ p σ1 → Takes σ1 φ τ → Takes σ (p :: φ) τ
theorem Takes.perm {σ φ τ : Sto} (h : Takes σ φ τ) : (φ ++ τ).Perm σ := by
  induction h with
  | nil => exact .refl _
  | cons t _ ih => exact (List.Perm.cons _ ih).trans t.perm
noncomputable def Picks (σ φ : Sto) : Prop := ∃ τ, Takes σ φ τ
theorem Picks.nil {σ : Sto} : Picks σ [] := ⟨_, .nil⟩
theorem Picks.cons {σ σ1 φ : Sto} {p : Addr × AO} (h : Take σ p σ1) (k : Picks σ1 φ) : Picks σ (p :: φ) := let ⟨τ, k⟩ := k; ⟨τ, .cons h k⟩
theorem Sr.takes {w : World} {os : OsState} {g : Heap} {σ φ τ : Sto} {s : Shared} (z : Sr w os g σ s) (h : Takes σ φ τ) : Sr w os g (φ ++ τ) s := z.perm h.perm
section
variable {c : Fx} {n n' : Nat} {sc : Scope} {m m' : Loc} {σ σ' φ τ : Sto} {α β : Type}
theorem WT.pick {R : β → α → Prop} {t : Sem α} {Q : β → Loc → Sto → Prop} (hs : Picks σ φ) (h : WT c R t m φ Q) : WT c R t m σ Q :=
  let ⟨τ, hs⟩ := hs; WT.perm hs.perm (WT.sub (List.sublist_append_left φ τ) h)
noncomputable def Was (c : Fx) (sc : Scope) (pos : Pos) (es : List Expr) (m : Loc) (σ : Sto) (Q : List Value → Loc → Sto → Prop) : Prop := WT c TeqL (spliced (backTo pos (starEach es (c.env sc)))) m σ Q
theorem Was.nil {pos : Pos} {Q : List Value → Loc → Sto → Prop} (h : Q [] m σ) : Was c sc pos [] m σ Q := fun s hs => wpAny_items_nil ⟨[], m, σ, .nil, h, hs.toSr0⟩
theorem Was.cons {pos : Pos} {e : Expr} {rest : List Expr} {Q : List Value → Loc → Sto → Prop} (he : ∀ env, starEach (e :: rest) env = (false, eval e env) :: starEach rest env)
    (h : We c sc e m σ (fun v m1 σ1 => Was c sc pos rest m1 σ1 (fun vs m2 σ2 => Q (v :: vs) m2 σ2))) : Was c sc pos (e :: rest) m σ Q :=
  fun s hs => wpAny_items_cons (wm hs.tk (h s hs) (fun _ s1 v m1 σ1 t1 h1 hs1 => wm hs1.tk (h1 s1 hs1) (fun _ s2 vs m2 σ2 t2 h2 hs2 => ⟨v :: vs, m2, σ2, .cons t1 t2, h2, hs2.toSr0⟩) fun _ _ e => e) fun _ _ e => e) (he _)
noncomputable def Wcall (c : Fx) (f : Value) (args : List Value) (m : Loc) (σ : Sto) (Q : Value → Loc → Sto → Prop) : Prop := ∀ vs, TeqL args vs → WT c Teq (call f vs) m σ Q
theorem Wcall.fn {f : Value} {args : List Value} {Q : Value → Loc → Sto → Prop} (ok : c.Ok n) (hn : n' ≤ n) (ht : Takes σ φ τ) (h : Fn c.w c.os n' f args [] φ (fun v σ' => Q v m (σ' ++ τ))) : Wcall c f args m σ Q := by
  intro vs hv
  refine WT.perm ((List.perm_append_comm).trans ht.perm) ?_
  refine WT.call (kw := []) (ks := []) ok hn hv .nil ?_
  · intro A g E s vs ks b r hh ht hk hs
    obtain ⟨g', k1, k2, k3, k4⟩ := hs.hr.frame
    refine codeAny_mono (h A g' E s vs ks (b.keeps k1) r hh ht hk ⟨⟨k2, hs.gens, hs.os⟩, hs.tk⟩) (Fp.mono fun v σ' s' h2 h3 => ⟨σ' ++ τ, h2, ?_⟩)
    exact (Sr0.mk (k4 _ _ h3.hr) h3.gens h3.os).perm List.perm_append_comm
noncomputable def KeepOk (w : World) (f : Value) : Prop := ∀ h, (KK w).In h → ∃ k, (k = Keeper.frame ∨ k = Keeper.machine ∨ k = Keeper.boundFrame) ∧ Looks (MM w) h (keeperOf f) k
theorem keepOk_K {w : World} {f : Value} (h : keepIn (KK w) f = true) : KeepOk w f := keeps_K h
theorem keepOk_b {w : World} {id : String} : KeepOk w (.builtin id) := fun h _ => ⟨.machine, .inr (.inl rfl), Looks.of_pure rfl⟩
theorem keepOk_t {w : World} {id : String} : KeepOk w (.type id) := fun h _ => ⟨.machine, .inr (.inl rfl), Looks.of_pure rfl⟩
theorem keepOk_peek {w : World} {f : Value} (h : peek (KK w) ⟨PG, w.params⟩ (keeperOf f) = some .machine) : KeepOk w f := fun _ X => ⟨.machine, .inr (.inl rfl), Looks.of_peek X h⟩
theorem Wcw0 {f : Value} {first : List Value} {pos : Pos} {Q : Value → Loc → Sto → Prop} (ok : c.Ok n) (hk : KeepOk c.w f) {first' : List Value} (hf : TeqL first first') (h : Wcall c f first m σ Q) : WT c Teq (callWith pos f first' (backTo pos (starEach [] (c.env sc))) []) m σ Q := by
  intro s hs
  refine callWith_of (P := (KK c.w).In) rfl hk (evalArgs_nil3 ⟨(hs.bg ok.bg).kk, ?_⟩)
  rw [List.append_nil]; exact h _ hf s hs
theorem Wcw1 {f : Value} {first : List Value} {pos : Pos} {e : Expr} {rest : List Expr} {Q : Value → Loc → Sto → Prop} (ok : c.Ok n) (hk : KeepOk c.w f) {first' : List Value} (hf : TeqL first first') (he : ∀ env, starEach (e :: rest) env = (false, eval e env) :: starEach rest env) (hp : ∀ env, (backTo pos (starEach rest env)).any (·.1) = false)
    (h : Was c sc pos (e :: rest) m σ (fun vs m1 σ1 => Wcall c f (first ++ vs) m1 σ1 Q)) : WT c Teq (callWith pos f first' (backTo pos (starEach (e :: rest) (c.env sc))) []) m σ Q := by
  intro s hs
  have h' := h s hs
  rw [he] at h' ⊢
  refine callWith_of (P := (KK c.w).In) (by show ((false || (backTo pos (starEach rest (c.env sc))).any (·.1)) || false) = false; rw [hp]; rfl) hk (evalArgs_plain (wm hs.tk h' (fun _ s1 vs m1 σ1 t1 h1 hs1 => ⟨(hs1.bg ok.bg).kk, h1 _ (hf.append t1) s1 hs1⟩) fun _ _ e => e))
theorem We.call0 {x : Str} {np pos : Pos} {f : Value} {Q : Value → Loc → Sto → Prop} (ok : c.Ok n) (h : We c sc (.Name x np) m σ (fun f m1 σ1 => (∀ f', Teq f f' → f' = f) ∧ KeepOk c.w f ∧ Wcall c f [] m1 σ1 Q)) : We c sc (.Call (.Name x np) [] [] pos) m σ Q :=
  fun s hs => wpAny_Call_ofName (wm hs.tk (h s hs) (fun _ s1 v m1 σ1 t1 ⟨h1, h2, h3⟩ hs1 => by rw [h1 _ t1]; exact Wcw0 ok h2 .nil h3 s1 hs1) fun _ _ e => e)
theorem We.call1 {x : Str} {np pos : Pos} {e : Expr} {rest : List Expr} {Q : Value → Loc → Sto → Prop} (ok : c.Ok n) (he : ∀ env, starEach (e :: rest) env = (false, eval e env) :: starEach rest env) (hp : ∀ env, (backTo pos (starEach rest env)).any (·.1) = false)
    (h : We c sc (.Name x np) m σ (fun f m1 σ1 => (∀ f', Teq f f' → f' = f) ∧ KeepOk c.w f ∧ Was c sc pos (e :: rest) m1 σ1 (fun vs m2 σ2 => Wcall c f vs m2 σ2 Q))) : We c sc (.Call (.Name x np) (e :: rest) [] pos) m σ Q :=
  fun s hs => wpAny_Call_ofName (wm hs.tk (h s hs) (fun _ s1 v m1 σ1 t1 ⟨h1, h2, h3⟩ hs1 => by rw [h1 _ t1]; exact Wcw1 (first := []) ok h2 .nil he hp h3 s1 hs1) fun _ _ e => e)
noncomputable def MQ (P : Value → List Value → Loc → Sto → Prop) : Value × List Value → Loc → Sto → Prop := fun fx m σ => P fx.1 fx.2 m σ
noncomputable def MRel (x y : Value × List Value) : Prop := Teq x.1 y.1 ∧ TeqL x.2 y.2
noncomputable def plOf (o : Expr) (env : Env) : Sem Bool := do return (← importBound o env).getD true
noncomputable def MEq (pos apos : Pos) (o : Expr) (name : Str) (args : List Expr) : Prop := ∀ env, eval (.Call (.Attribute o name apos) args [] pos) env = (do
      let ov ← eval o env
      standAt apos.atName
      let (f, first) ← holding [ov] (getMethod ov name (plOf o env))
      callWith pos f first (backTo pos (starEach args env)) [])
theorem We.meth0 {o : Expr} {name : Str} {apos pos : Pos} {Q : Value → Loc → Sto → Prop} (ok : c.Ok n) (he : MEq pos apos o name [])
    (h : We c sc o m σ (fun ov m1 σ1 => Wo1 c MRel (fun u => getMethod u name (plOf o (c.env sc))) ov m1 σ1 (MQ fun f fs m2 σ2 => (∀ f', Teq f f' → f' = f) ∧ KeepOk c.w f ∧ Wcall c f fs m2 σ2 Q))) : We c sc (.Call (.Attribute o name apos) [] [] pos) m σ Q := by
  intro s hs
  rw [he]
  refine wpAny_bind (wm hs.tk (h s hs) (fun _ s1 v m1 σ1 t1 h1 hs1 => wpAny_bind (wpAny_standAt (wpAny_bind (wpAny_holding (wm hs1.tk (h1 _ t1 s1 hs1) (fun fx s2 v m2 σ2 t2 z hs2 => ?_) fun _ _ x => x))))) fun _ _ e => e)
  obtain ⟨h2, h3, h4⟩ := z
  obtain ⟨f, fs⟩ := fx
  have e : f = v.1 := h2 _ t2.1
  subst e
  exact Wcw0 ok h3 t2.2 h4 s2 hs2
theorem We.meth1 {o : Expr} {name : Str} {apos pos : Pos} {e : Expr} {rest : List Expr} {Q : Value → Loc → Sto → Prop} (ok : c.Ok n) (he : MEq pos apos o name (e :: rest)) (he' : ∀ env, starEach (e :: rest) env = (false, eval e env) :: starEach rest env) (hp : ∀ env, (backTo pos (starEach rest env)).any (·.1) = false)
    (h : We c sc o m σ (fun ov m1 σ1 => Wo1 c MRel (fun u => getMethod u name (plOf o (c.env sc))) ov m1 σ1 (MQ fun f fs m2 σ2 => (∀ f', Teq f f' → f' = f) ∧ KeepOk c.w f ∧ Was c sc pos (e :: rest) m2 σ2 (fun vs m3 σ3 => Wcall c f (fs ++ vs) m3 σ3 Q)))) : We c sc (.Call (.Attribute o name apos) (e :: rest) [] pos) m σ Q := by
  intro s hs
  rw [he]
  refine wpAny_bind (wm hs.tk (h s hs) (fun _ s1 v m1 σ1 t1 h1 hs1 => wpAny_bind (wpAny_standAt (wpAny_bind (wpAny_holding (wm hs1.tk (h1 _ t1 s1 hs1) (fun fx s2 v m2 σ2 t2 z hs2 => ?_) fun _ _ x => x))))) fun _ _ e => e)
  obtain ⟨h2, h3, h4⟩ := z
  obtain ⟨f, fs⟩ := fx
  have e : f = v.1 := h2 _ t2.1
  subst e
  exact Wcw1 ok h3 t2.2 he' hp h4 s2 hs2
theorem We.list {es : List Expr} {pos : Pos} {Q : Value → Loc → Sto → Prop} (h : Was c sc pos es m σ (fun vs m1 σ1 => vs.length ≤ sizeLine ∧ ∀ a, Q (.ref a) m1 ((a, .list vs) :: σ1))) : We c sc (.List es pos) m σ Q :=
  fun s hs => wpAny_List (wm hs.tk (h s hs) (fun us s1 vs m1 σ1 t1 ⟨h1, h2⟩ hs1 => ⟨t1.length ▸ h1, ⟨_, m1, _, .same _, h2 _, hs1.new2 (x := .list vs) rfl ⟨_, _, rfl, by simpa using t1⟩ _⟩⟩) fun _ _ e => e)
theorem We.tup {es : List Expr} {k : Nat} {pos : Pos} {Q : Value → Loc → Sto → Prop} (h : Was c sc pos es m σ (fun vs m1 σ1 => vs.length ≤ sizeLine ∧ ∀ a, Q (.ref a) m1 ((a, .tup vs) :: σ1))) : We c sc (.Tuple es k pos) m σ Q :=
  fun s hs => wpAny_Tuple (wm hs.tk (h s hs) (fun us s1 vs m1 σ1 t1 ⟨h1, h2⟩ hs1 => ⟨t1.length ▸ h1, ⟨_, m1, _, .same _, h2 _, hs1.new2 (x := .tup vs) rfl ⟨_, _, rfl, by simpa using t1⟩ _⟩⟩) fun _ _ e => e)
noncomputable def Fx.setE (c : Fx) (E : Value → Shared → Prop) : Fx := { c with E := E }
theorem Fx.Ok.withE (ok : c.Ok n) (E : Value → Shared → Prop) : (c.setE E).Ok n := ⟨ok.bg, ok.hh, ok.room⟩
noncomputable def loopQ (J : Nat → Loc → Sto → Prop) (k : Nat) (Q : Flow → Loc → Sto → Prop) : Flow → Loc → Sto → Prop := fun f m2 σ2 => match f with | .next | .cont => ∃ k', k' < k ∧ J k' m2 σ2 | .brk => Q .next m2 σ2 | .ret v => Q (.ret v) m2 σ2
section
variable {J : Nat → Loc → Sto → Prop} {k k' : Nat} {Q : Flow → Loc → Sto → Prop}
theorem loop_next (hk : k' < k) (h : J k' m σ) : loopQ J k Q .next m σ := ⟨k', hk, h⟩
theorem loop_cont (hk : k' < k) (h : J k' m σ) : loopQ J k Q .cont m σ := ⟨k', hk, h⟩
theorem loop_brk (h : Q .next m σ) : loopQ J k Q .brk m σ := h
theorem loop_ret {v : Value} (h : Q (.ret v) m σ) : loopQ J k Q (.ret v) m σ := h
end
theorem W1.while {t : Expr} {b o : List Stmt} {p : Pos} {Q : Flow → Loc → Sto → Prop} (ok : c.Ok n) (J : Nat → Loc → Sto → Prop)
    (turn : ∀ c' : Fx, c'.w = c.w → c'.os = c.os → c'.cl = c.cl → c'.Ok n → ∀ k m σ, J k m σ → Wb c' sc t m σ (fun v m1 σ1 =>
      (v = true → Wx c' sc b m1 σ1 (loopQ J k Q)) ∧ (v = false → Wx c' sc o m1 σ1 Q)))
    (k : Nat) (h : J k m σ) : W1 c sc (.While t b o p) m σ Q := by
  intro s hs
  refine wpAny_While (codeAny_whileLoop (fun k s => ∃ m σ, J k m σ ∧ Sr c.w c.os c.g ((c.L, .ns m) :: σ) s) (fun k s z => ?_) k ⟨m, σ, h, hs⟩)
  obtain ⟨m, σ, hj, hs⟩ := z
  have key := fun E' => turn (c.setE E') rfl rfl rfl (ok.withE E') k m σ hj s hs
  refine wm hs.tk (key (notedBy (model PG c.w) c.A (c.env sc) fun e s' => cameBackBy (MM c.w) c.A (c.env sc) c.E e s')) (fun v s1 b' m1 σ1 t1 h1 hs1 => ?_) fun _ _ e => e
  subst t1
  cases b' with
  | true =>
    refine wm hs1.tk (h1.1 rfl s1 hs1) (fun f s2 f' m2 σ2 t2 h2 hs2 => ?_) fun _ _ e => e
    cases t2 with
    | ret t => exact ⟨_, m2, σ2, .ret t, h2, hs2.toSr0⟩
    | brk => exact ⟨_, m2, σ2, .next, h2, hs2.toSr0⟩
    | next => obtain ⟨k', hk, hj⟩ := h2; exact ⟨k', hk, m2, σ2, hj, hs2⟩
    | cont => obtain ⟨k', hk, hj⟩ := h2; exact ⟨k', hk, m2, σ2, hj, hs2⟩
  | false => exact wm hs1.tk (h1.2 rfl s1 hs1) (fun f s2 f' m2 σ2 t2 h2 hs2 => ⟨f', m2, σ2, t2, h2, hs2.toSr0⟩) fun _ _ e => e
noncomputable def Wloop (c : Fx) (sc : Scope) (target : Expr) (it : Value) (body orelse : List Stmt) (m : Loc) (σ : Sto) (Q : Flow → Loc → Sto → Prop) : Prop :=
  ∀ s, Sr c.w c.os c.g ((c.L, .ns m) :: σ) s → codeAny (MM c.w) c.A (.forLoop target it body orelse (c.env sc)) (fun r s' => match r with
    | .ok f => ∃ f' m' σ', FTeq f' f ∧ Q f' m' σ' ∧ Sr0 c.w c.os c.g ((c.L, .ns m') :: σ') s'
    | .error e => cameBackBy (MM c.w) c.A (c.env sc) c.E e s') s
theorem W1.for {target iter : Expr} {b o : List Stmt} {p : Pos} {Q : Flow → Loc → Sto → Prop} (hf : ∀ env x, foldedSetIterable iter env x = pure x)
    (h : We c sc iter m σ (fun v m1 σ1 => Wo1 c (fun a b => a = b ∧ ∃ r, a = Value.ref r) pyIter v m1 σ1 (fun it m2 σ2 => Wloop c sc target it b o m2 σ2 Q))) : W1 c sc (.For target iter b o p) m σ Q := by
  intro s hs
  rw [arm_exec_For]
  refine wpAny_bind (wpAny_standAt (wpAny_bind (wm hs.tk (h s hs) (fun x s1 v m1 σ1 t1 h1 hs1 => ?_) fun _ _ e => e)))
  rw [hf]
  refine wpAny_bind (wpAny_pure (wpAny_bind (wpAny_standAt (wpAny_bind (wpAny_holding (wm hs1.tk (h1 _ t1 s1 hs1) (fun it s2 it' m2 σ2 z h2 hs2 => ?_) fun _ _ e => e))))))
  obtain ⟨e1, _⟩ := z
  subst e1
  exact wpAny_runOwn (codeAny_mono (h2 s2 hs2) (fun r s' z => z))
theorem Wloop.inv {target : Expr} {it : Value} {b o : List Stmt} {Q : Flow → Loc → Sto → Prop} (ok : c.Ok n) (J : Nat → Loc → Sto → Prop)
    (turn : ∀ c' : Fx, c'.w = c.w → c'.os = c.os → c'.cl = c.cl → c'.Ok n → ∀ k m σ, J k m σ → WT c' ORel (pyNext it) m σ (fun r m1 σ1 => match r with
      | none => Wx c' sc o m1 σ1 Q
      | some v => Wo1 c' (fun (_ _ : Unit) => True) (letOwnedTupleGo target it) v m1 σ1 (fun _ m2 σ2 => Wo1 c' (fun (_ _ : Unit) => True) (assign target (c'.env sc)) v m2 σ2 (fun _ m3 σ3 =>
          Wx c' sc b m3 σ3 (loopQ J k Q)))))
    (k : Nat) (h : J k m σ) : Wloop c sc target it b o m σ Q := by
  intro s hs
  refine codeAny_forLoop_any (fun k s => ∃ m σ, J k m σ ∧ Sr c.w c.os c.g ((c.L, .ns m) :: σ) s) (fun k s z => ?_) k ⟨m, σ, h, hs⟩
  obtain ⟨m, σ, hj, hs⟩ := z
  have key := fun E' => turn (c.setE E') rfl rfl rfl (ok.withE E') k m σ hj s hs
  refine wm hs.tk (key (notedBy (model PG c.w) c.A (c.env sc) fun e s' => cameBackBy (MM c.w) c.A (c.env sc) c.E e s')) (fun v s1 r m1 σ1 t1 h1 hs1 => ?_) fun _ _ e => e
  cases t1 with
  | none => exact wm hs1.tk (h1 s1 hs1) (fun f s2 f' m2 σ2 t2 h2 hs2 => ⟨f', m2, σ2, t2, h2, hs2.toSr0⟩) fun _ _ e => e
  | some t1 =>
    refine wm hs1.tk (h1 _ t1 s1 hs1) (fun _ s2 _ m2 σ2 _ h2 hs2 => wm hs2.tk (h2 _ t1 s2 hs2) (fun _ s3 _ m3 σ3 _ h3 hs3 => wm hs3.tk (h3 s3 hs3) (fun f s4 f' m4 σ4 t4 h4 hs4 => ?_) fun _ _ e => e) fun _ _ e => e) fun _ _ e => e
    cases t4 with
    | ret t => exact ⟨_, m4, σ4, .ret t, h4, hs4.toSr0⟩
    | brk => exact ⟨_, m4, σ4, .next, h4, hs4.toSr0⟩
    | next => obtain ⟨k', hk, hj⟩ := h4; exact ⟨k', hk, m4, σ4, hj, hs4⟩
    | cont => obtain ⟨k', hk, hj⟩ := h4; exact ⟨k', hk, m4, σ4, hj, hs4⟩
end
noncomputable def retOf : Flow → Value
  | .ret v => v
  | _ => .none
theorem Sr.enter {w : World} {os : OsState} {g h₁ : Heap} {σ : Sto} {s : Shared} {mf : Str → Option Value} {m₀ : Loc} (hs : Sr w os g σ s) (hns : h₁.Ns s.heap.objs.size mf) (hk₁ : ∀ b o, s.heap.get? b = some o → h₁.get? b = some o)
    (hnd : (m₀.map (·.1)).Nodup) (hbm : ∀ x v, (x, some v) ∈ m₀ → ∃ v', mf x = some v' ∧ Teq v v') (k : Nat) : Sr w os g ((s.heap.objs.size, .ns m₀) :: σ) { s with heap := h₁, toks := s.toks + k } := by
  obtain ⟨o, es, ep, ho', hd', hsk, hf'⟩ := hns
  refine ⟨⟨⟨fun b o e => hk₁ _ _ (hs.hr.keep b o e), fun p hp => ?_, ?_⟩, hs.gens, hs.os⟩, Nat.le_trans hs.tk (Nat.le_add_right ..)⟩
  · rcases List.mem_cons.mp hp with rfl | hp
    · refine ⟨?_, o, ho', hnd, es, ep, hd', hsk, fun x v hm => ?_⟩
      · show g.get? s.heap.objs.size = none
        cases e : g.get? s.heap.objs.size with
        | none => rfl
        | some o => exact absurd (Heap.lt_size (hs.hr.keep _ _ e)) (Nat.lt_irrefl _)
      · rw [hf']; exact hbm x v hm
    · obtain ⟨u, o, ho, hi⟩ := hs.hr.own p hp
      exact ⟨u, o, hk₁ _ _ ho, hi⟩
  · rw [List.map_cons, List.nodup_cons]
    refine ⟨fun hm => ?_, hs.hr.nd⟩
    obtain ⟨q, hq, e⟩ := List.mem_map.mp hm
    obtain ⟨_, o, ho, _⟩ := hs.hr.own q hq
    rw [e] at ho
    exact absurd (Heap.lt_size ho) (Nat.lt_irrefl _)
noncomputable def fxD (w : World) (A : Around) (g : Heap) (os : OsState) (L fa : Addr) (fd : FuncData) (E : Value → Shared → Prop) : Fx := { w := w, A := A.deeper (callEnv fd L fa), g := g, os := os, L := L, q := fd.qualname ++ ".<locals>.", fn := some fa, cd := fd.code, fr := some L, cl := [], E := fun e s' => wpAny (model PG w) (A.deeper (callEnv fd L fa)) (leaving (callEnv fd L fa) e) (fun _ s'' => E e s'') (fun e' s'' => E e' s'') s' }
noncomputable def endQ (Q : Value → Sto → Prop) : Flow → Loc → Sto → Prop := fun f _ σ' => ∃ φ, Picks σ' φ ∧ Q (retOf f) φ
theorem Fn.def {w : World} {os : OsState} {n : Nat} {fa : Addr} {args : List Value} {kw : List (Str × Value)} {σ : Sto} {Q : Value → Sto → Prop} {oc : Value} {od : Option Addr} {fd : FuncData} {osl : Array (Option Value)} {body : List Stmt} {m₀ : Loc}
    (ho : (KK w).lookup fa = some ⟨oc, od, .func fd, osl⟩) (hcd : codeIn (KK w) fd.code fd.qualname = true) (hbody : fd.body = .stmts body) (hgl : fd.globals = mainGlobals ∧ fd.builtins = builtinsNs ∧ fd.closure = [])
    (hcell : ∀ x ∈ fd.scope.names, x.2 ≠ .cell) (hco : fd.scope.isCoroutine = false) (hgen : fd.scope.isGenerator = false) (hk : fd.scope.kind = .function) (hnd : (m₀.map (·.1)).Nodup)
    (hb : ∀ vs ks, TeqL args vs → TeqL (kw.map (·.2)) ks → ∀ s : Shared, (KK w).In s.heap → ∃ binds, BindsTo s fd ⟨vs, (kw.map (·.1)).zip ks⟩ binds ∧ (∀ x ∈ binds, fd.scope.names.lookup x.1 = some .local) ∧ ∀ x v, (x, some v) ∈ m₀ → ∃ v', binds.reverse.lookup x = some v' ∧ Teq v v')
    (h : ∀ c : Fx, c.w = w → c.os = os → c.cl = [] → c.Ok n → Wx c fd.scope body m₀ σ (endQ Q)) : Fn w os (n + 1) (.ref fa) args kw σ Q := by
  intro A g E s vs ks b r hh ht hkw hs
  obtain ⟨binds, hbi, hloc, hbm⟩ := hb vs ks ht hkw s (hs.bg b).kk
  have X := (hs.bg b).kk
  refine (codeAny_call_def (fd := fd) (body := body) (binds := binds) (by unfold Room at r; omega) (X _ _ ho) rfl (hs.bg b).nolim (codeRec_of X hcd) hbody hbi hcell hloc (fun h₁ hns hk₁ => ?_) hco hgen hk)
  have hwp := h (fxD w A g os s.heap.objs.size fa fd E) rfl rfl rfl
    ⟨b, hh, by show A.depth + 1 + 2 * n < recursionLimit ∧ A.units + 3 + 30 * n < cLine; unfold Room at r; omega⟩ { s with heap := h₁, toks := s.toks + binds.length } ?_
  · have ee : Fx.env (fxD w A g os s.heap.objs.size fa fd E) fd.scope = callEnv fd s.heap.objs.size fa := by
      show _ = newEnv _ _ _ _ _ _ _ _ _
      unfold newEnv Fx.env fxD
      rw [hgl.1, hgl.2.1, hgl.2.2]
    refine wpm (ee ▸ hwp) (fun f s' f' m' σ' t1 z hs1 => ?_) fun _ _ e => e
    obtain ⟨φ, ⟨τ, htk⟩, h1⟩ := z
    have hs2 : Sr0 w os g φ s' := ((hs1.sub (List.sublist_cons_self ..)).perm htk.perm).sub (List.sublist_append_left φ τ)
    cases t1 with
    | ret t => exact ⟨_, φ, t, h1, hs2⟩
    | next => exact ⟨_, φ, .same _, h1, hs2⟩
    | brk => exact ⟨_, φ, .same _, h1, hs2⟩
    | cont => exact ⟨_, φ, .same _, h1, hs2⟩
  · exact hs.enter hns hk₁ hnd hbm _
section
variable {c : Fx} {n : Nat} {sc : Scope} {m m' : Loc} {σ σ' φ τ : Sto} {a b : Int} {x y : Str} {Q : Value → Loc → Sto → Prop}
theorem o_add (h : Q (I (a + b)) m σ) : Wo2 c Teq (binaryOp .Add) (I a) (I b) m σ Q := by
  intro u u' t t' s hs
  obtain ⟨_, rfl⟩ := t.int_inv; obtain ⟨_, rfl⟩ := t'.int_inv
  exact PyProof.Rows.add_int ⟨_, m, σ, .i, h, hs.toks _⟩
theorem o_sub (h : Q (I (a - b)) m σ) : Wo2 c Teq (binaryOp .Sub) (I a) (I b) m σ Q := by
  intro u u' t t' s hs
  obtain ⟨_, rfl⟩ := t.int_inv; obtain ⟨_, rfl⟩ := t'.int_inv
  exact PyProof.Rows.sub_int ⟨_, m, σ, .i, h, hs.toks _⟩
theorem o_mod (hb : b ≠ 0) (h : Q (I (a.fmod b)) m σ) : Wo2 c Teq (binaryOp .Mod) (I a) (I b) m σ Q := by
  intro u u' t t' s hs
  obtain ⟨_, rfl⟩ := t.int_inv; obtain ⟨_, rfl⟩ := t'.int_inv
  exact PyProof.Rows.mod_int hb ⟨_, m, σ, .i, h, hs.toks _⟩
theorem o_div (hb : b ≠ 0) (hs' : b.natAbs < 1073741824) (h : Q (I (a.fdiv b)) m σ) : Wo2 c Teq (binaryOp .FloorDiv) (I a) (I b) m σ Q := by
  intro u u' t t' s hs
  obtain ⟨_, rfl⟩ := t.int_inv; obtain ⟨_, rfl⟩ := t'.int_inv
  exact PyProof.Rows.floordiv_int hb ⟨_, m, σ, .i, h, hs.toks _⟩ (.inl (PyProof.noPylong_small hs'))
theorem o_lt (h : Q (.bool (decide (a < b))) m σ) : Wo2 c Teq (compareOp .Lt) (I a) (I b) m σ Q := by
  intro u u' t t' s hs
  obtain ⟨_, rfl⟩ := t.int_inv; obtain ⟨_, rfl⟩ := t'.int_inv
  exact PyProof.Rows.lt_int ⟨_, m, σ, .same _, h, hs.toSr0⟩
theorem o_gt (h : Q (.bool (decide (b < a))) m σ) : Wo2 c Teq (compareOp .Gt) (I a) (I b) m σ Q := by
  intro u u' t t' s hs
  obtain ⟨_, rfl⟩ := t.int_inv; obtain ⟨_, rfl⟩ := t'.int_inv
  exact PyProof.Rows.gt_int ⟨_, m, σ, .same _, h, hs.toSr0⟩
theorem o_ge (h : Q (.bool (decide (b ≤ a))) m σ) : Wo2 c Teq (compareOp .GtE) (I a) (I b) m σ Q := by
  intro u u' t t' s hs
  obtain ⟨_, rfl⟩ := t.int_inv; obtain ⟨_, rfl⟩ := t'.int_inv
  exact PyProof.Rows.ge_int ⟨_, m, σ, .same _, h, hs.toSr0⟩
theorem o_eq (h : Q (.bool (a == b)) m σ) : Wo2 c Teq (compareOp .Eq) (I a) (I b) m σ Q := by
  intro u u' t t' s hs
  obtain ⟨_, rfl⟩ := t.int_inv; obtain ⟨_, rfl⟩ := t'.int_inv
  exact PyProof.Rows.eq_int ⟨_, m, σ, .same _, h, hs.toSr0⟩
theorem o_iadd (h : Q (I (a + b)) m σ) : Wo2 c Teq (inplaceOp .Add) (I a) (I b) m σ Q := by
  intro u u' t t' s hs
  obtain ⟨_, rfl⟩ := t.int_inv; obtain ⟨_, rfl⟩ := t'.int_inv
  exact wpAny_iadd_int ⟨_, m, σ, .i, h, hs.toks _⟩
theorem o_neg (h : Q (I (-a)) m σ) : Wo1 c Teq (unaryOp .USub) (I a) m σ Q := by
  intro u t s hs
  obtain ⟨_, rfl⟩ := t.int_inv
  exact PyProof.Rows.neg_int ⟨_, m, σ, .i, h, hs.toks _⟩
theorem t_bool {B : Bool} {Q : Bool → Loc → Sto → Prop} (h : Q B m σ) : Wo1 c Eq truthy (.bool B) m σ Q := by
  intro u t s hs
  rw [t.bool_inv]
  exact wpAny_truthy_bool ⟨_, m, σ, rfl, h, hs.toSr0⟩
theorem t_int {Q : Bool → Loc → Sto → Prop} (h : Q (a != 0) m σ) : Wo1 c Eq truthy (I a) m σ Q := by
  intro u t s hs
  obtain ⟨_, rfl⟩ := t.int_inv
  exact PyProof.Rows.truthy_int ⟨_, m, σ, rfl, h, hs.toSr0⟩
theorem t_none {Q : Bool → Loc → Sto → Prop} (h : Q false m σ) : Wo1 c Eq truthy .none m σ Q := by
  intro u t s hs
  rw [t.none_inv]
  exact PyProof.Rows.truthy_none ⟨_, m, σ, rfl, h, hs.toSr0⟩
theorem t_str {Q : Bool → Loc → Sto → Prop} (hz : x.length ≤ sizeLine) (h : Q (x.length != 0) m σ) : Wo1 c Eq truthy (S x) m σ Q := by
  intro u t s hs
  obtain ⟨_, rfl⟩ := t.str_inv
  have e : ((x.length : Int) != 0) = (x.length != 0) := by
    cases hx : x.length with
    | zero => rfl
    | succ k => simp; omega
  refine PySem.P.truthy_str (by rw [show sizeLine = 16777216 from rfl] at hz; omega) ⟨_, m, σ, rfl, e ▸ h, hs.toks _⟩
theorem o_eqs (h : Q (.bool (x == y)) m σ) : Wo2 c Teq (compareOp .Eq) (S x) (S y) m σ Q := by
  intro u u' t t' s hs
  obtain ⟨_, rfl⟩ := t.str_inv; obtain ⟨_, rfl⟩ := t'.str_inv
  exact PyProof.Rows.eq_str ⟨_, m, σ, .same _, h, hs.toSr0⟩
theorem o_nes (h : Q (.bool (x != y)) m σ) : Wo2 c Teq (compareOp .NotEq) (S x) (S y) m σ Q := by
  intro u u' t t' s hs
  obtain ⟨_, rfl⟩ := t.str_inv; obtain ⟨_, rfl⟩ := t'.str_inv
  exact PyProof.Rows.ne_str ⟨_, m, σ, .same _, h, hs.toSr0⟩
theorem o_adds (hz : x.length + y.length ≤ sizeLine) (h : Q (S (x ++ y)) m σ) : Wo2 c Teq (binaryOp .Add) (S x) (S y) m σ Q := by
  intro u u' t t' s hs
  obtain ⟨_, rfl⟩ := t.str_inv; obtain ⟨_, rfl⟩ := t'.str_inv
  exact PyProof.Rows.add_str (fun t' tk => ⟨_, m, σ, .s, h, hs.toks _⟩) hz
theorem o_ins (h : Q (.bool !(Builtin.Str.occurrences x y 0 x.length 1).isEmpty) m σ) : Wo2 c Teq (compareOp .In) (S y) (S x) m σ Q := by
  intro u u' t t' s hs
  obtain ⟨_, rfl⟩ := t.str_inv; obtain ⟨_, rfl⟩ := t'.str_inv
  exact PyProof.Rows.in_str ⟨_, m, σ, .same _, h, hs.toSr0⟩
theorem o_nins (h : Q (.bool (!!(Builtin.Str.occurrences x y 0 x.length 1).isEmpty)) m σ) : Wo2 c Teq (compareOp .NotIn) (S y) (S x) m σ Q := by
  intro u u' t t' s hs
  obtain ⟨_, rfl⟩ := t.str_inv; obtain ⟨_, rfl⟩ := t'.str_inv
  exact PyProof.Rows.notIn_str ⟨_, m, σ, .same _, h, hs.toSr0⟩
theorem o_isnone {v : Value} (h : Q (.bool (v == .none)) m σ) : Wo2 c Teq (compareOp .Is) v .none m σ Q := by
  intro u u' t t' s hs
  rw [t'.none_inv]
  have e : (u == Value.none) = (v == .none) := by cases t <;> rfl
  exact PySem.is_none ⟨_, m, σ, .same _, e ▸ h, hs.toSr0⟩
theorem sub_tail {w : World} {A : Around} {E : Value → Shared → Prop} {s : Shared} {value slice : Expr} {o i : Value} {T id : String} {Q : Value → Shared → Prop} (hT : s.TypeIs o T)
    (hl : typeLookup (.type T) "__getitem__" = pure (some (.builtin id))) (h : wpAny (MM w) A (getItem o i) Q E s) : wpAny (MM w) A (subscriptTail value slice o i) Q E s := by
  unfold subscriptTail
  refine wpAny_bind ?_
  rw [getitemInPython_of_ne hT.not_modules]
  refine wpAny_bind (wpAny_specialOf hT hl ?_)
  have fin : wpAny (MM w) A (subscripted slice false o i) (fun r s₃ => wpAny (MM w) A (letTemporaryGo value o r >>= fun _ => pure r) Q E s₃) E s := by
    unfold subscripted
    split
    · exact wpAny_operating (wpAny_mono h (fun r s₃ h₃ => wpAny_bind (wpAny_letTemporaryGo (wpAny_pure h₃))) fun _ _ x => x)
    · rename_i h; cases h
    · exact wpAny_operating (wpAny_mono h (fun r s₃ h₃ => wpAny_bind (wpAny_letTemporaryGo (wpAny_pure h₃))) fun _ _ x => x)
  first
    | exact wpAny_pure (wpAny_bind fin)
    | exact wpAny_bind (wpAny_pure (wpAny_bind fin))
    | exact wpAny_bind fin
inductive Part : Value → Option Int → Prop
  | none : Part .none none
  | int (i : Int) : Part (I i) (some i)
noncomputable def Wpart (c : Fx) (sc : Scope) (e : Option Expr) (m : Loc) (σ : Sto) (Q : Value → Loc → Sto → Prop) : Prop := WT c Teq (evalPart e (c.env sc)) m σ Q
theorem Wpart.none (h : Q .none m σ) : Wpart c sc none m σ Q := fun s hs => wpAny_pure ⟨_, m, σ, .same _, h, hs.toSr0⟩
theorem Wpart.some {e : Expr} (h : We c sc e m σ Q) : Wpart c sc (some e) m σ Q := fun s hs => h s hs
theorem We.slice {l u : Option Expr} {p : Pos} (h : Wpart c sc l m σ (fun v m1 σ1 => Wpart c sc u m1 σ1 (fun v' m2 σ2 => ∀ a o, (∃ t t', Teq v t ∧ Teq v' t' ∧ o = ({ cls := .type "slice", data := .fields #[t, t', .none] } : Obj)) → Q (.ref a) m2 ((a, .obj o) :: σ2)))) : We c sc (.Slice l u none p) m σ Q := by
  intro s hs
  refine wpAny_Slice (wm hs.tk (h s hs) (fun t s1 v m1 σ1 t1 h1 hs1 => wm hs1.tk (h1 s1 hs1) (fun t' s2 v' m2 σ2 t2 h2 hs2 => ?_) fun _ _ e => e) fun _ _ e => e)
  rw [evalPart_none]
  exact wpAny_pure ⟨_, m2, _, .same _, h2 _ _ ⟨t, t', t1, t2, rfl⟩, hs2.new2 (x := .obj _) rfl rfl _⟩
theorem Part.is {v t : Value} {o : Option Int} (p : Part v o) (h : Teq v t) : IsPart t o := by
  cases p with
  | none => rw [h.none_inv]; exact .none
  | int i => obtain ⟨_, rfl⟩ := h.int_inv; exact .int _ _
theorem o_item {value slice : Expr} {i : Int} (h1 : -(x.length : Int) ≤ i) (h2 : i < x.length) (hz : x.length ≤ sizeLine) (h : Q (S (Txt.item x i)) m σ) : Wo2 c Teq (subscriptTail value slice) (S x) (I i) m σ Q := by
  intro u u' t t' s hs
  obtain ⟨_, rfl⟩ := t.str_inv; obtain ⟨_, rfl⟩ := t'.int_inv
  have hr : fitsSsize i = true := by
    rw [show sizeLine = 16777216 from rfl] at hz
    simp [fitsSsize]; omega
  refine sub_tail (typeIs_str _ _ _) F.slot_str_getitem.lookup ?_
  obtain ⟨T, id, hl, hT, hg⟩ := SB.item (prog := PG) (w := c.w) (A := c.A) (E := c.E) (s := s) (x := x) hr (charAt_isSome h1 h2) (Q := fun v s' => ∃ b m' σ', Teq b v ∧ Q b m' σ' ∧ Sr0 c.w c.os c.g ((c.L, .ns m') :: σ') s') ⟨_, m, σ, .s, h, hs.toks _⟩
  exact hg
end
section
variable {c : Fx} {n : Nat} {sc : Scope} {m m' : Loc} {σ σ' φ τ : Sto} {x y : Str} {Q : Value → Loc → Sto → Prop} {l l' : Addr} {xs ys : List Value} {s : Shared}
theorem Sr0.list {w : World} {os : OsState} {g : Heap} (z : Sr0 w os g σ s) (hm : (l, .list xs) ∈ σ) : ∃ arr n, s.heap.get? l = some ⟨.type "list", none, .seq arr n, #[]⟩ ∧ s.heap.IsList l arr ∧ TeqL xs arr.toList ∧ arr.size = xs.length := by
  obtain ⟨o, ho, arr, n, rfl, ht⟩ := z.at hm
  exact ⟨arr, n, ho, ⟨_, ho, rfl, n, rfl⟩, ht, by simpa using ht.length.symm⟩
theorem Sr0.tup {w : World} {os : OsState} {g : Heap} (z : Sr0 w os g σ s) (hm : (l, .tup xs) ∈ σ) : ∃ arr n, s.heap.get? l = some ⟨.type "tuple", none, .seq arr n, #[]⟩ ∧ IsTup s.heap l arr ∧ TeqL xs arr.toList ∧ arr.size = xs.length := by
  obtain ⟨o, ho, arr, n, rfl, ht⟩ := z.at hm
  exact ⟨arr, n, ho, ⟨_, ho, rfl, n, rfl⟩, ht, by simpa using ht.length.symm⟩
theorem o_lget {value slice : Expr} {i : Int} {v : Value} (hm : (l, .list xs) ∈ σ) (h0 : 0 ≤ i) (hi : i < 2 ^ 63) (hx : xs[i.toNat]? = some v) (h : Q v m σ) : Wo2 c Teq (subscriptTail value slice) (.ref l) (I i) m σ Q := by
  intro u u' t t' s hs
  rw [t.ref_inv]; obtain ⟨_, rfl⟩ := t'.int_inv
  obtain ⟨arr, k, ho, hL, ht, hz⟩ := hs.list (.tail _ hm)
  obtain ⟨v', hv, hvt⟩ := ht.get hx
  exact sub_tail hL.typeIs slot_list_getitem.lookup (wpAny_getItem_list hL h0 hi (by simpa using hv) ⟨v, m, σ, hvt, h, hs.toSr0⟩)
theorem o_llast {value slice : Expr} {v : Value} (hm : (l, .list (xs ++ [v])) ∈ σ) (h : Q v m σ) : Wo2 c Teq (subscriptTail value slice) (.ref l) (I (-1)) m σ Q := by
  intro u u' t t' s hs
  rw [t.ref_inv]; obtain ⟨_, rfl⟩ := t'.int_inv
  obtain ⟨arr, k, ho, hL, ht, hz⟩ := hs.list (.tail _ hm)
  obtain ⟨v', hv, hvt⟩ := ht.get (i := xs.length) (v := v) (by simp)
  rw [List.length_append, List.length_singleton] at hz
  refine sub_tail hL.typeIs slot_list_getitem.lookup (wpAny_getItem_list_neg hL (by decide) (by omega) (by decide) (x := v') ?_ ⟨v, m, σ, hvt, h, hs.toSr0⟩)
  have : (-1 + (arr.size : Int)).toNat = xs.length := by omega
  rw [this]; simpa using hv
theorem o_lcut {value slice : Expr} {a : Addr} {lo hi : Option Int} {v v' : Value} {o : Obj} {zs : List Value} (hm : (l, .list xs) ∈ σ) (ho : ∃ t t', Teq v t ∧ Teq v' t' ∧ o = ({ cls := .type "slice", data := .fields #[t, t', .none] } : Obj)) (ha : (a, .obj o) ∈ σ) (p : Part v lo) (p' : Part v' hi)
    (hz : ∀ arr : Array Value, TeqL xs arr.toList → TeqL zs (slicePick arr lo hi none).toList) (hsz : xs.length ≤ sizeLine) (h : ∀ b, Q (.ref b) m ((b, .list zs) :: σ)) : Wo2 c Teq (subscriptTail value slice) (.ref l) (.ref a) m σ Q := by
  intro u u' t t' s hs
  rw [t.ref_inv, t'.ref_inv]
  obtain ⟨arr, k, hol, hL, ht, hsz'⟩ := hs.list (.tail _ hm)
  obtain ⟨t1, t2, e1, e2, rfl⟩ := ho
  obtain ⟨o', ho', e⟩ := hs.at (.tail _ ha)
  have e : o' = _ := e
  subst e
  refine sub_tail hL.typeIs slot_list_getitem.lookup (wpAny_getItem_list_slice hL ⟨_, ho', rfl, rfl⟩ (p.is e1) (p'.is e2) .none (by simp) ?_ (by omega))
  exact ⟨_, m, _, .same _, h _, hs.new2 (x := .list zs) rfl ⟨_, _, rfl, hz arr ht⟩ _⟩
theorem cut_upto {b : Nat} {arr : Array Value} (h : TeqL xs arr.toList) : TeqL (xs.take b) (slicePick arr none (some (b : Int)) none).toList := by
  rw [slicePick_upto']; simpa using h.take b
theorem cut_from {b : Nat} {arr : Array Value} (h : TeqL xs arr.toList) : TeqL (xs.drop b) (slicePick arr (some (b : Int)) none none).toList := by
  rw [slicePick_from']; simpa using h.drop b
theorem t_list {Q : Bool → Loc → Sto → Prop} (hm : (l, .list xs) ∈ σ) (hz : xs.length ≤ sizeLine) (h : Q (!xs.isEmpty) m σ) : Wo1 c Eq truthy (.ref l) m σ Q := by
  intro u t s hs
  rw [t.ref_inv]
  obtain ⟨arr, k, ho, hL, ht, hsz⟩ := hs.list (.tail _ hm)
  have e : (!arr.isEmpty) = (!xs.isEmpty) := by
    have : arr.isEmpty = xs.isEmpty := by
      cases xs with
      | nil => simp at hsz; simp [Array.isEmpty, hsz]
      | cons a r => simp at hsz; simp [Array.isEmpty, hsz]
    rw [this]
  refine wpAny_truthy_list hL (by rw [hsz]; rw [show sizeLine = 16777216 from rfl] at hz; omega) ⟨_, m, σ, rfl, e ▸ h, hs.toks _⟩
theorem o_ladd (hm : (l, .list xs) ∈ σ) (hm' : (l', .list ys) ∈ σ) (hz : xs.length + ys.length ≤ sizeLine) (h : ∀ b, Q (.ref b) m ((b, .list (xs ++ ys)) :: σ)) : Wo2 c Teq (binaryOp .Add) (.ref l) (.ref l') m σ Q := by
  intro u u' t t' s hs
  rw [t.ref_inv, t'.ref_inv]
  obtain ⟨arr, k, ho, hL, ht, hsz⟩ := hs.list (.tail _ hm)
  obtain ⟨arr', k', ho', hL', ht', hsz'⟩ := hs.list (.tail _ hm')
  exact P.add_list ho ho' ⟨_, m, _, .same _, h _, hs.new2 (x := .list (xs ++ ys)) rfl ⟨_, _, rfl, by simpa using ht.append ht'⟩ _⟩ (by omega)
theorem g_str {name : Str} {id : String} {pl : Sem Bool} {P : Value → List Value → Loc → Sto → Prop} (slot : Slot "str" name id) (ty : typeOf (.builtin id) = pure (.type "method_descriptor")) (h : P (.builtin id) [S x] m σ) : Wo1 c MRel (fun u => getMethod u name pl) (S x) m σ (MQ P) := by
  intro u t s hs
  obtain ⟨_, rfl⟩ := t.str_inv
  exact GM.of _ (typeIs_str _ _ _) slot ty GM.noRef ⟨(.builtin id, [S x]), m, σ, ⟨.same _, .cons .s .nil⟩, h, hs.toSr0⟩
theorem g_list {name : Str} {id : String} {pl : Sem Bool} {P : Value → List Value → Loc → Sto → Prop} (slot : Slot "list" name id) (ty : typeOf (.builtin id) = pure (.type "method_descriptor")) (hm : (l, .list xs) ∈ σ) (h : P (.builtin id) [.ref l] m σ) : Wo1 c MRel (fun u => getMethod u name pl) (.ref l) m σ (MQ P) := by
  intro u t s hs
  rw [t.ref_inv]
  obtain ⟨arr, k, ho, hL, ht, hsz⟩ := hs.list (.tail _ hm)
  exact getMethod_builtin hL.typeIs F.plainAttrs_list slot ty (fun a e => by cases e; exact ⟨_, ho, rfl⟩) ⟨(.builtin id, [.ref l]), m, σ, ⟨.same _, .cons (.same _) .nil⟩, h, hs.toSr0⟩
theorem c_startswith (h : Q (.bool (Txt.startswith x y)) m σ) : Wcall c (.builtin "str.startswith") [S x, S y] m σ Q := by
  intro vs hv s hs
  cases hv with | cons t1 hv => cases hv with | cons t2 hv => cases hv with | nil =>
  obtain ⟨_, rfl⟩ := t1.str_inv; obtain ⟨_, rfl⟩ := t2.str_inv
  exact SC.startswith ⟨_, m, σ, .same _, h, hs.toSr0⟩
theorem c_endswith (h : Q (.bool (Txt.endswith x y)) m σ) : Wcall c (.builtin "str.endswith") [S x, S y] m σ Q := by
  intro vs hv s hs
  cases hv with | cons t1 hv => cases hv with | cons t2 hv => cases hv with | nil =>
  obtain ⟨_, rfl⟩ := t1.str_inv; obtain ⟨_, rfl⟩ := t2.str_inv
  exact SC.endswith ⟨_, m, σ, .same _, h, hs.toSr0⟩
theorem c_append {v : Value} (hp : Put σ l (.list xs) (.list (xs ++ [v])) σ') (hz : xs.length ≤ sizeLine) (h : Q .none m σ') : Wcall c (.builtin "list.append") [.ref l, v] m σ Q := by
  intro vs hv s hs
  cases hv with | cons t1 hv => cases hv with | cons t2 hv => cases hv with | nil =>
  rw [t1.ref_inv]
  obtain ⟨arr, k, ho, hL, ht, hsz⟩ := hs.list (.tail _ hp.mem)
  refine append_at ho (fun h' hsb ho' => ⟨_, m, σ', .same _, h, ?_⟩) (by omega)
  exact hs.put (Put.there hp) hsb ho' ⟨_, _, rfl, by simpa using ht.append (.cons t2 .nil)⟩ _
theorem c_pop {v : Value} (hp : Put σ l (.list (xs ++ [v])) (.list xs) σ') (hz : xs.length < sizeLine) (h : Q v m σ') : Wcall c (.builtin "list.pop") [.ref l] m σ Q := by
  intro vs hv s hs
  cases hv with | cons t1 hv => cases hv with | nil =>
  rw [t1.ref_inv]
  obtain ⟨arr, k, ho, hL, ht, hsz⟩ := hs.list (.tail _ hp.mem)
  rw [List.length_append, List.length_singleton] at hsz
  obtain ⟨v', hv', hvt⟩ := ht.get (i := xs.length) (v := v) (by simp)
  have hy : arr[arr.size - 1]? = some v' := by rw [hsz]; simpa using hv'
  refine call_meets F.slot_list_pop ⟨_, ho, rfl⟩ F.entry_list_pop (F.args_list_pop_1 _) (MeetsSeq.list_pop_last l arr k v' hy (by omega)) ⟨ho, v, m, σ', hvt, h, ?_⟩
  have e : arr.eraseIdxIfInBounds (arr.size - 1) = (arr.toList.take xs.length).toArray := by
    apply Array.ext'
    rw [Array.toList_eraseIdxIfInBounds]
    have hl : arr.toList.length = xs.length + 1 := by simpa using hsz
    rw [hsz, Nat.add_sub_cancel]
    rw [List.eraseIdx_eq_take_drop_succ]
    simp [hl]
  refine hs.put (o' := _) (Put.there hp) (Heap.SameBut.update ..) (Heap.get?_update_self _ ho rfl) ⟨arr.eraseIdxIfInBounds (arr.size - 1), _, rfl, ?_⟩ s.toks
  rw [e]
  have := ht.take xs.length
  simpa using this
end
theorem strsAre_of {ws : List Str} {vs : List Value} (h : TeqL (ws.map S) vs) : StrsAre vs ws := by
  induction ws generalizing vs with
  | nil => cases h; exact .nil
  | cons x r ih => cases h with | cons t h => obtain ⟨u, rfl⟩ := t.str_inv; exact .cons _ _ (ih h)
theorem strValues_of {ws : List Str} {vs : List Value} (h : TeqL (ws.map S) vs) : ∃ l : List (Str × Tok), vs = strValues l ∧ l.map (·.1) = ws := by
  induction ws generalizing vs with
  | nil => cases h; exact ⟨[], rfl, rfl⟩
  | cons x r ih =>
    cases h with
    | cons t h =>
      obtain ⟨u, rfl⟩ := t.str_inv
      obtain ⟨l, rfl, e⟩ := ih h
      exact ⟨(x, u) :: l, rfl, by simp [e]⟩
theorem teqL_strValues : ∀ l : List (Str × Tok), TeqL ((l.map (·.1)).map S) (strValues l)
  | [] => .nil
  | p :: r => .cons .s (teqL_strValues r)
section
variable {c : Fx} {n : Nat} {sc : Scope} {m m' : Loc} {σ σ' φ τ : Sto} {x y : Str} {Q : Value → Loc → Sto → Prop} {l l' : Addr} {xs ys : List Value} {ws us : List Str} {s : Shared}
theorem c_join (hm : (l, .list (ws.map S)) ∈ σ) (hok : JoinOk x ws = true) (h : Q (S (Txt.join x ws)) m σ) : Wcall c (.builtin "str.join") [S x, .ref l] m σ Q := by
  intro vs hv s hs
  cases hv with | cons t1 hv => cases hv with | cons t2 hv => cases hv with | nil =>
  obtain ⟨_, rfl⟩ := t1.str_inv; rw [t2.ref_inv]
  obtain ⟨arr, k, ho, hL, ht, hsz⟩ := hs.list (.tail _ hm)
  obtain ⟨ll, e, e'⟩ := strValues_of ht
  have hL' : s.heap.IsList l (strValues ll).toArray := by rw [← e]; simpa using hL
  exact SC.join hL' e' hok fun t' k => ⟨_, m, σ, .s, h, hs.toks _⟩
theorem c_split (hy : (y.length == 0) = false) (hsz : x.length + 2 ≤ sizeLine) (h : ∀ b, Q (.ref b) m ((b, .list ((Txt.split x y).map S)) :: σ)) : Wcall c (.builtin "str.split") [S x, S y] m σ Q := by
  intro vs hv s hs
  cases hv with | cons t1 hv => cases hv with | cons t2 hv => cases hv with | nil =>
  obtain ⟨t, rfl⟩ := t1.str_inv; obtain ⟨u, rfl⟩ := t2.str_inv
  have fin : ∀ (ll : List (Str × Tok)) k, ll.map (·.1) = Txt.split x y → ∃ b m' σ', Teq b (.ref s.heap.objs.size) ∧ Q b m' σ' ∧ Sr0 c.w c.os c.g ((c.L, .ns m') :: σ') { s with heap := s.heap.push { cls := .type "list", data := .seq (strValues ll).toArray }, toks := k } := fun ll k e =>
    ⟨_, m, _, .same _, h _, hs.new2 (x := .list _) rfl ⟨_, _, rfl, by rw [← e]; simpa using teqL_strValues ll⟩ _⟩
  have hsz2 : (Builtin.Str.partsBetween x (Builtin.Str.occurrences x y 0 x.length (x.length + 1)) y.length).length ≤ sizeLine := by
    have h1 := StrLaws.occ_length_le x y 0 x.length (x.length + 1)
    rw [length_partsBetween]; omega
  cases h1 : (decide (x.length < y.length) || decide (Builtin.Str.strKind x < Builtin.Str.strKind y))
  · cases hf : (Builtin.Str.occurrences x y 0 x.length (x.length + 1)).isEmpty
    · refine call_meets F.slot_str_split (typeIs_str _ _ _) F.entry_str_split (F.args_str_split_2 _ _) (meets_str_split_sep x y t u h1 hy hf (by omega) hsz2) ?_
      show wants _ _ _ { s with toks := _, heap := s.heap.push { cls := .type "list", data := .seq (strsFrom s.toks (Builtin.Str.partsBetween x (Builtin.Str.occurrences x y 0 x.length (x.length + 1)) y.length)).toArray } }
      rw [strsFrom_eq]
      exact fin (numbered s.toks _) _ ((numbered_texts _ _).trans ((if_neg (ne_true_of_eq_false h1)).trans (if_neg (ne_true_of_eq_false hf))).symm)
    · exact call_meets F.slot_str_split (typeIs_str _ _ _) F.entry_str_split (F.args_str_split_2 _ _) (meets_str_split_not_found x y t u h1 hy hf)
        (fin [(x, t)] s.toks ((if_neg (ne_true_of_eq_false h1)).trans (if_pos hf)).symm)
  · exact call_meets F.slot_str_split (typeIs_str _ _ _) F.entry_str_split (F.args_str_split_2 _ _) (meets_str_split_cannot_occur x y t u h1)
      (fin [(x, t)] s.toks (if_pos h1).symm)
theorem c_lenl (hm : (l, .list xs) ∈ σ) (hz : xs.length ≤ sizeLine) (h : Q (I xs.length) m σ) : Wcall c (.builtin "len") [.ref l] m σ Q := by
  intro vs hv s hs
  cases hv with | cons t1 hv => cases hv with | nil =>
  rw [t1.ref_inv]
  obtain ⟨arr, k, ho, hL, ht, hsz⟩ := hs.list (.tail _ hm)
  refine call_len_list hL (by rw [hsz]; rw [show sizeLine = 16777216 from rfl] at hz; omega) ⟨_, m, σ, ?_, h, hs.toks _⟩
  rw [hsz]; exact .i
theorem c_lens (hz : x.length ≤ sizeLine) (h : Q (I x.length) m σ) : Wcall c (.builtin "len") [S x] m σ Q := by
  intro vs hv s hs
  cases hv with | cons t1 hv => cases hv with | nil =>
  obtain ⟨_, rfl⟩ := t1.str_inv
  exact P.len_str (by rw [show sizeLine = 16777216 from rfl] at hz; omega) ⟨_, m, σ, .i, h, hs.toks _⟩
theorem o_int (hm : (l, .tup (ws.map S)) ∈ σ) (h : Q (.bool (ws.any (· == x))) m σ) : Wo2 c Teq (compareOp .In) (S x) (.ref l) m σ Q := by
  intro u u' t t' s hs
  obtain ⟨_, rfl⟩ := t.str_inv; rw [t'.ref_inv]
  obtain ⟨arr, k, ho, hL, ht, hsz⟩ := hs.tup (.tail _ hm)
  exact in_tuple_strs hL (strsAre_of ht) ⟨_, m, σ, .same _, h, hs.toSr0⟩
theorem o_nint (hm : (l, .tup (ws.map S)) ∈ σ) (h : Q (.bool (!(ws.any (· == x)))) m σ) : Wo2 c Teq (compareOp .NotIn) (S x) (.ref l) m σ Q := by
  intro u u' t t' s hs
  obtain ⟨_, rfl⟩ := t.str_inv; rw [t'.ref_inv]
  obtain ⟨arr, k, ho, hL, ht, hsz⟩ := hs.tup (.tail _ hm)
  exact notin_tuple_strs hL (strsAre_of ht) ⟨_, m, σ, .same _, h, hs.toSr0⟩
theorem all_eq : ∀ {ws us : List Str}, ws.length = us.length → ∀ {e : Nat → Bool}, (∀ j (h1 : j < ws.length) (h2 : j < us.length), e j = (ws[j] == us[j])) → (List.range ws.length).all e = (ws == us) := by
  intro ws us hl e he
  rw [Bool.eq_iff_iff, List.all_eq_true, beq_iff_eq]
  constructor
  · intro h
    apply List.ext_getElem hl
    intro j h1 h2
    have := h j (List.mem_range.mpr h1)
    rw [he j h1 h2] at this
    exact eq_of_beq this
  · rintro rfl j hj
    rw [he j (List.mem_range.mp hj) (List.mem_range.mp hj)]
    simp
theorem eqAts {A : Around} {ws us : List Str} {vs vs' : List Value} (h : TeqL (ws.map S) vs) (h' : TeqL (us.map S) vs') (hl : ws.length = us.length) :
    ∃ e : Nat → Bool, (∀ j (h1 : j < vs.length) (h2 : j < vs'.length), SeqAt.EqAt A s vs[j] vs'[j] (e j)) ∧ (List.range vs.length).all e = (ws == us) := by
  have l1 : vs.length = ws.length := by simpa using h.length.symm
  have l2 : vs'.length = us.length := by simpa using h'.length.symm
  refine ⟨fun j => if h1 : j < ws.length then (if h2 : j < us.length then ws[j] == us[j] else false) else false, fun j h1 h2 => ?_, ?_⟩
  · have a1 : j < ws.length := by omega
    have a2 : j < us.length := by omega
    obtain ⟨v, hv, tv⟩ := h.get (i := j) (v := S ws[j]) (by simp [a1])
    obtain ⟨v', hv', tv'⟩ := h'.get (i := j) (v := S us[j]) (by simp [a2])
    have e1 : vs[j] = v := by rw [List.getElem?_eq_getElem h1] at hv; exact Option.some.inj hv
    have e2 : vs'[j] = v' := by rw [List.getElem?_eq_getElem h2] at hv'; exact Option.some.inj hv'
    obtain ⟨_, rfl⟩ := tv.str_inv; obtain ⟨_, rfl⟩ := tv'.str_inv
    rw [e1, e2]
    simp only [a1, a2, dif_pos]
    exact SeqAt.EqAt.str_str _ _ _ _
  · rw [l1]
    exact all_eq hl fun j h1 h2 => by simp [h1, h2]
theorem o_leq (ok : c.Ok (n + 1)) (hm : (l, .list (ws.map S)) ∈ σ) (hm' : (l', .list (us.map S)) ∈ σ) (h : Q (.bool (ws == us)) m σ) : Wo2 c Teq (compareOp .Eq) (.ref l) (.ref l') m σ Q := by
  intro u u' t t' s hs
  rw [t.ref_inv, t'.ref_inv]
  obtain ⟨arr, k, ho, hL, ht, hsz⟩ := hs.list (.tail _ hm)
  obtain ⟨arr', k', ho', hL', ht', hsz'⟩ := hs.list (.tail _ hm')
  have hu : c.A.units < cLine := by have := ok.room; unfold Room at this; omega
  rw [List.length_map] at hsz hsz'
  by_cases hl : ws.length = us.length
  · obtain ⟨e, he, hall⟩ := eqAts (A := c.A.in1) (s := s) ht ht' hl
    refine SeqAt.eq_listAt hL hL' (by omega) hu (e := e) (fun j h1 h2 => ?_) ?_
    · have := he j (by simpa using h1) (by simpa using h2)
      rw [Array.getElem_toList, Array.getElem_toList] at this
      exact this
    · refine ⟨_, m, σ, .same _, ?_, hs.toSr0⟩
      have : (List.range arr.size).all e = (ws == us) := by simpa using hall
      rw [this]; exact h
  · have ne : (ws == us) = false := by
      cases hb : (ws == us) with
      | false => rfl
      | true => exact absurd (congrArg List.length (eq_of_beq hb)) hl
    exact SeqAt.eq_list_lengthsAt hL hL' (by simp; omega) hu ⟨_, m, σ, .same _, ne ▸ h, hs.toSr0⟩
theorem o_lne (ok : c.Ok (n + 1)) (hm : (l, .list (ws.map S)) ∈ σ) (hm' : (l', .list (us.map S)) ∈ σ) (h : Q (.bool (!(ws == us))) m σ) : Wo2 c Teq (compareOp .NotEq) (.ref l) (.ref l') m σ Q := by
  intro u u' t t' s hs
  rw [t.ref_inv, t'.ref_inv]
  obtain ⟨arr, k, ho, hL, ht, hsz⟩ := hs.list (.tail _ hm)
  obtain ⟨arr', k', ho', hL', ht', hsz'⟩ := hs.list (.tail _ hm')
  have hu : c.A.units < cLine := by have := ok.room; unfold Room at this; omega
  rw [List.length_map] at hsz hsz'
  by_cases hl : ws.length = us.length
  · obtain ⟨e, he, hall⟩ := eqAts (A := c.A.in1) (s := s) ht ht' hl
    refine SeqAt.RcNeAt.lists hL hL' (by omega) hu (e := e) (fun j h1 h2 => ?_) _ _ _ _ ?_
    · have := he j (by simpa using h1) (by simpa using h2)
      rw [Array.getElem_toList, Array.getElem_toList] at this
      exact this
    · refine ⟨_, m, σ, .same _, ?_, hs.toSr0⟩
      have : (List.range arr.size).all e = (ws == us) := by simpa using hall
      rw [this]; exact h
  · have ne : (ws == us) = false := by
      cases hb : (ws == us) with
      | false => rfl
      | true => exact absurd (congrArg List.length (eq_of_beq hb)) hl
    exact SeqAt.RcNeAt.lists_lengths hL hL' (by simp; omega) hu _ _ _ _ ⟨_, m, σ, .same _, by rw [ne] at h; exact h, hs.toSr0⟩
end
theorem sub_self_str : isSubtype (.type "str") (.type "str") = pure true := by rw [isSubtype_type]; kernel_rfl
theorem sub_str_bytes : isSubtype (.type "str") (.type "bytes") = pure false := by rw [isSubtype_type]; kernel_rfl
theorem sub_int_bool : isSubtype (.type "int") (.type "bool") = pure false := by rw [isSubtype_type]; kernel_rfl
theorem ty_type (T : String) (h : typeOf (.type T) = pure (.type "type")) : typeOf (.type T) = pure (.type "type") := h
theorem ty_str : typeOf (.type "str") = pure (.type "type") := by kernel_rfl
theorem ty_bytes : typeOf (.type "bytes") = pure (.type "type") := by kernel_rfl
theorem sub_tuple_tuple : isSubtype (.type "tuple") (.type "tuple") = pure true := by rw [isSubtype_type]; kernel_rfl
theorem ent_nested_args (a b c : Value) : argsOk "issubclass.nested" ⟨[a, b, c], []⟩ := by unfold argsOk; kernel_rfl
theorem kind_nested : builtinKind "issubclass.nested" = none := by decide +kernel
theorem plain_nested : plainId "issubclass.nested" = true := by decide +kernel
theorem issub_nested_str {w : World} {A : Around} {E : Value → Shared → Prop} {s : Shared} {dep : Int} {tk : Tok} {Q : Fin → Shared → Prop} (hq : Q (.done (.ret (.bool true))) s) :
    wpAny (MM w) A (Builtin.«issubclass.nested» ⟨[.type "str", .type "str", .int dep tk], []⟩) Q E s := by
  have h1 := ty_str
  have h2 := sub_self_str
  repeat (any_goals (first | assumption | (rw [h2]) | wp_step))
section
variable {c : Fx} {n : Nat} {sc : Scope} {m m' : Loc} {σ σ' φ τ : Sto} {x y : Str} {Q : Value → Loc → Sto → Prop} {l l' : Addr} {xs ys : List Value} {ws us : List Str} {s : Shared}
theorem c_type_str (h : Q (.type "str") m σ) : Wcall c (.type "type") [S x] m σ Q := by
  intro vs hv s hs
  cases hv with | cons t1 hv => cases hv with | nil =>
  obtain ⟨_, rfl⟩ := t1.str_inv
  exact call_type_of (typeIs_str _ _ _) (by decide) ⟨_, m, σ, .same _, h, hs.toSr0⟩
theorem c_type_int {i : Int} (h : Q (.type "int") m σ) : Wcall c (.type "type") [I i] m σ Q := by
  intro vs hv s hs
  cases hv with | cons t1 hv => cases hv with | nil =>
  obtain ⟨_, rfl⟩ := t1.int_inv
  exact call_type_of (typeIs_int _ _ _) (by decide) ⟨_, m, σ, .same _, h, hs.toSr0⟩
theorem c_isi_str (h : Q (.bool true) m σ) : Wcall c (.builtin "isinstance") [S x, .type "str"] m σ Q := by
  intro vs hv s hs
  cases hv with | cons t1 hv => cases hv with | cons t2 hv => cases hv with | nil =>
  obtain ⟨_, rfl⟩ := t1.str_inv; rw [t2.type_inv]
  exact call_isinstance (isinstance_true ty_str sub_self_str) ⟨typeIs_str _ _ _, _, m, σ, .same _, h, hs.toSr0⟩
theorem c_isi_bytes (h : Q (.bool false) m σ) : Wcall c (.builtin "isinstance") [S x, .type "bytes"] m σ Q := by
  intro vs hv s hs
  cases hv with | cons t1 hv => cases hv with | cons t2 hv => cases hv with | nil =>
  obtain ⟨_, rfl⟩ := t1.str_inv; rw [t2.type_inv]
  exact call_isinstance (isinstance_false_str (by decide) ty_bytes sub_str_bytes) ⟨_, m, σ, .same _, h, hs.toks _⟩
theorem c_issub (hm : (l, .tup [.type "str", .type "bytes"]) ∈ σ) (h : Q (.bool true) m σ) : Wcall c (.builtin "issubclass") [.type "str", .ref l] m σ Q := by
  intro vs hv s hs
  cases hv with | cons t1 hv => cases hv with | cons t2 hv => cases hv with | nil =>
  rw [t1.type_inv, t2.ref_inv]
  obtain ⟨arr, k, ho, hL, ht, hsz⟩ := hs.tup (.tail _ hm)
  have ea : arr = #[.type "str", .type "bytes"] := by
    cases arr with | mk al =>
    cases ht with | cons a ht => cases ht with | cons b ht => cases ht with | nil =>
    rw [a.type_inv, b.type_inv]
  subst ea
  refine wpAny_call (codeAny_call_builtin F.plain_issubclass F.entry_issubclass ?_)
  simp only [checkBuiltinCall, F.kind_issubclass]
  have hcall : ∀ (A : Around) (E : Value → Shared → Prop) (Q : Value → Shared → Prop) (s : Shared), Q (.bool true) s → wpAny (MM c.w) A (call (.builtin "issubclass.nested") [.type "str", .type "str", rawInt 1]) Q E s := fun A E Q s hq =>
    call_function_entry kind_nested plain_nested F.entry_issubclass_nested (ent_nested_args _ _ _) (issub_nested_str ⟨_, rfl, hq⟩)
  have fin : wpAny (MM c.w) c.A.in1 (Builtin.«issubclass.nested» ⟨[.type "str", .ref l, rawInt 0], []⟩) (fun fin s' => fin = .done (.ret (.bool true)) ∧ s' = s) (fun _ _ => False) s := by
    obtain ⟨hp, g, d, t, os⟩ := s
    have hT2 : (⟨hp, g, d, t, os⟩ : Shared).TypeIs (.ref l) "tuple" := ⟨_, ho, rfl⟩
    have f1 := sub_tuple_tuple
    repeat (any_goals (first | assumption | exact ⟨rfl, rfl⟩ | refine hcall _ _ _ _ ?_ | wp_step))
  have out := issubclass_outer (A := c.A) (prog := PG) (w := c.w) (s := s) (x := .type "str") (c := .ref l) (R := fun r s' => match r with | .ok (.ret v) => ∃ b m' σ', Teq b v ∧ Q b m' σ' ∧ Sr0 c.w c.os c.g ((c.L, .ns m') :: σ') s' | .ok _ => False | .error e => c.E e s')
    (wpAny_mono fin (fun f s' ⟨e1, e2⟩ => by subst e1 e2; exact ⟨_, m, σ, .same _, h, hs.toSr0⟩) fun _ _ e => e.elim)
  cases hsig : Manifest.signature? "issubclass" with
  | none => exact wpAny_pure out
  | some sig =>
    have ha := F.args_issubclass_2 (.type "str") (.ref l)
    simp only [argsOk, hsig] at ha
    show wpAny _ c.A.in1 (Bind.checkArgs "issubclass" sig ⟨[.type "str", .ref l], []⟩) _ _ s
    rw [show Bind.checkArgs "issubclass" sig ⟨[.type "str", .ref l], []⟩ = pure () from ha]
    exact wpAny_pure out
end
noncomputable def fdAt (w : World) (a : Addr) : FuncData := match (KK w).lookup a with
  | some ⟨_, _, .func f, _⟩ => f
  | _ => default
structure FOk (w : World) (fa : Addr) (st : Stmt) : Prop where
  ho : (KK w).lookup fa = some ⟨.type "function", none, .func (fdAt w fa), #[]⟩
  hcd : codeIn (KK w) (fdAt w fa).code (fdAt w fa).qualname = true
  hbody : (fdAt w fa).body = .stmts (bodyOf st)
  hsc : (fdAt w fa).scope = scopeOf st
  g1 : (fdAt w fa).globals = mainGlobals
  g2 : (fdAt w fa).builtins = builtinsNs
  g3 : (fdAt w fa).closure = []
  hcell : (scopeOf st).names.all (fun x => x.2 != .cell) = true
  hco : (scopeOf st).isCoroutine = false
  hgen : (scopeOf st).isGenerator = false
  hk : (scopeOf st).kind = .function
theorem Fn.top {w : World} {os : OsState} {n : Nat} {fa : Addr} {args : List Value} {kw : List (Str × Value)} {σ : Sto} {Q : Value → Sto → Prop} {st : Stmt} {m₀ : Loc} (F : FOk w fa st) (hnd : decide ((m₀.map (·.1)).Nodup) = true)
    (hb : ∀ vs ks, TeqL args vs → TeqL (kw.map (·.2)) ks → ∀ s : Shared, (KK w).In s.heap → ∃ binds, BindsTo s (fdAt w fa) ⟨vs, (kw.map (·.1)).zip ks⟩ binds ∧ (binds.all (fun x => (scopeOf st).names.lookup x.1 == some .local)) = true ∧ ∀ x v, (x, some v) ∈ m₀ → ∃ v', binds.reverse.lookup x = some v' ∧ Teq v v')
    (h : ∀ c : Fx, c.w = w → c.os = os → c.cl = [] → c.Ok n → Wx c (scopeOf st) (bodyOf st) m₀ σ (endQ Q)) : Fn w os (n + 1) (.ref fa) args kw σ Q := by
  refine Fn.def F.ho F.hcd F.hbody ⟨F.g1, F.g2, F.g3⟩ ?_ (by rw [F.hsc]; exact F.hco) (by rw [F.hsc]; exact F.hgen) (by rw [F.hsc]; exact F.hk) (of_decide_eq_true hnd) ?_ (by rw [F.hsc]; exact h)
  · rw [F.hsc]
    intro x hx e
    have := List.all_eq_true.mp F.hcell x hx
    rw [e] at this; exact absurd this (by decide)
  · intro vs ks h1 h2 s hs
    obtain ⟨binds, b1, b2, b3⟩ := hb vs ks h1 h2 s hs
    rw [F.hsc]; exact ⟨binds, b1, fun x hx => eq_of_beq (List.all_eq_true.mp b2 x hx), b3⟩
inductive BLoc (binds : List (Str × Value)) : Loc → Prop
  | nil : BLoc binds []
  | no {x r} : BLoc binds r → BLoc binds ((x, none) :: r)
  | yes {x v v' r} : binds.reverse.lookup x = some v' → Teq v v' → BLoc binds r → BLoc binds ((x, some v) :: r)
theorem BLoc.all {binds : List (Str × Value)} {m : Loc} (h : BLoc binds m) : ∀ x v, (x, some v) ∈ m → ∃ v', binds.reverse.lookup x = some v' ∧ Teq v v' := by
  induction h with
  | nil => intro x v hm; cases hm
  | no _ ih => intro x v hm; cases hm with | tail _ hm => exact ih x v hm
  | yes h1 h2 _ ih =>
    intro x v hm
    cases hm with
    | head => exact ⟨_, h1, h2⟩
    | tail _ hm => exact ih x v hm
theorem TeqL.inv0 {vs : List Value} (h : TeqL [] vs) : vs = [] := by cases h; rfl
theorem TeqL.inv1 {a : Value} {vs : List Value} (h : TeqL [a] vs) : ∃ b, vs = [b] ∧ Teq a b := by
  cases h with | cons t h => cases h; exact ⟨_, rfl, t⟩
theorem TeqL.inv2 {a a' : Value} {vs : List Value} (h : TeqL [a, a'] vs) : ∃ b b', vs = [b, b'] ∧ Teq a b ∧ Teq a' b' := by
  cases h with | cons t h => obtain ⟨b', rfl, t'⟩ := h.inv1; exact ⟨_, _, rfl, t, t'⟩
theorem TeqL.inv3 {a a' a'' : Value} {vs : List Value} (h : TeqL [a, a', a''] vs) : ∃ b b' b'', vs = [b, b', b''] ∧ Teq a b ∧ Teq a' b' ∧ Teq a'' b'' := by
  cases h with | cons t h => obtain ⟨b', b'', rfl, t', t''⟩ := h.inv2; exact ⟨_, _, _, rfl, t, t', t''⟩
noncomputable abbrev N (s : String) : Str := Str.ofString s
inductive GV : Str → Value → Prop
  | vdeque : GV (N "deque") (.type "collections.deque")
  | vfspath : GV (N "fspath") (.ref 117)
  | vUgetUsep : GV (N "_get_sep") (.ref 131)
  | vjoinUposixpath : GV (N "join_posixpath") (.ref 138)
  | vsplitroot : GV (N "splitroot") (.ref 145)
  | vnormpath : GV (N "normpath") (.ref 152)
  | vUindex : GV (N "_index") (.ref 171)
  | vBytesIO : GV (N "BytesIO") (.ref 458)
  | vStringIO : GV (N "StringIO") (.ref 705)
  | vshlex : GV (N "shlex") (.ref 840)
  | vsplit : GV (N "split") (.ref 852)
  | vUfindUunsafe : GV (N "_find_unsafe") (.ref 853)
  | vquote : GV (N "quote") (.ref 860)
  | vUlawUtour : GV (N "_law_tour") (.ref 867)
  | vUlawUspell : GV (N "_law_spell") (.ref 874)
  | vUlawUline : GV (N "_law_line") (.ref 881)
  | vUlawUtext : GV (N "_law_text") (.ref 886)
theorem GV.ok {x : Str} {v : Value} (h : GV x v) (w : World) : nsIn (KK w) mainGlobals x = some (some v) := by
  cases h <;> kernel_rfl
theorem GV.nd {x : Str} {v : Value} (h : GV x v) : (x == ("__debug__" : Str)) = false := by
  cases h <;> kernel_rfl
inductive BV : Str → Value → Prop
  | vtype : BV (N "type") (.type "type")
  | vissubclass : BV (N "issubclass") (.builtin "issubclass")
  | visinstance : BV (N "isinstance") (.builtin "isinstance")
  | vstr : BV (N "str") (.type "str")
  | vbytes : BV (N "bytes") (.type "bytes")
  | vlen : BV (N "len") (.builtin "len")
  | vrange : BV (N "range") (.type "range")
  | venumerate : BV (N "enumerate") (.type "enumerate")
  | vmax : BV (N "max") (.builtin "max")
  | vlist : BV (N "list") (.type "list")
  | vint : BV (N "int") (.type "int")
  | vbool : BV (N "bool") (.type "bool")
  | vobject : BV (N "object") (.type "object")
  | vStopIteration : BV (N "StopIteration") (.type "StopIteration")
theorem BV.ok {x : Str} {v : Value} (h : BV x v) (w : World) : nsIn (KK w) mainGlobals x = some none ∧ bootBuiltins x = some v ∧ x ≠ "__name__" ∧ (x == ("__debug__" : Str)) = false := by
  cases h <;> refine ⟨by kernel_rfl, by kernel_rfl, by decide, by kernel_rfl⟩
section
variable {c : Fx} {n : Nat} {sc : Scope} {m : Loc} {σ : Sto} {Q : Value → Loc → Sto → Prop} {x : Str} {v : Value} {pos : Pos}
theorem We.gl (ok : c.Ok n) (hk : sc.kind = .function) (hl : sc.names.lookup x = some .globalImplicit) (g : GV x v) (h : Q v m σ) : We c sc (.Name x pos) m σ Q := .glob ok hk hl g.nd (g.ok c.w) h
theorem We.bl (ok : c.Ok n) (hk : sc.kind = .function) (hl : sc.names.lookup x = some .globalImplicit) (g : BV x v) (h : Q v m σ) : We c sc (.Name x pos) m σ Q := .bltn ok hk hl (g.ok c.w).2.2.2 (g.ok c.w).1 (g.ok c.w).2.2.1 (g.ok c.w).2.1 h
theorem ex_r {a : Addr} : ∀ f', Teq (.ref a) f' → f' = .ref a := fun _ t => t.ref_inv
theorem ex_b {a : String} : ∀ f', Teq (.builtin a) f' → f' = .builtin a := fun _ t => t.builtin_inv
theorem ex_t {a : String} : ∀ f', Teq (.type a) f' → f' = .type a := fun _ t => t.type_inv
theorem if_t {b : Bool} {A B : Prop} (e : b = true) (h : A) : (b = true → A) ∧ (b = false → B) := ⟨fun _ => h, fun e' => (by rw [e] at e'; cases e')⟩
theorem if_f {b : Bool} {A B : Prop} (e : b = false) (h : B) : (b = true → A) ∧ (b = false → B) := ⟨fun e' => (by rw [e] at e'; cases e'), fun _ => h⟩
theorem mem_h {α : Type} {a : α} {l : List α} : a ∈ a :: l := List.mem_cons_self
theorem mem_t {α : Type} {a b : α} {l : List α} (h : a ∈ l) : a ∈ b :: l := List.mem_cons_of_mem _ h
theorem new_l {vs : List Value} {P : Addr → Prop} (hz : vs.length ≤ sizeLine) (h : ∀ a, P a) : vs.length ≤ sizeLine ∧ ∀ a, P a := ⟨hz, h⟩
theorem callee {f : Value} {w : World} {P : Prop} (ex : ∀ f', Teq f f' → f' = f) (kp : KeepOk w f) (h : P) : (∀ f', Teq f f' → f' = f) ∧ KeepOk w f ∧ P := ⟨ex, kp, h⟩
theorem app1 {c : Fx} {f a : Value} {vs : List Value} {m : Loc} {σ : Sto} {Q : Value → Loc → Sto → Prop} (h : Wcall c f (a :: vs) m σ Q) : Wcall c f ([a] ++ vs) m σ Q := h
theorem set_l {m : Loc} {x : Str} {v : Value} {P : Loc → Prop} {m' : Loc} (h : SetL m x v m') (k : P m') : ∃ m', SetL m x v m' ∧ P m' := ⟨m', h, k⟩
end
theorem f_fspath (w : World) : FOk w 117 (topSt 11) := by constructor <;> kernel_rfl
theorem Fn.top0 {w : World} {os : OsState} {n : Nat} {fa : Addr} {args : List Value} {σ : Sto} {Q : Value → Sto → Prop} {st : Stmt} {m₀ : Loc} (F : FOk w fa st) (hnd : decide ((m₀.map (·.1)).Nodup) = true)
    (hb : ∀ vs, TeqL args vs → ∃ binds, bindArgs (fdAt w fa) ⟨vs, []⟩ = pure binds ∧ (binds.all (fun x => (scopeOf st).names.lookup x.1 == some .local)) = true ∧ BLoc binds m₀)
    (h : ∀ c : Fx, c.w = w → c.os = os → c.cl = [] → c.Ok n → Wx c (scopeOf st) (bodyOf st) m₀ σ (endQ Q)) : Fn w os (n + 1) (.ref fa) args [] σ Q := by
  refine Fn.top F hnd (fun vs ks hv hk s hs => ?_) h
  obtain ⟨binds, h1, h2, h3⟩ := hb vs hv
  have hk' := hk.inv0
  subst hk'
  exact ⟨binds, BindsTo.of_eq h1, h2, h3.all⟩
section
variable {c : Fx} {n : Nat} {m : Loc} {σ : Sto} {Q : Value → Loc → Sto → Prop}
theorem Wcall.one {k : Nat} {f : Value} {args : List Value} {o : AO} (ok : c.Ok n) (h : Fn c.w c.os k f args [] [] (fun v σ => ∃ a, v = .ref a ∧ σ = [(a, o)])) (hn : k ≤ n) (hq : ∀ a, Q (.ref a) m ((a, o) :: σ)) : Wcall c f args m σ Q :=
  Wcall.fn ok hn .nil (h.mono fun v σ' ⟨a, e1, e2⟩ => by subst e1 e2; exact hq a)
theorem Wcall.pure {k : Nat} {f : Value} {args : List Value} {r : Value} (ok : c.Ok n) (h : Fn c.w c.os k f args [] [] (fun v σ => v = r ∧ σ = [])) (hn : k ≤ n) (hq : Q r m σ) : Wcall c f args m σ Q :=
  Wcall.fn ok hn .nil (h.mono fun v σ' ⟨e1, e2⟩ => by subst e1 e2; exact hq)
end
section
variable {w : World} {os : OsState} {g : Heap} {σ σ' : Sto} {s : Shared} {a : Addr} {x y : AO}
theorem Sr0.keeps {h' : Heap} {t : Nat} (z : Sr0 w os g σ s) (k : ∀ b o, s.heap.get? b = some o → h'.get? b = some o) : Sr0 w os g σ { s with heap := h', toks := t } :=
  ⟨⟨fun b o e => k _ _ (z.hr.keep b o e), fun p hp => ⟨(z.hr.own p hp).1, let ⟨o, h1, h2⟩ := (z.hr.own p hp).2; ⟨o, k _ _ h1, h2⟩⟩, z.hr.nd⟩, z.gens, z.os⟩
theorem Sr0.ext {h' : Heap} {t : Nat} (z : Sr0 w os g σ s) (k : Heap.ExtBut s.heap.objs.size s.heap h') : Sr0 w os g σ { s with heap := h', toks := t } :=
  z.keeps fun b o e => k b o (Nat.ne_of_lt (Heap.lt_size e)) e
theorem Sr0.lose {h' : Heap} {t : Nat} (z : Sr0 w os g ((a, x) :: σ) s) (k : Heap.ExtBut a s.heap h') : Sr0 w os g σ { s with heap := h', toks := t } := by
  have nd := z.hr.nd
  rw [List.map_cons, List.nodup_cons] at nd
  refine ⟨⟨fun b o e => k b o (fun q => ?_) (z.hr.keep b o e), fun p hp => ⟨(z.hr.own p (.tail _ hp)).1, let ⟨o, h1, h2⟩ := (z.hr.own p (.tail _ hp)).2; ⟨o, k _ _ (fun q => ?_) h1, h2⟩⟩, nd.2⟩, z.gens, z.os⟩
  · have := (z.hr.own (a, x) (.head _)).1; simp only at this; rw [← q, e] at this; cases this
  · exact nd.1 (by rw [← q]; exact List.mem_map_of_mem (f := (·.1)) hp)
end
noncomputable def liter (l : Addr) (i : Nat) : AO := .pred fun o => o.cls = .type "list_iterator" ∧ o.data = .fields #[.ref l, rawInt i]
noncomputable def titer (l : Addr) (i : Nat) : AO := .pred fun o => o.cls = .type "tuple_iterator" ∧ o.data = .fields #[.ref l, rawInt i]
noncomputable def riter (x left step : Int) : AO := .pred fun o => o = { cls := .type "range_iterator", data := .fields #[rawInt x, rawInt left, rawInt step] }
section
variable {c : Fx} {n : Nat} {sc : Scope} {m m' : Loc} {σ σ' φ τ : Sto} {Q : Value → Loc → Sto → Prop} {l it : Addr} {xs : List Value}
theorem i_list {Q : Value → Loc → Sto → Prop} (hm : (l, .list xs) ∈ σ) (h : ∀ it, Q (.ref it) m ((it, liter l 0) :: σ)) : Wo1 c (fun a b => a = b ∧ ∃ r, a = Value.ref r) pyIter (.ref l) m σ Q := by
  intro u t s hs
  rw [t.ref_inv]
  obtain ⟨arr, k, ho, hL, ht, hsz⟩ := hs.list (.tail _ hm)
  exact wpAny_pyIter_list hL ⟨_, m, _, ⟨rfl, _, rfl⟩, h _, hs.new2 (x := liter l 0) rfl ⟨rfl, rfl⟩ s.toks⟩
theorem n_list {i : Nat} {v : Value} {Q : Option Value → Loc → Sto → Prop} (hx : xs[i]? = some v) (hm : (l, .list xs) ∈ σ) (h : Q (some v) m ((it, liter l (i + 1)) :: σ)) : WT c ORel (pyNext (.ref it)) m ((it, liter l i) :: σ) Q := by
  intro s hs
  obtain ⟨arr, k, ho, hL, ht, hsz⟩ := hs.list (.tail _ (.tail _ hm))
  obtain ⟨oi, hoi, hi1, hi2⟩ := hs.at (a := it) (.tail _ (.head _))
  obtain ⟨v', hv, hvt⟩ := ht.get hx
  refine wpAny_pyNext_list_item ⟨oi, hoi, hi1, hi2⟩ hL (x := v') (by simpa using hv) fun h' ⟨o', ho', h1, h2⟩ hsb => ⟨_, m, _, .some hvt, h, ?_⟩
  exact hs.put (y := liter l (i + 1)) (Put.there .here) hsb ho' ⟨h1, h2⟩ _
theorem n_list_end {i : Nat} {Q : Option Value → Loc → Sto → Prop} (ok : c.Ok n) (hx : xs[i]? = none) (hm : (l, .list xs) ∈ σ) (h : Q none m σ) : WT c ORel (pyNext (.ref it)) m ((it, liter l i) :: σ) Q := by
  intro s hs
  obtain ⟨arr, k, ho, hL, ht, hsz⟩ := hs.list (.tail _ (.tail _ hm))
  obtain ⟨oi, hoi, hi1, hi2⟩ := hs.at (a := it) (.tail _ (.head _))
  have hs' : Sr0 c.w c.os c.g ((it, liter l i) :: (c.L, .ns m) :: σ) s := hs.toSr0.perm (.swap ..)
  refine wpAny_pyNext_list_end ok.hh ⟨oi, hoi, hi1, hi2⟩ hL (by rw [List.getElem?_eq_none_iff] at hx; rw [Array.getElem?_eq_none_iff]; omega) fun h' he => ⟨_, m, σ, .none, h, hs'.lose he⟩
theorem a_name {x : Str} {p : Pos} {v : Value} {Q : Unit → Loc → Sto → Prop} (hk : sc.kind = .function) (hl : sc.names.lookup x = some .local) (hp : SetL m x v m') (h : Q () m' σ) : Wo1 c (fun (_ _ : Unit) => True) (assign (.Name x p) (c.env sc)) v m σ Q := by
  intro u t s hs
  rw [arm_assign_Name]
  refine wpAny_bind (wpAny_standAt (wpAny_bindName (wpm (Wst hk hl hp t h s hs) (fun _ _ b m1 σ1 _ h1 hs1 => ⟨(), m1, σ1, trivial, h1, hs1⟩) fun _ _ e => e)))
noncomputable def itQ (its : Sto) (Jn : Loc → Sto → Prop) (Q : Flow → Loc → Sto → Prop) (f : Flow) (m2 : Loc) (σ2 : Sto) : Prop := match f with
  | .next | .cont => ∃ φ, Picks σ2 (its ++ φ) ∧ Jn m2 φ
  | .brk => Q .next m2 σ2
  | .ret v => Q (.ret v) m2 σ2
noncomputable abbrev iterQ (J : Nat → Loc → Sto → Prop) (it : Addr × AO) (i : Nat) (Q : Flow → Loc → Sto → Prop) : Flow → Loc → Sto → Prop := itQ [it] (J (i + 1)) Q
section
variable {J : Nat → Loc → Sto → Prop} {p : Addr × AO} {i : Nat} {Q : Flow → Loc → Sto → Prop} {v : Value}
theorem iter_next (ht : Picks σ (p :: φ)) (h : J (i + 1) m φ) : iterQ J p i Q .next m σ := ⟨φ, ht, h⟩
theorem iter_cont (ht : Picks σ (p :: φ)) (h : J (i + 1) m φ) : iterQ J p i Q .cont m σ := ⟨φ, ht, h⟩
theorem iter_brk (h : Q .next m σ) : iterQ J p i Q .brk m σ := h
theorem iter_ret (h : Q (.ret v) m σ) : iterQ J p i Q (.ret v) m σ := h
end
theorem Takes.mem {σ φ τ : Sto} (h : Takes σ φ τ) {p : Addr × AO} (hp : p ∈ φ) : p ∈ σ := h.perm.mem_iff.mp (List.mem_append_left _ hp)
theorem Takes.all : ∀ σ : Sto, Takes σ σ []
  | [] => .nil
  | p :: r => .cons .here (Takes.all r)
theorem Wloop.pick {target : Expr} {it : Value} {b o : List Stmt} {Q : Flow → Loc → Sto → Prop} (hs : Picks σ φ) (h : Wloop c sc target it b o m φ Q) : Wloop c sc target it b o m σ Q :=
  let ⟨τ, hs⟩ := hs; fun s x => h s ((x.perm (.cons _ hs.perm)).sub (.cons_cons _ (List.sublist_append_left φ τ)))
theorem Wloop.iter {x : Str} {p : Pos} {b : List Stmt} {Q : Flow → Loc → Sto → Prop} (ok : c.Ok n) (itA : Nat → AO) (P : Sto → Prop) (J : Nat → Loc → Sto → Prop) (hJ : ∀ i m σ, J i m σ → P σ) (h0 : J 0 m σ)
    (hnext : ∀ (c' : Fx) i v m σ (Q : Option Value → Loc → Sto → Prop), xs[i]? = some v → P σ → Q (some v) m ((it, itA (i + 1)) :: σ) → WT c' ORel (pyNext (.ref it)) m ((it, itA i) :: σ) Q)
    (hend : ∀ (c' : Fx) m σ (Q : Option Value → Loc → Sto → Prop), c'.Ok n → P σ → Q none m σ → WT c' ORel (pyNext (.ref it)) m ((it, itA xs.length) :: σ) Q)
    (turn : ∀ c' : Fx, c'.w = c.w → c'.os = c.os → c'.cl = c.cl → c'.Ok n → ∀ i v m σ, xs[i]? = some v → J i m σ → Wo1 c' (fun (_ _ : Unit) => True) (assign (.Name x p) (c'.env sc)) v m ((it, itA (i + 1)) :: σ) (fun _ m1 σ1 => Wx c' sc b m1 σ1 (iterQ J (it, itA (i + 1)) i Q)))
    (done : ∀ m σ, J xs.length m σ → Q .next m σ) : Wloop c sc (.Name x p) (.ref it) b [] m ((it, itA 0) :: σ) Q := by
  refine Wloop.inv ok (fun k m σ => ∃ i φ, i + k = xs.length ∧ Picks σ ((it, itA i) :: φ) ∧ J i m φ) ?_ xs.length ⟨0, σ, by omega, ⟨[], .cons .here (Takes.all σ)⟩, h0⟩
  rintro c' e1 e2 e3 ok' k m σ ⟨i, φ, hk, ht, hj⟩
  refine WT.pick ht ?_
  by_cases hlt : i < xs.length
  · refine hnext c' i xs[i] m φ _ (by simp [hlt]) (hJ _ _ _ hj) ?_
    refine fun u t s hs => ?_
    have : letOwnedTupleGo (.Name x p) (.ref it) u = pure () := by cases u <;> rfl
    rw [this]
    refine wpAny_pure ⟨(), m, _, trivial, ?_, hs.toSr0⟩
    refine fun u t s hs => wpm (turn c' e1 e2 e3 ok' i xs[i] m φ (by simp [hlt]) hj u t s hs) (fun _ s1 b m1 σ1 r h1 hs1 => ⟨(), m1, σ1, trivial, ?_, hs1⟩) fun _ _ e => e
    refine WT.mono h1 fun f m2 σ2 h2 => ?_
    cases f with
    | next => obtain ⟨φ', h3, h4⟩ := h2; exact ⟨xs.length - (i + 1), by omega, i + 1, φ', by omega, h3, h4⟩
    | cont => obtain ⟨φ', h3, h4⟩ := h2; exact ⟨xs.length - (i + 1), by omega, i + 1, φ', by omega, h3, h4⟩
    | brk => exact h2
    | ret v => exact h2
  · have hi : i = xs.length := by omega
    subst hi
    exact hend c' m φ _ ok' (hJ _ _ _ hj) (Wx.nil (done _ _ hj))
theorem Wloop.list {x : Str} {p : Pos} {b : List Stmt} {Q : Flow → Loc → Sto → Prop} (ok : c.Ok n) (J : Nat → Loc → Sto → Prop) (hJ : ∀ i m σ, J i m σ → (l, .list xs) ∈ σ) (h0 : J 0 m σ)
    (turn : ∀ c' : Fx, c'.w = c.w → c'.os = c.os → c'.cl = c.cl → c'.Ok n → ∀ i v m σ, xs[i]? = some v → J i m σ → Wo1 c' (fun (_ _ : Unit) => True) (assign (.Name x p) (c'.env sc)) v m ((it, liter l (i + 1)) :: σ) (fun _ m1 σ1 => Wx c' sc b m1 σ1 (iterQ J (it, liter l (i + 1)) i Q)))
    (done : ∀ m σ, J xs.length m σ → Q .next m σ) : Wloop c sc (.Name x p) (.ref it) b [] m ((it, liter l 0) :: σ) Q :=
  .iter ok (liter l) (fun σ => (l, .list xs) ∈ σ) J hJ h0 (fun _ _ _ _ _ _ h1 h2 h3 => n_list h1 h2 h3) (fun _ _ _ _ ok h1 h2 => n_list_end ok (by simp) h1 h2) turn done
theorem isTuple_of {h : Heap} {t : Addr} {arr : Array Value} (x : IsTup h t arr) : h.IsTuple t arr := by
  obtain ⟨o, a, b, n, d⟩ := x
  exact ⟨o, a, b, n, d⟩
theorem i_tup {Q : Value → Loc → Sto → Prop} (hm : (l, .tup xs) ∈ σ) (h : ∀ it, Q (.ref it) m ((it, titer l 0) :: σ)) : Wo1 c (fun a b => a = b ∧ ∃ r, a = Value.ref r) pyIter (.ref l) m σ Q := by
  intro u t s hs
  rw [t.ref_inv]
  obtain ⟨arr, k, ho, hL, ht, hsz⟩ := hs.tup (.tail _ hm)
  exact wpAny_pyIter_tuple (isTuple_of hL) ⟨_, m, _, ⟨rfl, _, rfl⟩, h _, hs.new2 (x := titer l 0) rfl ⟨rfl, rfl⟩ s.toks⟩
theorem n_tup {i : Nat} {v : Value} {Q : Option Value → Loc → Sto → Prop} (hx : xs[i]? = some v) (hm : (l, .tup xs) ∈ σ) (h : Q (some v) m ((it, titer l (i + 1)) :: σ)) : WT c ORel (pyNext (.ref it)) m ((it, titer l i) :: σ) Q := by
  intro s hs
  obtain ⟨arr, k, ho, hL, ht, hsz⟩ := hs.tup (.tail _ (.tail _ hm))
  obtain ⟨oi, hoi, hi1, hi2⟩ := hs.at (a := it) (.tail _ (.head _))
  obtain ⟨v', hv, hvt⟩ := ht.get hx
  refine wpAny_pyNext_tuple_item ⟨oi, hoi, hi1, hi2⟩ (isTuple_of hL) (x := v') (by simpa using hv) fun h' ⟨o', ho', h1, h2⟩ hsb => ⟨_, m, _, .some hvt, h, ?_⟩
  exact hs.put (y := titer l (i + 1)) (Put.there .here) hsb ho' ⟨h1, h2⟩ _
theorem n_tup_end {i : Nat} {Q : Option Value → Loc → Sto → Prop} (ok : c.Ok n) (hx : xs[i]? = none) (hm : (l, .tup xs) ∈ σ) (h : Q none m σ) : WT c ORel (pyNext (.ref it)) m ((it, titer l i) :: σ) Q := by
  intro s hs
  obtain ⟨arr, k, ho, hL, ht, hsz⟩ := hs.tup (.tail _ (.tail _ hm))
  obtain ⟨oi, hoi, hi1, hi2⟩ := hs.at (a := it) (.tail _ (.head _))
  have hs' : Sr0 c.w c.os c.g ((it, titer l i) :: (c.L, .ns m) :: σ) s := hs.toSr0.perm (.swap ..)
  refine wpAny_pyNext_tuple_end ok.hh ⟨oi, hoi, hi1, hi2⟩ (isTuple_of hL) (by rw [List.getElem?_eq_none_iff] at hx; rw [Array.getElem?_eq_none_iff]; omega) fun h' he => ⟨_, m, σ, .none, h, hs'.lose he⟩
theorem Wloop.tup {x : Str} {p : Pos} {b : List Stmt} {Q : Flow → Loc → Sto → Prop} (ok : c.Ok n) (J : Nat → Loc → Sto → Prop) (hJ : ∀ i m σ, J i m σ → (l, .tup xs) ∈ σ) (h0 : J 0 m σ)
    (turn : ∀ c' : Fx, c'.w = c.w → c'.os = c.os → c'.cl = c.cl → c'.Ok n → ∀ i v m σ, xs[i]? = some v → J i m σ → Wo1 c' (fun (_ _ : Unit) => True) (assign (.Name x p) (c'.env sc)) v m ((it, titer l (i + 1)) :: σ) (fun _ m1 σ1 => Wx c' sc b m1 σ1 (iterQ J (it, titer l (i + 1)) i Q)))
    (done : ∀ m σ, J xs.length m σ → Q .next m σ) : Wloop c sc (.Name x p) (.ref it) b [] m ((it, titer l 0) :: σ) Q :=
  .iter ok (titer l) (fun σ => (l, .tup xs) ∈ σ) J hJ h0 (fun _ _ _ _ _ _ h1 h2 h3 => n_tup h1 h2 h3) (fun _ _ _ _ ok h1 h2 => n_tup_end ok (by simp) h1 h2) turn done
end
section
variable {c : Fx} {n : Nat} {sc : Scope} {m m' : Loc} {σ σ' φ τ : Sto} {Q : Value → Loc → Sto → Prop} {l it : Addr} {xs : List Value} {x : Str}
theorem o_scut {value slice : Expr} {a : Addr} {lo hi : Option Int} {v v' : Value} {o : Obj} (ho : ∃ t t', Teq v t ∧ Teq v' t' ∧ o = ({ cls := .type "slice", data := .fields #[t, t', .none] } : Obj)) (ha : (a, .obj o) ∈ σ) (p : Part v lo) (p' : Part v' hi)
    (hz : x.length ≤ sizeLine) (h : Q (S (Txt.slice x lo hi)) m σ) : Wo2 c Teq (subscriptTail value slice) (S x) (.ref a) m σ Q := by
  intro u u' t t' s hs
  obtain ⟨tx, rfl⟩ := t.str_inv; rw [t'.ref_inv]
  obtain ⟨t1, t2, e1, e2, rfl⟩ := ho
  obtain ⟨o', ho', e⟩ := hs.at (.tail _ ha)
  have e : o' = _ := e
  subst e
  have key : ∀ (l u : Option (Int × Tok)), partValue l = t1 → partValue u = t2 → l.map (·.1) = lo → u.map (·.1) = hi → wpAny (MM c.w) c.A (getItem (.str x tx) (.ref a)) (fun v s' => ∃ b m' σ', Teq b v ∧ Q b m' σ' ∧ Sr0 c.w c.os c.g ((c.L, .ns m') :: σ') s') c.E s := by
    rintro l u rfl rfl rfl rfl
    refine wpAny_getItem_str_slice (l := l) (u := u) (st := none) ⟨_, ho', rfl, rfl⟩ rfl ?_
    exact post_val_or_str ⟨Nat.le_trans (Txt.slice_le x _ _) hz, fun t' k => ⟨_, m, σ, .s, h, hs.toks _⟩⟩
  refine sub_tail (typeIs_str _ _ _) F.slot_str_getitem.lookup ?_
  cases p with
  | none =>
    cases p' with
    | none => rw [e1.none_inv, e2.none_inv] at key; exact key none none rfl rfl rfl rfl
    | int j => obtain ⟨uj, rfl⟩ := e2.int_inv; rw [e1.none_inv] at key; exact key none (some (j, uj)) rfl rfl rfl rfl
  | int i =>
    obtain ⟨ui, rfl⟩ := e1.int_inv
    cases p' with
    | none => rw [e2.none_inv] at key; exact key (some (i, ui)) none rfl rfl rfl rfl
    | int j => obtain ⟨uj, rfl⟩ := e2.int_inv; exact key (some (i, ui)) (some (j, uj)) rfl rfl rfl rfl
theorem c_range {k : Nat} (h : ∀ r o, (∃ t u v, o = ({ cls := .type "range", data := .fields #[.int 0 t, .int k u, .int 1 v] } : Obj)) → Q (.ref r) m ((r, .obj o) :: σ)) : Wcall c (.type "range") [I k] m σ Q := by
  intro vs hv s hs
  obtain ⟨v1, rfl, t1⟩ := hv.inv1
  obtain ⟨_, rfl⟩ := t1.int_inv
  exact call_range_1 ⟨_, m, _, .same _, h _ _ ⟨_, _, _, rfl⟩, hs.new2 (x := .obj _) rfl rfl _⟩
theorem i_range {k : Nat} {r : Addr} {o : Obj} {Q : Value → Loc → Sto → Prop} (ho : ∃ t u v, o = ({ cls := .type "range", data := .fields #[.int 0 t, .int k u, .int 1 v] } : Obj)) (hm : (r, .obj o) ∈ σ) (hz : k ≤ sizeLine) (h : ∀ it, Q (.ref it) m ((it, riter 0 k 1) :: σ)) : Wo1 c (fun a b => a = b ∧ ∃ r, a = Value.ref r) pyIter (.ref r) m σ Q := by
  intro u t s hs
  rw [t.ref_inv]
  obtain ⟨t1, t2, t3, rfl⟩ := ho
  obtain ⟨o', ho', e⟩ := hs.at (.tail _ hm)
  have e : o' = _ := e
  subst e
  rw [show sizeLine = 16777216 from rfl] at hz
  have e : Builtin.Range.rangeSize 0 (k : Int) 1 = k := by
    unfold Builtin.Range.rangeSize
    simp only [show (1 : Int) > 0 by decide, if_true]
    split <;> omega
  refine wpAny_pyIter_range ho' ?_ ⟨_, m, _, ⟨rfl, _, rfl⟩, h _, hs.new2 (x := riter 0 k 1) rfl (by show _ = _; rw [e]) s.toks⟩
  unfold Builtin.Range.small
  rw [e]
  unfold Builtin.Range.rangeFitsLong
  simp
  omega
theorem n_range {k i : Nat} {Q : Option Value → Loc → Sto → Prop} (hx : i < k) (h : Q (some (I i)) m ((it, riter ((i + 1 : Nat) : Int) ((k : Int) - (i + 1 : Nat)) 1) :: σ)) : WT c ORel (pyNext (.ref it)) m ((it, riter (i : Int) ((k : Int) - i) 1) :: σ) Q := by
  intro s hs
  obtain ⟨oi, hoi, hi1⟩ := hs.at (a := it) (.tail _ (.head _))
  have hi1 : oi = _ := hi1
  subst hi1
  refine wpAny_pyNext_range_item hoi (by omega) fun h' ho' hsb => ⟨_, m, _, .some .i, h, ?_⟩
  refine hs.put (y := riter ((i + 1 : Nat) : Int) ((k : Int) - (i + 1 : Nat)) 1) (Put.there .here) hsb ho' ?_ _
  show _ = _
  rw [show (i : Int) + 1 = ((i + 1 : Nat) : Int) by omega, show (k : Int) - i - 1 = (k : Int) - (i + 1 : Nat) by omega]
theorem n_range_end {k : Nat} {Q : Option Value → Loc → Sto → Prop} (ok : c.Ok n) (h : Q none m σ) : WT c ORel (pyNext (.ref it)) m ((it, riter (k : Int) ((k : Int) - k) 1) :: σ) Q := by
  intro s hs
  obtain ⟨oi, hoi, hi1⟩ := hs.at (a := it) (.tail _ (.head _))
  have hi1 : oi = _ := hi1
  subst hi1
  have hs' : Sr0 c.w c.os c.g ((it, riter (k : Int) ((k : Int) - k) 1) :: (c.L, .ns m) :: σ) s := hs.toSr0.perm (.swap ..)
  exact wpAny_pyNext_range_end ok.hh hoi (by omega) fun h' he => ⟨_, m, σ, .none, h, hs'.lose he⟩
theorem range_get {k i : Nat} {v : Value} (h : ((List.range k).map fun (i : Nat) => I (i : Int))[i]? = some v) : i < k ∧ v = I i := by
  rw [List.getElem?_map] at h
  by_cases hi : i < k
  · rw [List.getElem?_range hi] at h; exact ⟨hi, (Option.some.inj h).symm⟩
  · rw [List.getElem?_eq_none (by simpa using hi)] at h; cases h
theorem Wloop.range {y : Str} {p : Pos} {b : List Stmt} {k : Nat} {Q : Flow → Loc → Sto → Prop} (ok : c.Ok n) (J : Nat → Loc → Sto → Prop) (h0 : J 0 m σ)
    (turn : ∀ c' : Fx, c'.w = c.w → c'.os = c.os → c'.cl = c.cl → c'.Ok n → ∀ i m σ, i < k → J i m σ → Wo1 c' (fun (_ _ : Unit) => True) (assign (.Name y p) (c'.env sc)) (I i) m ((it, riter ((i + 1 : Nat) : Int) ((k : Int) - (i + 1 : Nat)) 1) :: σ) (fun _ m1 σ1 => Wx c' sc b m1 σ1 (iterQ J (it, riter ((i + 1 : Nat) : Int) ((k : Int) - (i + 1 : Nat)) 1) i Q)))
    (done : ∀ m σ, J k m σ → Q .next m σ) : Wloop c sc (.Name y p) (.ref it) b [] m ((it, riter 0 k 1) :: σ) Q := by
  have e : riter 0 k 1 = riter ((0 : Nat) : Int) ((k : Int) - (0 : Nat)) 1 := by simp
  rw [e]
  refine Wloop.iter (xs := (List.range k).map fun (i : Nat) => I (i : Int)) ok (fun i => riter (i : Int) ((k : Int) - i) 1) (fun _ => True) J (fun _ _ _ _ => trivial) h0 ?_ ?_ ?_ ?_
  · intro c' i v m σ Q h1 _ h3
    obtain ⟨h4, rfl⟩ := range_get h1
    exact n_range h4 h3
  · intro c' m σ Q ok' _ h3
    simp only [List.length_map, List.length_range]
    exact n_range_end ok' h3
  · intro c' e1 e2 e3 ok' i v m σ h1 hj
    obtain ⟨h4, rfl⟩ := range_get h1
    exact turn c' e1 e2 e3 ok' i m σ h4 hj
  · intro m σ hj
    simp only [List.length_map, List.length_range] at hj
    exact done m σ hj
noncomputable def Wao (c : Fx) (sc : Scope) (es : List Expr) (vs : List Value) (m : Loc) (σ : Sto) (Q : Unit → Loc → Sto → Prop) : Prop := ∀ us, TeqL vs us → WT c (fun (_ _ : Unit) => True) (assignInOrder ((assignEach es (c.env sc)).map (·.2)) us) m σ Q
theorem Wao.nil {Q : Unit → Loc → Sto → Prop} (h : Q () m σ) : Wao c sc [] [] m σ Q := by
  intro us hu s hs
  exact wpAny_pure ⟨(), m, σ, trivial, h, hs.toSr0⟩
theorem Wao.name {y : Str} {p : Pos} {es : List Expr} {v : Value} {vs : List Value} {Q : Unit → Loc → Sto → Prop} (hk : sc.kind = .function) (hl : sc.names.lookup y = some .local) (hp : SetL m y v m') (h : Wao c sc es vs m' σ Q) : Wao c sc (.Name y p :: es) (v :: vs) m σ Q := by
  intro us hu s hs
  cases hu with
  | cons t hu =>
    show wpAny _ _ (do holding _ (assign (.Name y p) (c.env sc) _); assignInOrder ((assignEach es (c.env sc)).map (·.2)) _) _ _ s
    refine wpAny_bind (wpAny_holding (wm hs.tk (a_name hk hl hp (Q := fun _ m1 σ1 => Wao c sc es vs m1 σ1 Q) h _ t s hs) (fun _ s1 _ m1 σ1 _ h1 hs1 => h1 _ hu s1 hs1) fun _ _ e => e))
theorem W1.unpack {es : List Expr} {k : Nat} {tp p : Pos} {value : Expr} {Q : Flow → Loc → Sto → Prop} (ok : c.Ok n) (hsw : swapsWithSole [.Tuple es k tp] value p.line (c.env sc) = pure false) (hst : swappedStores [.Tuple es k tp] value (c.env sc) = pure none) (hsr : ((assignEach es (c.env sc)).findIdx? (·.1)) = none)
    (h : We c sc value m σ (fun v m1 σ1 => ∃ a vs, v = .ref a ∧ (a, .tup vs) ∈ σ1 ∧ (assignEach es (c.env sc)).length = vs.length ∧ Wao c sc es vs m1 σ1 (fun _ m2 σ2 => Q .next m2 σ2))) : W1 c sc (.Assign [.Tuple es k tp] value p) m σ Q := by
  intro s hs
  refine Assign_Tuple (wm hs.tk (h s hs) (fun u s1 v m1 σ1 t1 z hs1 => ?_) fun _ _ e => e) hsw hst
  obtain ⟨a, vs, e, hm, hlen, h1⟩ := z
  subst e
  rw [t1.ref_inv]
  obtain ⟨arr, kk, ho, hL, ht, hsz⟩ := hs1.tup (.tail _ hm)
  refine assign_Tuple_tuple ok.hh hL (by omega) hsr fun h' he => ?_
  exact wpm (h1 _ ht _ ⟨hs1.toSr0.ext (t := s1.toks) he, hs1.tk⟩) (fun _ _ _ m2 σ2 _ h2 hs2 => ⟨.next, m2, σ2, .next, h2, hs2⟩) fun _ _ e => e
end
section
variable {c : Fx} {n : Nat} {sc : Scope} {m m' : Loc} {σ σ' φ τ : Sto} {Q : Value → Loc → Sto → Prop} {l it : Addr} {xs : List Value} {x : Str}
theorem We.or2 {e e' : Expr} {pos : Pos} (h : We c sc e m σ (fun v m1 σ1 => Wo1 c Eq truthy v m1 σ1 (fun b m2 σ2 => (b = true → Q v m2 σ2) ∧ (b = false → We c sc e' m2 σ2 Q)))) : We c sc (.BoolOp .Or [e, e'] pos) m σ Q :=
  fun s hs => wpAny_Or2 (wm hs.tk (h s hs) (fun u s1 v m1 σ1 t1 h1 hs1 => wm hs1.tk (h1 _ t1 s1 hs1) (fun b s2 b' m2 σ2 t2 h2 hs2 => by
    subst t2
    cases b' with
    | true => exact ⟨v, m2, σ2, t1, h2.1 rfl, hs2.toSr0⟩
    | false => exact h2.2 rfl s2 hs2) fun _ _ e => e) fun _ _ e => e)
theorem W1.for1 {x : Str} {p p' : Pos} {iter : Expr} {b : List Stmt} {Q : Flow → Loc → Sto → Prop} (hf : ∀ env x, foldedSetIterable iter env x = pure x)
    (h : We c sc iter m σ (fun v m1 σ1 => Wo1 c (fun a b => a = b ∧ ∃ r, a = Value.ref r) pyIter v m1 σ1 (fun it m2 σ2 => Wloop c sc (.Name x p) it b [] m2 σ2 Q))) : W1 c sc (.For (.Name x p) iter b [] p') m σ Q := W1.for hf h
end
theorem expr_ok {v : Value} {P : Prop} (h : ∀ a, v ≠ .ref a) (k : P) : (∀ a, v ≠ .ref a) ∧ P := ⟨h, k⟩
theorem ne_none : ∀ a, Value.none ≠ .ref a := fun _ h => nomatch h
theorem ne_str {x : Str} : ∀ a, S x ≠ .ref a := fun _ h => nomatch h
theorem joinOk_of {sep : Str} {ws : List Str} {B : Nat} (hB : ∀ y ∈ ws, y.length ≤ B) (h : ws.length * B + ws.length * sep.length ≤ 16777216) : JoinOk sep ws = true := by
  unfold JoinOk
  rw [StrLaws.joinTotal, Bool.not_eq_true']
  unfold Builtin.Str.tooLong
  have := StrLaws.sumLen_le ws hB
  exact decide_eq_false (by rw [sizeLine_eq]; omega)
theorem join_le {sep : Str} {ws : List Str} {B : Nat} (hB : ∀ y ∈ ws, y.length ≤ B) : (Txt.join sep ws).length ≤ ws.length * B + ws.length * sep.length := by
  show (Builtin.Str.glued sep ws).length ≤ _
  rw [StrLaws.glued_eq_join]
  induction ws with
  | nil => simp [Str.join, Str.empty, Str.length]
  | cons a r ih =>
    have h1 := hB a (by simp)
    have h2 := ih fun y hy => hB y (by simp [hy])
    cases r with
    | nil => simp [Str.join]; omega
    | cons b r =>
      rw [show Str.join sep (a :: b :: r) = a ++ sep ++ Str.join sep (b :: r) from rfl]
      rw [Str.length_append, Str.length_append]
      simp only [List.length_cons, Nat.add_mul, Nat.one_mul] at h2 ⊢
      omega
inductive BI where
  | len | isinstance | issubclass | max | startswith | endswith | split | join | replace | append | pop
noncomputable def BI.id : BI → String
  | .len => "len" | .isinstance => "isinstance" | .issubclass => "issubclass" | .max => "max" | .startswith => "str.startswith" | .endswith => "str.endswith" | .split => "str.split" | .join => "str.join" | .replace => "str.replace" | .append => "list.append" | .pop => "list.pop"
inductive TY where
  | str | bytes | int | bool | type | list | range | enumerate | object | deque | stop
noncomputable def TY.name : TY → String
  | .str => "str" | .bytes => "bytes" | .int => "int" | .bool => "bool" | .type => "type" | .list => "list" | .range => "range" | .enumerate => "enumerate" | .object => "object" | .deque => "collections.deque" | .stop => "StopIteration"
noncomputable def TY.code : TY → Nat
  | .str => 0 | .bytes => 1 | .int => 2 | .bool => 3 | .type => 4 | .list => 5 | .range => 6 | .enumerate => 7 | .object => 8 | .deque => 9 | .stop => 10
theorem TY.code_name (a b : TY) : (a.name == b.name) = Nat.beq a.code b.code := by cases a <;> cases b <;> kernel_rfl
inductive V where
  | none
  | bool (f : Bool) (b : Bool)
  | int (f : Bool) (i : Int)
  | str (f : Bool) (s : Str)
  | typ (n : TY)
  | bi (id : BI)
  | gl (a : Addr)
  | loc (n : Nat)
noncomputable def V.re (ρ : Nat → Addr) : V → Value
  | .none => .none
  | .bool _ b => .bool b
  | .int _ i => I i
  | .str _ s => S s
  | .typ n => .type n.name
  | .bi b => .builtin b.id
  | .gl a => .ref a
  | .loc n => .ref (ρ n)
noncomputable def V.ok (n : Nat) : V → Bool
  | .loc k => Nat.blt k n
  | _ => true
noncomputable def IntsOf (o : Obj) (xs : List Int) : Prop := o.cls = .type "list" ∧ ∃ arr n, o.data = .seq arr n ∧ TeqL (xs.map I) arr.toList
inductive O where
  | strs (xs : List Str)
  | ints (xs : List Int)
  | tup (xs : List V)
  | tups (xs : List Str)
  | inst (C : Addr) (d : Nat)
  | dict (kvs : List (Str × V))
  | deq
  | any
  | read (o : Obj) (xs : List Int)
noncomputable def emptyDeque : AO := .pred fun o => o.cls = .type "collections.deque" ∧ ∃ a b, o.data = .fields #[a, b]
noncomputable def O.re (ρ : Nat → Addr) : O → AO
  | .strs xs => .list (xs.map S)
  | .ints xs => .list (xs.map I)
  | .tup xs => .tup (xs.map (V.re ρ))
  | .tups xs => .tup (xs.map S)
  | .inst C d => .inst C (ρ d)
  | .dict kvs => .idict (kvs.map fun p => (p.1, p.2.re ρ))
  | .deq => emptyDeque
  | .any => .pred fun _ => True
  | .read o _ => .obj o
noncomputable def vsOk (n : Nat) : List V → Bool
  | [] => true
  | v :: r => match v.ok n with | true => vsOk n r | false => false
noncomputable def kvOk (n : Nat) : List (Str × V) → Bool
  | [] => true
  | p :: r => match p.2.ok n with | true => kvOk n r | false => false
noncomputable def O.ok (n : Nat) : O → Bool
  | .tup xs => vsOk n xs
  | .inst _ d => Nat.blt d n
  | .dict kvs => kvOk n kvs
  | _ => true
structure St where
  m : List (Str × Option V)
  c : List (Str × Option V)
  h : List (Nat × O)
  nx : Nat
noncomputable def ovOk (n : Nat) : List (Str × Option V) → Bool
  | [] => true
  | (_, none) :: r => ovOk n r
  | (_, some v) :: r => match v.ok n with | true => ovOk n r | false => false
noncomputable def hOk (n : Nat) : List (Nat × O) → Bool
  | [] => true
  | p :: r => match Nat.blt p.1 n with | true => (match p.2.ok n with | true => hOk n r | false => false) | false => false
noncomputable def St.ok (st : St) : Bool := match ovOk st.nx st.m with | true => (match ovOk st.nx st.c with | true => hOk st.nx st.h | false => false) | false => false
noncomputable def mre (ρ : Nat → Addr) (m : List (Str × Option V)) : Loc := m.map fun p => (p.1, p.2.map (V.re ρ))
noncomputable def hre (ρ : Nat → Addr) (h : List (Nat × O)) : Sto := h.map fun p => (ρ p.1, p.2.re ρ)
noncomputable def cre (ρ : Nat → Addr) (cl : List (Str × Addr)) (l : List (Str × Option V)) : Sto := l.map fun p => ((cl.lookup p.1).getD 0, .cell (p.2.map (V.re ρ)))
noncomputable def St.sto (cl : List (Str × Addr)) (ρ : Nat → Addr) (st : St) : Sto := cre ρ cl st.c ++ hre ρ st.h
noncomputable def Agree (n : Nat) (ρ ρ' : Nat → Addr) : Prop := ∀ i, i < n → ρ' i = ρ i
theorem Agree.refl {n : Nat} {ρ : Nat → Addr} : Agree n ρ ρ := fun _ _ => rfl
theorem Agree.trans {n n' : Nat} {ρ ρ' ρ'' : Nat → Addr} (h : Agree n ρ ρ') (k : Agree n' ρ' ρ'') (le : n ≤ n') : Agree n ρ ρ'' := fun i hi => (k i (by omega)).trans (h i hi)
theorem blt_lt {a b : Nat} (h : Nat.blt a b = true) : a < b := Nat.le_of_ble_eq_true h
section
variable {n : Nat} {ρ ρ' : Nat → Addr} (ag : Agree n ρ ρ')
include ag
theorem V.re_eq {v : V} (h : v.ok n = true) : v.re ρ' = v.re ρ := by
  cases v with
  | loc k => exact congrArg Value.ref (ag k (blt_lt h))
  | _ => rfl
theorem vs_eq : ∀ {l : List V}, vsOk n l = true → l.map (V.re ρ') = l.map (V.re ρ)
  | [], _ => rfl
  | v :: r, h => by
    unfold vsOk at h
    split at h
    · next e => rw [List.map_cons, List.map_cons, V.re_eq ag e, vs_eq h]
    · cases h
theorem kv_eq : ∀ {l : List (Str × V)}, kvOk n l = true → (l.map fun p => (p.1, p.2.re ρ')) = l.map fun p => (p.1, p.2.re ρ)
  | [], _ => rfl
  | v :: r, h => by
    unfold kvOk at h
    split at h
    · next e => rw [List.map_cons, List.map_cons, V.re_eq ag e, kv_eq h]
    · cases h
theorem O.re_eq {o : O} (h : o.ok n = true) : o.re ρ' = o.re ρ := by
  cases o with
  | tup xs => exact congrArg AO.tup (vs_eq ag h)
  | inst C d => exact congrArg (AO.inst C) (ag d (blt_lt h))
  | dict kvs => exact congrArg AO.idict (kv_eq ag h)
  | _ => rfl
theorem mre_eq : ∀ {l : List (Str × Option V)}, ovOk n l = true → mre ρ' l = mre ρ l
  | [], _ => rfl
  | (x, none) :: r, h => by
    have := mre_eq (l := r) h
    unfold mre at *
    rw [List.map_cons, List.map_cons, this]; rfl
  | (x, some v) :: r, h => by
    unfold ovOk at h
    split at h
    · next e =>
      have := mre_eq (l := r) h
      unfold mre at *
      rw [List.map_cons, List.map_cons, this]
      show (x, some (v.re ρ')) :: _ = (x, some (v.re ρ)) :: _
      rw [V.re_eq ag e]
    · cases h
theorem cre_eq {cl : List (Str × Addr)} : ∀ {l : List (Str × Option V)}, ovOk n l = true → cre ρ' cl l = cre ρ cl l
  | [], _ => rfl
  | (x, none) :: r, h => by
    have := cre_eq (cl := cl) (l := r) h
    unfold cre at *
    rw [List.map_cons, List.map_cons, this]; rfl
  | (x, some v) :: r, h => by
    unfold ovOk at h
    split at h
    · next e =>
      have := cre_eq (cl := cl) (l := r) h
      unfold cre at *
      rw [List.map_cons, List.map_cons, this]
      show (_, AO.cell (some (v.re ρ'))) :: _ = (_, AO.cell (some (v.re ρ))) :: _
      rw [V.re_eq ag e]
    · cases h
theorem hre_eq : ∀ {l : List (Nat × O)}, hOk n l = true → hre ρ' l = hre ρ l
  | [], _ => rfl
  | p :: r, h => by
    unfold hOk at h
    split at h
    · next e =>
      split at h
      · next e' =>
        have := hre_eq (l := r) h
        unfold hre at *
        rw [List.map_cons, List.map_cons, this, ag _ (blt_lt e), O.re_eq ag e']
      · cases h
    · cases h
end
theorem St.ok_eq {st : St} {ρ ρ' : Nat → Addr} (ag : Agree st.nx ρ ρ') (h : st.ok = true) (cl : List (Str × Addr)) : mre ρ' st.m = mre ρ st.m ∧ st.sto cl ρ' = st.sto cl ρ := by
  unfold St.ok at h
  split at h
  · next e1 =>
    split at h
    · next e2 =>
      refine ⟨mre_eq ag e1, ?_⟩
      unfold St.sto
      rw [cre_eq ag e2, hre_eq ag h]
    · cases h
  · cases h
noncomputable def Post (c : Fx) {β B : Type} (cv : (Nat → Addr) → B → β) (n : Nat) (ρ : Nat → Addr) (k : B → St → Prop) : β → Loc → Sto → Prop :=
  fun b m σ => ∃ b' st' ρ', b = cv ρ' b' ∧ m = mre ρ' st'.m ∧ σ = st'.sto c.cl ρ' ∧ Agree n ρ ρ' ∧ n ≤ st'.nx ∧ k b' st'
noncomputable def Jd (c : Fx) {α β B : Type} (R : β → α → Prop) (cv : (Nat → Addr) → B → β) (t : Sem α) (ρ : Nat → Addr) (st : St) (k : B → St → Prop) : Prop :=
  WT c R t (mre ρ st.m) (st.sto c.cl ρ) (Post c cv st.nx ρ k)
section
variable {c : Fx} {α β B : Type} {R : β → α → Prop} {cv : (Nat → Addr) → B → β} {t : Sem α} {ρ : Nat → Addr} {st : St} {k : B → St → Prop} {n : Nat}
theorem Post.here {b : B} (h : k b st) : Post c cv st.nx ρ k (cv ρ b) (mre ρ st.m) (st.sto c.cl ρ) := ⟨b, st, ρ, rfl, rfl, rfl, .refl, Nat.le_refl _, h⟩
theorem Post.up {ρ₁ : Nat → Addr} {n₁ : Nat} (ag : Agree n ρ ρ₁) (le : n ≤ n₁) {b : β} {m : Loc} {σ : Sto} (h : Post c cv n₁ ρ₁ k b m σ) : Post c cv n ρ k b m σ :=
  by obtain ⟨b', st', ρ', h1, h2, h3, h4, h5, h6⟩ := h; exact ⟨b', st', ρ', h1, h2, h3, ag.trans h4 le, Nat.le_trans le h5, h6⟩
theorem Jd.to (h : Jd c R cv t ρ st k) {Q : β → Loc → Sto → Prop} (f : ∀ b st' ρ', Agree st.nx ρ ρ' → st.nx ≤ st'.nx → k b st' → Q (cv ρ' b) (mre ρ' st'.m) (st'.sto c.cl ρ')) : WT c R t (mre ρ st.m) (st.sto c.cl ρ) Q :=
  WT.mono h fun b m σ z => by obtain ⟨b', st', ρ', rfl, rfl, rfl, h4, h5, h6⟩ := z; exact f b' st' ρ' h4 h5 h6
theorem Jd.up {ρ₁ : Nat → Addr} (ag : Agree n ρ₁ ρ) (le : n ≤ st.nx) (h : Jd c R cv t ρ st k) : WT c R t (mre ρ st.m) (st.sto c.cl ρ) (Post c cv n ρ₁ k) :=
  WT.mono h fun _ _ _ p => p.up ag le
theorem Jd.mono {k' : B → St → Prop} (h : Jd c R cv t ρ st k) (f : ∀ b st', k b st' → k' b st') : Jd c R cv t ρ st k' :=
  WT.mono h fun b m σ z => by obtain ⟨b', st', ρ', h1, h2, h3, h4, h5, h6⟩ := z; exact ⟨b', st', ρ', h1, h2, h3, h4, h5, f _ _ h6⟩
theorem WT.gc {m : Loc} {σ : Sto} {Q Q' : β → Loc → Sto → Prop} (h : WT c R t m σ Q) (f : ∀ b m' σ', Q b m' σ' → ∃ φ, Picks σ' φ ∧ Q' b m' φ) : WT c R t m σ Q' :=
  fun s hs => wpm (h s hs) (fun _ _ b m' σ' h1 h2 h3 => by obtain ⟨φ, ⟨τ, hp⟩, hq⟩ := f b m' σ' h2; exact ⟨b, m', φ, h1, hq, (h3.perm (.cons _ hp.perm)).sub (.cons_cons _ (List.sublist_append_left φ τ))⟩) fun _ _ e => e
end
theorem take_of_mem {p : Addr × AO} : ∀ {σ : Sto}, p ∈ σ → ∃ σ', Take σ p σ'
  | q :: r, h => by
    rcases List.mem_cons.mp h with rfl | h
    · exact ⟨_, .here⟩
    · obtain ⟨r', h⟩ := take_of_mem h; exact ⟨_, .there h⟩
theorem Picks.of_perm {φ τ : Sto} : ∀ {σ : Sto}, (φ ++ τ).Perm σ → Picks σ φ := by
  induction φ with
  | nil => intro σ h; exact ⟨_, .nil⟩
  | cons p φ ih =>
    intro σ h
    obtain ⟨σ1, ht⟩ := take_of_mem (h.mem_iff.mp (.head _))
    obtain ⟨τ', h'⟩ := ih (σ := σ1) ((h.trans ht.perm.symm).cons_inv)
    exact ⟨τ', .cons ht h'⟩
noncomputable def hget : List (Nat × O) → Nat → Option O
  | [], _ => none
  | p :: r, i => match Nat.beq p.1 i with | true => some p.2 | false => hget r i
noncomputable def hput : List (Nat × O) → Nat → O → List (Nat × O)
  | [], _, _ => []
  | p :: r, i, o => match Nat.beq p.1 i with | true => (p.1, o) :: r | false => p :: hput r i o
noncomputable def look : List (Str × Option V) → Str → Option V
  | [], _ => none
  | p :: r, x => match p.1 == x with | true => p.2 | false => look r x
noncomputable def setl : List (Str × Option V) → Str → V → Option (List (Str × Option V))
  | [], _, _ => none
  | p :: r, x, v => match p.1 == x with | true => some ((p.1, some v) :: r) | false => (match setl r x v with | some r' => some (p :: r') | none => none)
noncomputable def St.get (st : St) (i : Nat) : Option O := hget st.h i
noncomputable def St.put (st : St) (i : Nat) (o : O) : St := { st with h := hput st.h i o }
noncomputable def St.new (st : St) (o : O) : St := { st with h := (st.nx, o) :: st.h, nx := st.nx + 1 }
noncomputable def chk (b : Bool) (p : Prop) : Prop := match b with | true => p | false => False
theorem chk_ok {b : Bool} {p : Prop} (h : chk b p) : b = true ∧ p := by
  cases b with
  | true => exact ⟨rfl, h⟩
  | false => exact h.elim
noncomputable def need (f : Bool) (p : Prop) [Decidable p] (q : Prop) : Prop := match f with | true => chk (decide p) q | false => p ∧ q
theorem need_ok {f : Bool} {p q : Prop} [Decidable p] (h : need f p q) : p ∧ q := by
  cases f with
  | true => exact ⟨of_decide_eq_true (chk_ok h).1, (chk_ok h).2⟩
  | false => exact h
noncomputable def alloc (o : O) (st : St) (k : V → St → Prop) : Prop := chk st.ok (chk (o.ok st.nx) (k (.loc st.nx) (st.new o)))
theorem hget_mem {ρ : Nat → Addr} {i : Nat} {o : O} : ∀ {h : List (Nat × O)}, hget h i = some o → (ρ i, o.re ρ) ∈ hre ρ h
  | ⟨j, p⟩ :: r, e => by
    cases e' : Nat.beq j i with
    | true =>
      simp only [hget, e'] at e
      cases Nat.eq_of_beq_eq_true e'; cases e; exact List.mem_cons_self
    | false =>
      simp only [hget, e'] at e
      exact List.mem_cons_of_mem _ (hget_mem e)
theorem hput_put {ρ : Nat → Addr} {i : Nat} {o o' : O} : ∀ {h : List (Nat × O)}, hget h i = some o → Put (hre ρ h) (ρ i) (o.re ρ) (o'.re ρ) (hre ρ (hput h i o'))
  | ⟨j, p⟩ :: r, e => by
    cases e' : Nat.beq j i with
    | true =>
      simp only [hget, e'] at e
      cases Nat.eq_of_beq_eq_true e'; cases e
      simp only [hput, e']; exact .here
    | false =>
      simp only [hget, e'] at e
      simp only [hput, e']; exact .there (hput_put e)
theorem put_app {τ σ σ' : Sto} {a : Addr} {x y : AO} (h : Put σ a x y σ') : Put (τ ++ σ) a x y (τ ++ σ') := by
  induction τ with
  | nil => exact h
  | cons p τ ih => exact .there ih
theorem beq_str {x y : Str} (h : (x == y) = true) : x = y := eq_of_beq h
theorem look_mem {ρ : Nat → Addr} {x : Str} {v : V} : ∀ {m : List (Str × Option V)}, look m x = some v → (x, some (v.re ρ)) ∈ mre ρ m
  | p :: r, e => by
    unfold look at e
    split at e
    · next e' =>
      cases eq_of_beq e'
      show _ ∈ (p.1, p.2.map (V.re ρ)) :: _
      rw [e]; exact .head _
    · exact .tail _ (look_mem e)
theorem setl_set {ρ : Nat → Addr} {x : Str} {v : V} : ∀ {m m' : List (Str × Option V)}, setl m x v = some m' → SetL (mre ρ m) x (v.re ρ) (mre ρ m')
  | p :: r, m', e => by
    unfold setl at e
    split at e
    · next e' => cases e; cases eq_of_beq e'; exact .here
    · split at e
      · next e2 => cases e; exact .there (setl_set e2)
      · cases e
theorem St.get_mem {ρ : Nat → Addr} {i : Nat} {o : O} {st : St} {cl : List (Str × Addr)} (h : st.get i = some o) : (ρ i, o.re ρ) ∈ st.sto cl ρ := List.mem_append_right _ (hget_mem h)
theorem St.put_put {ρ : Nat → Addr} {i : Nat} {o o' : O} {st : St} {cl : List (Str × Addr)} (h : st.get i = some o) : Put (st.sto cl ρ) (ρ i) (o.re ρ) (o'.re ρ) ((st.put i o').sto cl ρ) := put_app (hput_put h)
section
variable {c : Fx} {ρ : Nat → Addr} {st : St} {k : V → St → Prop} {n : Nat}
theorem alloc_ok {o : O} (h : alloc o st k) (a : Addr) : ∃ φ, Picks ((a, o.re ρ) :: st.sto c.cl ρ) φ ∧ Post c V.re st.nx ρ k (.ref a) (mre ρ st.m) φ := by
  obtain ⟨h1, h⟩ := chk_ok h
  obtain ⟨h2, h⟩ := chk_ok h
  have ag : Agree st.nx ρ (fun i => if i = st.nx then a else ρ i) := fun i hi => if_neg (by omega)
  obtain ⟨e1, e2⟩ := st.ok_eq ag h1 c.cl
  refine ⟨(st.new o).sto c.cl (fun i => if i = st.nx then a else ρ i), Picks.of_perm (τ := []) ?_, .loc st.nx, st.new o, _, ?_, e1.symm, rfl, ag, Nat.le_succ _, h⟩
  · rw [List.append_nil]
    show (cre _ _ _ ++ hre _ ((st.nx, o) :: st.h)).Perm _
    have e3 : hre (fun i => if i = st.nx then a else ρ i) ((st.nx, o) :: st.h) = (a, o.re ρ) :: hre (fun i => if i = st.nx then a else ρ i) st.h := by
      show (_, _) :: _ = _
      rw [O.re_eq ag h2]
      simp
      rfl
    rw [e3, ← e2]
    exact List.perm_middle
  · show _ = Value.ref (if _ then _ else _)
    rw [if_pos rfl]
theorem Wo2.gc {α β : Type} {R : β → α → Prop} {f : Value → Value → Sem α} {v v' : Value} {m : Loc} {σ : Sto} {Q Q' : β → Loc → Sto → Prop} (h : Wo2 c R f v v' m σ Q) (g : ∀ b m' σ', Q b m' σ' → ∃ φ, Picks σ' φ ∧ Q' b m' φ) : Wo2 c R f v v' m σ Q' :=
  fun u u' t t' => WT.gc (h u u' t t') g
theorem Wo2.up {α B β : Type} {R : β → α → Prop} {cv : (Nat → Addr) → B → β} {k : B → St → Prop} {f : Value → Value → Sem α} {v v' : Value} {m : Loc} {σ : Sto} {ρ₁ : Nat → Addr} {n₁ : Nat} (ag : Agree n ρ ρ₁) (le : n ≤ n₁) (h : Wo2 c R f v v' m σ (Post c cv n₁ ρ₁ k)) : Wo2 c R f v v' m σ (Post c cv n ρ k) :=
  fun u u' t t' => WT.mono (h u u' t t') fun _ _ _ p => p.up ag le
theorem Wo1.up {α B β : Type} {R : β → α → Prop} {cv : (Nat → Addr) → B → β} {k : B → St → Prop} {f : Value → Sem α} {v : Value} {m : Loc} {σ : Sto} {ρ₁ : Nat → Addr} {n₁ : Nat} (ag : Agree n ρ ρ₁) (le : n ≤ n₁) (h : Wo1 c R f v m σ (Post c cv n₁ ρ₁ k)) : Wo1 c R f v m σ (Post c cv n ρ k) :=
  fun u t => WT.mono (h u t) fun _ _ _ p => p.up ag le
theorem Wcall.up {f : Value} {vs : List Value} {m : Loc} {σ : Sto} {ρ₁ : Nat → Addr} {n₁ : Nat} (ag : Agree n ρ ρ₁) (le : n ≤ n₁) (h : Wcall c f vs m σ (Post c V.re n₁ ρ₁ k)) : Wcall c f vs m σ (Post c V.re n ρ k) :=
  fun u t => WT.mono (h u t) fun _ _ _ p => p.up ag le
theorem Wcall.gc {f : Value} {vs : List Value} {m : Loc} {σ : Sto} {Q Q' : Value → Loc → Sto → Prop} (h : Wcall c f vs m σ Q) (g : ∀ b m' σ', Q b m' σ' → ∃ φ, Picks σ' φ ∧ Q' b m' φ) : Wcall c f vs m σ Q' :=
  fun u t => WT.gc (h u t) g
theorem ladd_ok {o : O} (h : alloc o st k) : ∀ b m' σ', (∃ a, b = Value.ref a ∧ m' = mre ρ st.m ∧ σ' = (a, o.re ρ) :: st.sto c.cl ρ) → ∃ φ, Picks σ' φ ∧ Post c V.re st.nx ρ k b m' φ := by
  rintro b m' σ' ⟨a, rfl, rfl, rfl⟩
  exact alloc_ok h a
end
theorem noBool_deque : typeLookup (.type "collections.deque") "__bool__" = pure none := by rw [typeLookup_type, builtinLookup_eq_fast]; kernel_rfl
theorem slot_deque_len : Slot "collections.deque" "__len__" "collections.deque.__len__" :=
  .of (owner := "collections.deque") (n := "__len__") (by rw [typeLookup_type, builtinLookup_eq_fast]; kernel_rfl) (by decide +kernel) (by decide +kernel) (by decide +kernel)
    (by first | exact .inl (by decide +kernel) | exact .inr (by decide +kernel)) (by rw [isSubtype_type]; kernel_rfl)
theorem entry_deque_len : entryFor table "collections.deque.__len__" = some Builtin.«collections.deque.__len__» := entryFor_of_tree (by kernel_rfl)
theorem args_deque_len (a : Value) : argsOk "collections.deque.__len__" ⟨[a], []⟩ := by unfold argsOk; kernel_rfl
section
variable {prog : Program} {w : World} {A : Around} {E : Value → Shared → Prop} {s : Shared} {l : Addr} {o : Obj} {a b : Value}
theorem len_deque {Q : Value → Shared → Prop} (ho : s.heap.get? l = some o) (hc : o.cls = .type "collections.deque") (hd : o.data = .fields #[a, b])
    (h : Q (.int 0 (s.toks + 1)) { s with toks := s.toks + 1 + 1 }) : wpAny (model prog w) A (Builtin.«len» ⟨[.ref l], []⟩) (fun fin s' => ∃ r, fin = .done (.ret r) ∧ Q r s') E s := by
  have hT : s.TypeIs (.ref l) "collections.deque" := ⟨_, ho, hc⟩
  unfold Builtin.«len»
  refine wpAny_bind (m := oneArg "len" _) (wpAny_pure ?_)
  refine wpAny_bind (m := callSpecial? (.ref l) (Str.ofString "__len__")) (wpAny_callSpecial?_slot (name := Str.ofString "__len__") hT slot_deque_len
    (wpAny_call_entry slot_deque_len hT entry_deque_len ?_ (args_deque_len _)))
  · show wpAny _ _ (do retInt (← Builtin.Deque.size (.ref l))) _ _ s
    unfold Builtin.Deque.size fieldsOf
    refine wpAny_bind (wpAny_bind (wpAny_bind (wpAny_load ho ?_)))
    rw [hd]
    refine wpAny_pure (wpAny_pure (wpAny_bind (wpAny_mkInt (wpAny_pure ⟨_, rfl, ?_⟩))))
    refine wpAny_bind (wpAny_holding (wpAny_pure ?_))
    refine wpAny_bind (wpAny_letGo ?_)
    show wpAny _ _ (if (0 : Int) < 0 then _ else _) _ _ _
    rw [if_neg (by omega)]
    show wpAny _ _ (if (0 : Int) ≥ 2 ^ 63 then _ else _) _ _ _
    rw [if_neg (by omega)]
    exact wpAny_bind (wpAny_mkInt (wpAny_pure ⟨_, rfl, h⟩))
theorem truthy_deque {Q : Bool → Shared → Prop} (ho : s.heap.get? l = some o) (hc : o.cls = .type "collections.deque") (hd : o.data = .fields #[a, b])
    (h : ∀ k, Q false { s with toks := k }) : wpAny (model prog w) A (truthy (.ref l)) Q E s := by
  have hT : s.TypeIs (.ref l) "collections.deque" := ⟨_, ho, hc⟩
  have key : wpAny (model prog w) A (runValue (.builtin "len" ⟨[.ref l], []⟩)) (fun r s' => r = .int 0 (s.toks + 1) ∧ Q false s') E s := by
    refine wpAny_runValue (codeAny_builtin entry_len ?_)
    rw [Around.under_plainId plain_len _]
    exact wpAny_mono (len_deque (Q := fun r s' => r = .int 0 (s.toks + 1) ∧ Q false s') ho hc hd ⟨rfl, h _⟩)
      (fun fin s' h' => by obtain ⟨r, rfl, hq⟩ := h'; exact hq) fun _ _ e => e
  unfold truthy
  first
    | refine wpAny_bind (wpAny_callSpecial?_none (name := Str.ofString "__bool__") hT noBool_deque ?_)
    | refine wpAny_bind (wpAny_pure (wpAny_bind (wpAny_callSpecial?_none (name := Str.ofString "__bool__") hT noBool_deque ?_)))
  first
    | refine wpAny_bind (wpAny_specialOf (name := Str.ofString "__len__") hT slot_deque_len.lookup ?_)
    | refine wpAny_bind (wpAny_pure (wpAny_bind (wpAny_specialOf (name := Str.ofString "__len__") hT slot_deque_len.lookup ?_)))
  first
    | exact wpAny_bind (wpAny_mono key (fun r s' h' => by obtain ⟨rfl, hq⟩ := h'; exact wpAny_pure hq) fun _ _ e => e)
    | exact wpAny_bind (wpAny_pure (wpAny_bind (wpAny_mono key (fun r s' h' => by obtain ⟨rfl, hq⟩ := h'; exact wpAny_pure hq) fun _ _ e => e)))
end
section
variable {c : Fx} {n : Nat} {sc : Scope} {m m' : Loc} {σ σ' φ τ : Sto} {a b : Int} {x y : Str} {Q : Value → Loc → Sto → Prop} {l l' : Addr} {xs ys : List Value}
theorem o_iadds (hz : x.length + y.length ≤ sizeLine) (h : Q (S (x ++ y)) m σ) : Wo2 c Teq (inplaceOp .Add) (S x) (S y) m σ Q := by
  intro u u' t t' s hs
  obtain ⟨_, rfl⟩ := t.str_inv; obtain ⟨_, rfl⟩ := t'.str_inv
  exact PyProof.Rows.iadd_str (fun t' tk => ⟨_, m, σ, .s, h, hs.toks _⟩) hz
theorem fold_rep {α : Type} (n : Nat) (arr : Array α) : (List.foldl (fun x1 x2 => x1 ++ x2) #[] (List.replicate n arr)).toList = (List.replicate n arr.toList).flatten := by
  have : ∀ (n : Nat) (acc : Array α), (List.foldl (fun x1 x2 => x1 ++ x2) acc (List.replicate n arr)).toList = acc.toList ++ (List.replicate n arr.toList).flatten := by
    intro n
    induction n with
    | zero => intro acc; simp
    | succ n ih => intro acc; rw [List.replicate_succ, List.foldl_cons, ih]; simp [List.replicate_succ]
  simpa using this n #[]
theorem teql_rep {xs ys : List Value} (h : TeqL xs ys) : ∀ n, TeqL (List.replicate n xs).flatten (List.replicate n ys).flatten
  | 0 => .nil
  | n + 1 => by rw [List.replicate_succ, List.replicate_succ, List.flatten_cons, List.flatten_cons]; exact h.append (teql_rep h n)
theorem o_lmul (hm : (l, .list xs) ∈ σ) (hlo : -(2 ^ 63 : Int) ≤ a) (hhi : a < 2 ^ 63) (hsz : xs.length * a.toNat ≤ sizeLine) (h : ∀ r, Q (.ref r) m ((r, .list (List.replicate a.toNat xs).flatten) :: σ)) : Wo2 c Teq (binaryOp .Mult) (.ref l) (I a) m σ Q := by
  intro u u' t t' s hs
  rw [t.ref_inv]; obtain ⟨tx, rfl⟩ := t'.int_inv
  obtain ⟨arr, k, ho, hL, ht, hz⟩ := hs.list (.tail _ hm)
  refine wpAny_binaryOp_repeat_ref (T := "list") (U := "int") (by decide) ⟨_, ho, rfl⟩ (fun s' => typeIs_int s' a tx) noFill_list_mul F.fills_int_mul F.slot_int_rmul repeat_list F.slot_int_index.lookup
    (call_meets F.slot_int_rmul (typeIs_int s a tx) F.entry_int_rmul (F.args_int_rmul_2 _ _) (int___rmul___int_list a tx l arr k)
      ⟨ho, rfl, ⟨_, ho, rfl⟩, call_meets F.slot_list_mul ⟨_, ho, rfl⟩ F.entry_list_mul (F.args_list_mul_2 _ _)
        (AutoListH.list___mul___list_int_3 l arr k a tx (by simp [Builtin.List.listFitsIndex]; omega) (by rw [hz]; rw [sizeLine_eq] at hsz; omega) (by rw [hz]; simp [Builtin.List.listTooLong]; exact hsz))
        ⟨ho, _, m, _, .same _, h _, hs.new2 (x := .list (List.replicate a.toNat xs).flatten) rfl ⟨_, _, rfl, ?_⟩ _⟩⟩)
  rw [fold_rep]
  by_cases he : arr.isEmpty = true
  · have e0 : xs = [] := by
      have : arr.size = 0 := by simpa [Array.isEmpty] using he
      rw [hz] at this
      exact List.length_eq_zero_iff.mp this
    have e1 : arr.toList = [] := by simpa [Array.isEmpty] using he
    rw [e0, e1]
    have z : ∀ k : Nat, (List.replicate k ([] : List Value)).flatten = [] := fun k => by simp
    rw [z, z]; exact .nil
  · rw [if_neg he]; exact teql_rep ht _
theorem o_lgetn {value slice : Expr} {i : Int} {v : Value} (hm : (l, .list xs) ∈ σ) (h0 : i < 0) (h1 : -(xs.length : Int) ≤ i) (hf : -(2 ^ 63) ≤ i) (hx : xs[(i + xs.length).toNat]? = some v) (h : Q v m σ) : Wo2 c Teq (subscriptTail value slice) (.ref l) (I i) m σ Q := by
  intro u u' t t' s hs
  rw [t.ref_inv]; obtain ⟨_, rfl⟩ := t'.int_inv
  obtain ⟨arr, k, ho, hL, ht, hz⟩ := hs.list (.tail _ hm)
  obtain ⟨v', hv, hvt⟩ := ht.get hx
  exact sub_tail hL.typeIs slot_list_getitem.lookup (wpAny_getItem_list_neg hL h0 (by omega) hf (x := v') (by rw [hz]; simpa using hv) ⟨v, m, σ, hvt, h, hs.toSr0⟩)
theorem c_replace {z : Str} (hyz : (y == z) = false) (hb : x.length + (x.length + 1) * z.length ≤ 16777216) {vs : List Value} {s : Shared} {t u w : Tok} {E : Value → Shared → Prop} {QQ : Value → Shared → Prop} {A : Around} (hu : u ≠ 0) (hv : w ≠ 0) (huv : u ≠ w)
    (hq : ∀ t' k, QQ (.str (Txt.replace x y z) t') { s with toks := k }) : wpAny (MM c.w) A (call (.builtin "str.replace") [.str x t, .str y u, .str z w]) QQ E s := SC.replace hu hv huv hyz hb hq
theorem o_eq_sn (h : Q (.bool false) m σ) : Wo2 c Teq (compareOp .Eq) (S x) .none m σ Q := by
  intro u u' t t' s hs
  obtain ⟨_, rfl⟩ := t.str_inv; rw [t'.none_inv]
  exact EqNone.eq_str_none ⟨_, m, σ, .same _, h, hs.toSr0⟩
theorem o_eq_ns (h : Q (.bool false) m σ) : Wo2 c Teq (compareOp .Eq) .none (S x) m σ Q := by
  intro u u' t t' s hs
  obtain ⟨_, rfl⟩ := t'.str_inv; rw [t.none_inv]
  exact EqNone.eq_none_str ⟨_, m, σ, .same _, h, hs.toSr0⟩
theorem o_eq_nn (h : Q (.bool true) m σ) : Wo2 c Teq (compareOp .Eq) .none .none m σ Q := by
  intro u u' t t' s hs
  rw [t'.none_inv, t.none_inv]
  exact EqNone.eq_none_none ⟨_, m, σ, .same _, h, hs.toSr0⟩
theorem o_isnotnone {v : Value} (h : Q (.bool (!(v == .none))) m σ) : Wo2 c Teq (compareOp .IsNot) v .none m σ Q := by
  intro u u' t t' s hs
  rw [t'.none_inv]
  have e : (u == Value.none) = (v == .none) := by cases t <;> rfl
  exact isNot_none ⟨_, m, σ, .same _, e ▸ h, hs.toSr0⟩
theorem o_isnot_tt {p q : String} (h : Q (.bool (!(p == q))) m σ) : Wo2 c Teq (compareOp .IsNot) (.type p) (.type q) m σ Q := by
  intro u u' t t' s hs
  rw [t.type_inv, t'.type_inv]
  have e : ((Value.type p) == (Value.type q)) = (p == q) := by
    rw [Bool.eq_iff_iff, beq_iff_eq, beq_iff_eq]
    exact ⟨fun h => Value.type.inj h, fun h => h ▸ rfl⟩
  exact wpAny_isNot_plain rfl ⟨_, m, σ, .same _, e ▸ h, hs.toSr0⟩
theorem t_emptyq {Q : Bool → Loc → Sto → Prop} (hm : (l, emptyDeque) ∈ σ) (h : Q false m σ) : Wo1 c Eq truthy (.ref l) m σ Q := by
  intro u t s hs
  rw [t.ref_inv]
  obtain ⟨o, ho, hc, a, b, hd⟩ := hs.at (.tail _ hm)
  exact truthy_deque ho hc hd fun k => ⟨_, m, σ, rfl, h, hs.toks _⟩
end
noncomputable abbrev K1 := V → St → Prop
noncomputable def getO (st : St) (i : Nat) (p : O → Prop) : Prop := match st.get i with
  | some o => p o
  | none => False
theorem getO_ok {st : St} {i : Nat} {p : O → Prop} (h : getO st i p) : ∃ o, st.get i = some o ∧ p o := by
  unfold getO at h
  cases e : st.get i with
  | none => rw [e] at h; exact h.elim
  | some o => rw [e] at h; exact ⟨o, rfl, h⟩
noncomputable def getK (st : St) (i : Nat) (p : List Str → Prop) (q : List Int → Prop) : Prop := getO st i fun o => match o with
  | .strs xs => p xs
  | .ints xs => q xs
  | _ => False
theorem getK_ok {st : St} {i : Nat} {p : List Str → Prop} {q : List Int → Prop} (h : getK st i p q) : (∃ xs, st.get i = some (.strs xs) ∧ p xs) ∨ ∃ xs, st.get i = some (.ints xs) ∧ q xs := by
  obtain ⟨o, e, h⟩ := getO_ok h
  cases o with
  | «strs» xs => exact .inl ⟨xs, e, h⟩
  | «ints» xs => exact .inr ⟨xs, e, h⟩
  | _ => exact h.elim
noncomputable def getS (st : St) (i : Nat) (p : List Str → Prop) : Prop := getK st i p fun _ => False
theorem getS_ok {st : St} {i : Nat} {p : List Str → Prop} (h : getS st i p) : ∃ xs, st.get i = some (.strs xs) ∧ p xs := by
  rcases getK_ok h with h | ⟨_, _, h⟩
  · exact h
  · exact h.elim
noncomputable def getT (st : St) (i : Nat) (p : List V → Prop) : Prop := getO st i fun o => match o with
  | .tup vs => p vs
  | _ => False
theorem getT_ok {st : St} {i : Nat} {p : List V → Prop} (h : getT st i p) : ∃ vs, st.get i = some (.tup vs) ∧ p vs := by
  obtain ⟨o, e, h⟩ := getO_ok h
  cases o with
  | tup vs => exact ⟨vs, e, h⟩
  | _ => exact h.elim
noncomputable def isI (v : V) (p : Bool → Int → Prop) : Prop := match v with
  | .int f x => p f x
  | _ => False
theorem isI_ok {v : V} {p : Bool → Int → Prop} (h : isI v p) : ∃ f x, v = .int f x ∧ p f x := by
  cases v with
  | int f x => exact ⟨f, x, rfl, h⟩
  | _ => exact h.elim
noncomputable def isS (v : V) (p : Bool → Str → Prop) : Prop := match v with
  | .str f x => p f x
  | _ => False
theorem isS_ok {v : V} {p : Bool → Str → Prop} (h : isS v p) : ∃ f x, v = .str f x ∧ p f x := by
  cases v with
  | str f x => exact ⟨f, x, rfl, h⟩
  | _ => exact h.elim
noncomputable def isL (v : V) (p : Nat → Prop) : Prop := match v with
  | .loc i => p i
  | _ => False
theorem isL_ok {v : V} {p : Nat → Prop} (h : isL v p) : ∃ i, v = .loc i ∧ p i := by
  cases v with
  | loc i => exact ⟨i, rfl, h⟩
  | _ => exact h.elim
noncomputable def ints2 (a b : V) (p : Bool → Int → Int → Prop) : Prop := isI a fun f x => isI b fun g y => p (f && g) x y
noncomputable def strs2 (a b : V) (p : Bool → Str → Str → Prop) : Prop := isS a fun f x => isS b fun g y => p (f && g) x y
theorem ints2_ok {a b : V} {p : Bool → Int → Int → Prop} (h : ints2 a b p) : ∃ f x g y, a = .int f x ∧ b = .int g y ∧ p (f && g) x y := by
  obtain ⟨f, x, ea, h⟩ := isI_ok h
  obtain ⟨g, y, eb, h⟩ := isI_ok h
  exact ⟨f, x, g, y, ea, eb, h⟩
theorem strs2_ok {a b : V} {p : Bool → Str → Str → Prop} (h : strs2 a b p) : ∃ f x g y, a = .str f x ∧ b = .str g y ∧ p (f && g) x y := by
  obtain ⟨f, x, ea, h⟩ := isS_ok h
  obtain ⟨g, y, eb, h⟩ := isS_ok h
  exact ⟨f, x, g, y, ea, eb, h⟩
noncomputable def addV (a b : V) (st : St) (k : K1) : Prop :=
  match a with
  | .int f x => isI b fun g y => k (.int (f && g) (x + y)) st
  | .str f x => isS b fun g y => need (f && g) (x.length + y.length ≤ sizeLine) (k (.str (f && g) (x ++ y)) st)
  | .loc i => isL b fun j => getK st i (fun xs => getS st j fun ys => xs.length + ys.length ≤ sizeLine ∧ alloc (.strs (xs ++ ys)) st k)
      (fun xs => getK st j (fun _ => False) fun ys => xs.length + ys.length ≤ sizeLine ∧ alloc (.ints (xs ++ ys)) st k)
  | _ => False
noncomputable def binV (op : Operator) (a b : V) (st : St) (k : K1) : Prop :=
  match op with
  | .Add => addV a b st k
  | .Sub => ints2 a b fun f x y => k (.int f (x - y)) st
  | .Mod => isI a fun f x => isI b fun g y => need g (y ≠ 0) (k (.int (f && g) (x.fmod y)) st)
  | .FloorDiv => isI a fun f x => isI b fun g y => need g (y ≠ 0 ∧ y.natAbs < 1073741824) (k (.int (f && g) (x.fdiv y)) st)
  | .Mult => isL a fun i => isI b fun g y => getS st i fun xs => (-(2 ^ 63 : Int) ≤ y ∧ y < 2 ^ 63 ∧ xs.length * y.toNat ≤ sizeLine) ∧ alloc (.strs (List.replicate y.toNat xs).flatten) st k
  | _ => False
noncomputable def inV (op : Operator) (a b : V) (st : St) (k : K1) : Prop :=
  match op with
  | .Add => (match a with
    | .int f x => isI b fun g y => k (.int (f && g) (x + y)) st
    | .str f x => isS b fun g y => need (f && g) (x.length + y.length ≤ sizeLine) (k (.str (f && g) (x ++ y)) st)
    | _ => False)
  | _ => False
noncomputable def V.isNone : V → Bool
  | .none => true
  | _ => false
noncomputable def V.strs? : List V → Option (List Str)
  | [] => some []
  | .str _ x :: r => (match V.strs? r with | some l => some (x :: l) | _ => Option.none)
  | _ => Option.none
noncomputable def V.ints? : List V → Option (List Int)
  | [] => some []
  | .int _ x :: r => (match V.ints? r with | some l => some (x :: l) | _ => Option.none)
  | _ => Option.none
noncomputable def V.lit : V → Bool
  | .str f _ => f
  | .int f _ => f
  | .bool f _ => f
  | _ => true
noncomputable def eqV (a b : V) (st : St) (k : K1) : Prop :=
  match a with
  | .int f x => isI b fun g y => k (.bool (f && g) (x == y)) st
  | .str f x => (match b with
    | .str g y => k (.bool (f && g) (x == y)) st
    | .none => k (.bool true false) st
    | _ => False)
  | .none => (match b with
    | .str _ _ => k (.bool true false) st
    | .none => k (.bool true true) st
    | _ => False)
  | .loc i => isL b fun j => getS st i fun xs => getS st j fun ys => k (.bool false (xs == ys)) st
  | _ => False
noncomputable def inlV (f : Bool) (x : Str) (j : Nat) (st : St) (p : Bool → Bool → Prop) : Prop :=
  getT st j fun vs => match V.strs? vs with | some l => p (f && vs.all V.lit) (l.any (· == x)) | none => False
noncomputable def cmpV (op : CmpOp) (a b : V) (st : St) (k : K1) : Prop :=
  match op with
  | .Eq => eqV a b st k
  | .NotEq => (match a with
    | .str f x => isS b fun g y => k (.bool (f && g) (x != y)) st
    | .loc i => isL b fun j => getS st i fun xs => getS st j fun ys => k (.bool false (!(xs == ys))) st
    | _ => False)
  | .Is => (match b with | .none => k (.bool true a.isNone) st | _ => False)
  | .IsNot => (match b with
    | .none => k (.bool true (!a.isNone)) st
    | .typ q => (match a with | .typ p => k (.bool true (!(Nat.beq p.code q.code))) st | _ => False)
    | _ => False)
  | .Lt => ints2 a b fun f x y => k (.bool f (decide (x < y))) st
  | .Gt => ints2 a b fun f x y => k (.bool f (decide (y < x))) st
  | .GtE => ints2 a b fun f x y => k (.bool f (decide (y ≤ x))) st
  | .In => isS a fun f x => (match b with
    | .str g y => k (.bool (f && g) (!(Builtin.Str.occurrences y x 0 y.length 1).isEmpty)) st
    | .loc j => inlV f x j st fun g c => k (.bool g c) st
    | _ => False)
  | .NotIn => isS a fun f x => (match b with
    | .str g y => k (.bool (f && g) (!!(Builtin.Str.occurrences y x 0 y.length 1).isEmpty)) st
    | .loc j => inlV f x j st fun g c => k (.bool g (!c)) st
    | _ => False)
  | _ => False
noncomputable def truthV (a : V) (st : St) (k : Bool → Bool → St → Prop) : Prop :=
  match a with
  | .none => k true false st
  | .bool f b => k f b st
  | .int f x => k f (x != 0) st
  | .str f x => need f (x.length ≤ sizeLine) (k f (x.length != 0) st)
  | .loc i => getO st i fun o => (match o with
    | .strs xs => xs.length ≤ sizeLine ∧ k false (!xs.isEmpty) st
    | .ints xs => xs.length ≤ sizeLine ∧ k false (!xs.isEmpty) st
    | .deq => k true false st
    | _ => False)
  | _ => False
noncomputable def idx (n : Nat) (i : Int) : Nat := if i < 0 then (i + n).toNat else i.toNat
noncomputable def subV (a b : V) (st : St) (k : K1) : Prop :=
  isI b fun g i => match a with
  | .str f x => need (f && g) (-(x.length : Int) ≤ i ∧ i < x.length ∧ x.length ≤ sizeLine) (k (.str (f && g) (Txt.item x i)) st)
  | .loc j => getS st j fun xs => (-(xs.length : Int) ≤ i ∧ i < xs.length ∧ xs.length ≤ sizeLine) ∧ k (.str false (xs.getD (idx xs.length i) (N ""))) st
  | _ => False
noncomputable def cutTo (lo hi : Option Int) (p : Int → Prop) : Prop := match lo with
  | some _ => False
  | none => (match hi with | some b => p b | none => False)
theorem cutTo_ok {lo hi : Option Int} {p : Int → Prop} (h : cutTo lo hi p) : ∃ b, lo = none ∧ hi = some b ∧ p b := by
  cases lo with
  | some _ => exact h.elim
  | none =>
    cases hi with
    | some b => exact ⟨b, rfl, rfl, h⟩
    | none => exact h.elim
noncomputable def cutV (a : V) (lo hi : Option Int) (fl : Bool) (st : St) (k : K1) : Prop :=
  match a with
  | .str f x => need (f && fl) (x.length ≤ sizeLine) (k (.str (f && fl) (Txt.slice x lo hi)) st)
  | .loc j => getO st j fun o => (match o with
    | .strs xs => (match lo with
      | none => (match hi with | some b => need fl (0 ≤ b) (xs.length ≤ sizeLine ∧ alloc (.strs (xs.take b.toNat)) st k) | none => False)
      | some a => (match hi with | none => need fl (0 ≤ a) (xs.length ≤ sizeLine ∧ alloc (.strs (xs.drop a.toNat)) st k) | some _ => False))
    | .ints xs => cutTo lo hi fun b => need fl (0 ≤ b) (xs.length ≤ sizeLine ∧ alloc (.ints (xs.take b.toNat)) st k)
    | .read o xs => cutTo lo hi fun b => need fl (0 ≤ b) ((IntsOf o xs ∧ xs.length ≤ sizeLine) ∧ alloc (.ints (xs.take b.toNat)) st k)
    | _ => False)
  | _ => False
theorem strs?_map {ρ : Nat → Addr} : ∀ {vs : List V} {l : List Str}, V.strs? vs = some l → vs.map (V.re ρ) = l.map S
  | [], l, h => by cases h; rfl
  | v :: r, l, h => by
    cases v <;> simp only [V.strs?] at h <;> try (cases h; done)
    split at h
    · next e => cases h; rw [List.map_cons, List.map_cons, strs?_map e]; rfl
    · cases h
theorem ints?_map {ρ : Nat → Addr} : ∀ {vs : List V} {l : List Int}, V.ints? vs = some l → vs.map (V.re ρ) = l.map I
  | [], l, h => by cases h; rfl
  | v :: r, l, h => by
    cases v <;> simp only [V.ints?] at h <;> try (cases h; done)
    split at h
    · next e => cases h; rw [List.map_cons, List.map_cons, ints?_map e]; rfl
    · cases h
section
variable {c : Fx} {ρ : Nat → Addr} {st : St} {k : K1} {n : Nat}
theorem binV_ok {op : Operator} {a b : V} (h : binV op a b st k) : Wo2 c Teq (binaryOp op) (a.re ρ) (b.re ρ) (mre ρ st.m) (st.sto c.cl ρ) (Post c V.re st.nx ρ k) := by
  cases op with
  | Add =>
    cases a with
    | int f x =>
      obtain ⟨g, y, rfl, h⟩ := isI_ok h
      exact o_add (Post.here (b := V.int _ _) h)
    | str f x =>
      obtain ⟨g, y, rfl, h⟩ := isS_ok h
      obtain ⟨h1, h⟩ := need_ok h; exact o_adds h1 (Post.here (b := V.str _ _) h)
    | loc i =>
      obtain ⟨j, rfl, h⟩ := isL_ok h
      rcases getK_ok h with ⟨xs, e1, h⟩ | ⟨xs, e1, h⟩
      · obtain ⟨ys, e2, h⟩ := getS_ok h
        refine Wo2.gc (o_ladd (xs := List.map S _) (ys := List.map S _) (St.get_mem e1) (St.get_mem e2) (by simpa using h.1) fun b => ⟨b, rfl, rfl, ?_⟩) (ladd_ok h.2)
        rw [← List.map_append]; rfl
      · rcases getK_ok h with ⟨ys, e2, h⟩ | ⟨ys, e2, h⟩
        · exact h.elim
        · refine Wo2.gc (o_ladd (xs := List.map I _) (ys := List.map I _) (St.get_mem e1) (St.get_mem e2) (by simpa using h.1) fun b => ⟨b, rfl, rfl, ?_⟩) (ladd_ok h.2)
          rw [← List.map_append]; rfl
    | _ => exact h.elim
  | Sub =>
    obtain ⟨f, x, g, y, rfl, rfl, h⟩ := ints2_ok (show ints2 a b fun f x y => k (.int f (x - y)) st from h)
    exact o_sub (Post.here (b := V.int _ _) h)
  | Mod =>
    obtain ⟨f, x, rfl, h⟩ := isI_ok h
    obtain ⟨g, y, rfl, h⟩ := isI_ok h
    obtain ⟨h1, h⟩ := need_ok h; exact o_mod h1 (Post.here (b := V.int _ _) h)
  | FloorDiv =>
    obtain ⟨f, x, rfl, h⟩ := isI_ok h
    obtain ⟨g, y, rfl, h⟩ := isI_ok h
    obtain ⟨h1, h⟩ := need_ok h; exact o_div h1.1 h1.2 (Post.here (b := V.int _ _) h)
  | Mult =>
    obtain ⟨i, rfl, h⟩ := isL_ok h
    obtain ⟨g, y, rfl, h⟩ := isI_ok h
    obtain ⟨xs, e1, h⟩ := getS_ok h
    refine Wo2.gc (o_lmul (xs := List.map S _) (St.get_mem e1) h.1.1 h.1.2.1 (by simpa using h.1.2.2) fun b => ⟨b, rfl, rfl, ?_⟩) (ladd_ok h.2)
    show _ = (_, AO.list _) :: _
    rw [← List.map_replicate, ← List.map_flatten]
  | _ => exact h.elim
theorem inV_ok {op : Operator} {a b : V} (h : inV op a b st k) : Wo2 c Teq (inplaceOp op) (a.re ρ) (b.re ρ) (mre ρ st.m) (st.sto c.cl ρ) (Post c V.re st.nx ρ k) := by
  cases op with
  | Add =>
    cases a with
    | int f x =>
      obtain ⟨g, y, rfl, h⟩ := isI_ok h
      exact o_iadd (Post.here (b := V.int _ _) h)
    | str f x =>
      obtain ⟨g, y, rfl, h⟩ := isS_ok h
      obtain ⟨h1, h⟩ := need_ok h; exact o_iadds h1 (Post.here (b := V.str _ _) h)
    | _ => exact h.elim
  | _ => exact h.elim
theorem isNone_re {a : V} : (a.re ρ == Value.none) = a.isNone := by cases a <;> rfl
theorem inlV_ok {f : Bool} {x : Str} {j : Nat} {p : Bool → Bool → Prop} (h : inlV f x j st p) : ∃ (l : List Str) (g : Bool), (ρ j, AO.tup (l.map S)) ∈ st.sto c.cl ρ ∧ p g (l.any (· == x)) := by
  obtain ⟨vs, e1, h⟩ := getT_ok h
  cases e2 : V.strs? vs with
  | none => rw [e2] at h; exact h.elim
  | some l =>
    rw [e2] at h
    have hm : (ρ _, AO.tup _) ∈ st.sto c.cl ρ := St.get_mem e1
    rw [strs?_map e2] at hm
    exact ⟨l, _, hm, h⟩
theorem cmpV_ok (ok : c.Ok (n + 1)) {op : CmpOp} {a b : V} (h : cmpV op a b st k) : Wo2 c Teq (compareOp op) (a.re ρ) (b.re ρ) (mre ρ st.m) (st.sto c.cl ρ) (Post c V.re st.nx ρ k) := by
  cases op with
  | Eq =>
    cases a with
    | int f x =>
      obtain ⟨g, y, rfl, h⟩ := isI_ok h
      exact o_eq (Post.here (b := V.bool _ _) h)
    | str f x =>
      cases b with
      | str g y => exact o_eqs (Post.here (b := V.bool _ _) h)
      | none => exact o_eq_sn (Post.here (b := V.bool _ _) h)
      | _ => exact h.elim
    | none =>
      cases b with
      | str g y => exact o_eq_ns (Post.here (b := V.bool _ _) h)
      | none => exact o_eq_nn (Post.here (b := V.bool _ _) h)
      | _ => exact h.elim
    | loc i =>
      obtain ⟨j, rfl, h⟩ := isL_ok h
      obtain ⟨xs, e1, h⟩ := getS_ok h
      obtain ⟨ys, e2, h⟩ := getS_ok h
      exact o_leq ok (St.get_mem e1) (St.get_mem e2) (Post.here (b := V.bool _ _) h)
    | _ => exact h.elim
  | NotEq =>
    cases a with
    | str f x =>
      obtain ⟨g, y, rfl, h⟩ := isS_ok h
      exact o_nes (Post.here (b := V.bool _ _) h)
    | loc i =>
      obtain ⟨j, rfl, h⟩ := isL_ok h
      obtain ⟨xs, e1, h⟩ := getS_ok h
      obtain ⟨ys, e2, h⟩ := getS_ok h
      exact o_lne ok (St.get_mem e1) (St.get_mem e2) (Post.here (b := V.bool _ _) h)
    | _ => exact h.elim
  | Is =>
    cases b with
    | none => exact o_isnone (by rw [isNone_re]; exact Post.here (b := V.bool _ _) h)
    | _ => exact h.elim
  | IsNot =>
    cases b with
    | none => exact o_isnotnone (by rw [isNone_re]; exact Post.here (b := V.bool _ _) h)
    | typ q =>
      cases a with
      | typ p => exact o_isnot_tt (by rw [TY.code_name]; exact Post.here (b := V.bool _ _) h)
      | _ => exact h.elim
    | _ => exact h.elim
  | Lt =>
    obtain ⟨f, x, g, y, rfl, rfl, h⟩ := ints2_ok (show ints2 a b fun f x y => k (.bool f (decide (x < y))) st from h)
    exact o_lt (Post.here (b := V.bool _ _) h)
  | Gt =>
    obtain ⟨f, x, g, y, rfl, rfl, h⟩ := ints2_ok (show ints2 a b fun f x y => k (.bool f (decide (y < x))) st from h)
    exact o_gt (Post.here (b := V.bool _ _) h)
  | GtE =>
    obtain ⟨f, x, g, y, rfl, rfl, h⟩ := ints2_ok (show ints2 a b fun f x y => k (.bool f (decide (y ≤ x))) st from h)
    exact o_ge (Post.here (b := V.bool _ _) h)
  | In =>
    obtain ⟨f, x, rfl, h⟩ := isS_ok h
    cases b with
    | str g y => exact o_ins (Post.here (b := V.bool _ _) h)
    | loc j =>
      obtain ⟨l, g, hm, h⟩ := inlV_ok (c := c) (ρ := ρ) (show inlV f x j st (fun g c => k (.bool g c) st) from h)
      exact o_int hm (Post.here (b := V.bool _ _) h)
    | _ => exact h.elim
  | NotIn =>
    obtain ⟨f, x, rfl, h⟩ := isS_ok h
    cases b with
    | str g y => exact o_nins (Post.here (b := V.bool _ _) h)
    | loc j =>
      obtain ⟨l, g, hm, h⟩ := inlV_ok (c := c) (ρ := ρ) (show inlV f x j st (fun g c => k (.bool g (!c)) st) from h)
      exact o_nint hm (Post.here (b := V.bool _ _) h)
    | _ => exact h.elim
  | _ => exact h.elim
theorem truthV_ok {a : V} {k : Bool → Bool → St → Prop} (h : truthV a st k) : Wo1 c Eq truthy (a.re ρ) (mre ρ st.m) (st.sto c.cl ρ) (Post c (fun _ (p : Bool × Bool) => p.2) st.nx ρ fun p st' => k p.1 p.2 st') := by
  cases a with
  | none => exact t_none (Post.here (b := (true, false)) h)
  | bool f b => exact t_bool (Post.here (b := (_, _)) h)
  | int f x => exact t_int (Post.here (b := (_, _)) h)
  | str f x => obtain ⟨h1, h⟩ := need_ok h; exact t_str h1 (Post.here (b := (_, _)) h)
  | loc i =>
    obtain ⟨o, e1, h⟩ := getO_ok h
    cases o with
    | «strs» xs =>
      refine t_list (xs := List.map S _) (St.get_mem e1) (by simpa using h.1) ?_
      rw [List.isEmpty_map]; exact Post.here (b := (_, _)) h.2
    | «ints» xs =>
      refine t_list (xs := List.map I _) (St.get_mem e1) (by simpa using h.1) ?_
      rw [List.isEmpty_map]; exact Post.here (b := (_, _)) h.2
    | deq => exact t_emptyq (St.get_mem e1) (Post.here (b := (true, false)) h)
    | _ => exact h.elim
  | _ => exact h.elim
theorem getD_some {α : Type} {xs : List α} {i : Nat} {d : α} (h : i < xs.length) : xs[i]? = some (xs.getD i d) := by
  rw [List.getD_eq_getElem?_getD, List.getElem?_eq_getElem h]; rfl
theorem subV_ok {a b : V} {value slice : Expr} (h : subV a b st k) : Wo2 c Teq (subscriptTail value slice) (a.re ρ) (b.re ρ) (mre ρ st.m) (st.sto c.cl ρ) (Post c V.re st.nx ρ k) := by
  obtain ⟨g, i, rfl, h⟩ := isI_ok h
  cases a with
  | str f x => obtain ⟨⟨h1, h2, h3⟩, h⟩ := need_ok h; exact o_item h1 h2 h3 (Post.here (b := V.str _ _) h)
  | loc j =>
      obtain ⟨xs, e1, ⟨h1, h2, h3⟩, h⟩ := getS_ok h
      rw [sizeLine_eq] at h3
      by_cases hi : i < 0
      · have e : idx xs.length i = (i + xs.length).toNat := if_pos hi
        rw [e] at h
        refine o_lgetn (xs := List.map S xs) (v := S (xs.getD (i + xs.length).toNat (N ""))) (St.get_mem e1) hi (by simpa using h1) (by omega) ?_ (Post.here (b := V.str _ _) h)
        rw [List.length_map, List.getElem?_map, getD_some (d := N "") (by omega)]; rfl
      · have e : idx xs.length i = i.toNat := if_neg hi
        rw [e] at h
        refine o_lget (xs := List.map S xs) (v := S (xs.getD i.toNat (N ""))) (St.get_mem e1) (by omega) (by omega) ?_ (Post.here (b := V.str _ _) h)
        rw [List.getElem?_map, getD_some (d := N "") (by omega)]; rfl
  | _ => exact h.elim
end
noncomputable def kvget : List (Str × V) → Str → Option V
  | [], _ => none
  | p :: r, x => match p.1 == x with | true => some p.2 | false => kvget r x
noncomputable def kvset : List (Str × V) → Str → V → List (Str × V)
  | [], x, v => [(x, v)]
  | p :: r, x, v => match p.1 == x with | true => (p.1, v) :: r | false => p :: kvset r x v
noncomputable def kvgetR : List (Str × Value) → Str → Option Value
  | [], _ => none
  | p :: r, x => match p.1 == x with | true => some p.2 | false => kvgetR r x
noncomputable def kvsetR : List (Str × Value) → Str → Value → List (Str × Value)
  | [], x, v => [(x, v)]
  | p :: r, x, v => match p.1 == x with | true => (p.1, v) :: r | false => p :: kvsetR r x v
theorem kvget_re {ρ : Nat → Addr} {x : Str} : ∀ {l : List (Str × V)}, kvgetR (l.map fun p => (p.1, p.2.re ρ)) x = (kvget l x).map (V.re ρ)
  | [] => rfl
  | p :: r => by
    have ih := kvget_re (ρ := ρ) (x := x) (l := r)
    show (match p.1 == x with | true => _ | false => _) = _
    cases e : p.1 == x with
    | true => simp only [kvget, e]; rfl
    | false => simp only [kvget, e]; exact ih
theorem kvset_re {ρ : Nat → Addr} {x : Str} {v : V} : ∀ {l : List (Str × V)}, kvsetR (l.map fun p => (p.1, p.2.re ρ)) x (v.re ρ) = (kvset l x v).map fun p => (p.1, p.2.re ρ)
  | [] => rfl
  | p :: r => by
    have ih := kvset_re (ρ := ρ) (x := x) (v := v) (l := r)
    show (match p.1 == x with | true => _ | false => _) = _
    cases e : p.1 == x with
    | true => simp only [kvset, e]; rfl
    | false => simp only [kvset, e, List.map_cons]; rw [ih]
theorem kvsetR_keys {x : Str} {v : Value} : ∀ {l : List (Str × Value)}, (l.map (·.1)).Nodup → ((kvsetR l x v).map (·.1)).Nodup ∧ ∀ y ∈ (kvsetR l x v).map (·.1), y ∈ l.map (·.1) ∨ y = x
  | [], _ => ⟨by simp [kvsetR], by simp [kvsetR]⟩
  | p :: r, h => by
    rw [List.map_cons, List.nodup_cons] at h
    obtain ⟨h1, h2⟩ := kvsetR_keys (x := x) (v := v) h.2
    cases e : p.1 == x with
    | true =>
      simp only [kvsetR, e, List.map_cons, List.nodup_cons]
      exact ⟨h, fun y hy => .inl hy⟩
    | false =>
      simp only [kvsetR, e, List.map_cons, List.nodup_cons]
      refine ⟨⟨fun hm => ?_, h1⟩, fun y hy => ?_⟩
      · rcases h2 _ hm with q | q
        · exact h.1 q
        · rw [q] at e; simp at e
      · rcases List.mem_cons.mp hy with rfl | hy
        · exact .inl (.head _)
        · rcases h2 _ hy with q | q
          · exact .inl (.tail _ q)
          · exact .inr q
theorem isStr_key {P : Params} {kv : Str × Value} {e : DictEntry} (h : EntIs P kv e) (x : Str) : e.key.isStr x = (kv.1 == x) := by
  obtain ⟨⟨t, hk⟩, _, _⟩ := h
  rw [hk]; rfl
theorem ents_get {P : Params} {x : Str} : ∀ {kvs : List (Str × Value)} {es : List DictEntry}, EntsIs P kvs es → match kvgetR kvs x with | some v => ∃ v', getL x es = some (some v') ∧ Teq v v' | none => getL x es = some none := by
  intro kvs es h
  have key : es.any (·.refKey) = false := by
    induction h with
    | nil => rfl
    | cons h _ ih =>
      obtain ⟨⟨t, hk⟩, _, _⟩ := h
      rw [List.any_cons, ih]; simp [DictEntry.refKey, hk]
  have : match kvgetR kvs x with | some v => ∃ e, es.find? (·.key.isStr x) = some e ∧ Teq v e.val | none => es.find? (·.key.isStr x) = none := by
    clear key
    induction h with
    | nil => rfl
    | @cons a b l r h hr ih =>
      have e := isStr_key h x
      cases q : a.1 == x with
      | true =>
        simp only [kvgetR, q]
        exact ⟨b, by rw [List.find?_cons, e, q], h.2.2⟩
      | false =>
        simp only [kvgetR, q]
        rw [List.find?_cons, e, q]
        exact ih
  unfold getL
  cases q : kvgetR kvs x with
  | some v =>
    rw [q] at this
    obtain ⟨e, h1, h2⟩ := this
    exact ⟨e.val, by rw [h1], h2⟩
  | none =>
    rw [q] at this
    show (match es.find? _ with | some e => _ | none => _) = _
    rw [this]
    show (if es.any (·.refKey) = true then _ else _) = _
    rw [key]; rfl
theorem ents_put {P : Params} {x : Str} {v v' : Value} {t : Tok} (tv : Teq v v') : ∀ {kvs : List (Str × Value)} {es : List DictEntry}, EntsIs P kvs es → EntsIs P (kvsetR kvs x v) (putL x (PyData.keyHash P x) (.str x t) v' es) := by
  intro kvs es h
  induction h with
  | nil => exact .cons ⟨⟨t, rfl⟩, rfl, tv⟩ .nil
  | @cons a b l r h hr ih =>
    have e := isStr_key h x
    cases q : a.1 == x with
    | true =>
      simp only [kvsetR, q, putL]
      rw [e, q]
      exact .cons ⟨h.1, h.2.1, tv⟩ hr
    | false =>
      simp only [kvsetR, q, putL]
      rw [e, q]
      exact .cons h ih
theorem putL_len (x : Str) (hs : Int) (k v : Value) : ∀ es : List DictEntry, (putL x hs k v es).length ≤ es.length + 1
  | [] => by simp [putL]
  | e :: r => by
    have := putL_len x hs k v r
    unfold putL
    split
    · simp
    · simp only [List.length_cons]; exact Nat.lt_succ_of_le (by assumption)
theorem ents_len {P : Params} {kvs : List (Str × Value)} {es : List DictEntry} (h : EntsIs P kvs es) : es.length = kvs.length := by
  induction h with
  | nil => rfl
  | cons _ _ ih => simp [ih]
theorem osa_own {w : World} {A : Around} {K : Frag} {R : Result → Shared → Prop} {s : Shared} {x C dx : Addr} {ox : Obj} {name : Str} {tk : Tok} {v : Value} {es es' : List DictEntry} {n n' : Nat} (D : s.heap.get? dx = some (dictOf es n)) (X : K.In s.heap)
    (I : InstAt s.heap x ox C (some (dictOf es n))) (hd : ox.dict = some dx) (hp : plainOver K C = true) (ht : takerIn K C name = some none) (hh : hasDictIn K C = true) (hl : (getL name es).isSome = true)
    (e : (putL name (PyData.keyHash w.params name) (.str name s.toks) v es, putN name es n) = (es', n')) (hz : es'.length ≤ 1000)
    (h : ∀ h', Heap.SameBut dx s.heap h' → h'.get? dx = some (dictOf es' n') → R (.ok (.ret .none)) { s with heap := h', toks := s.toks + 1 }) :
    codeAny (MM w) A (.call (.builtin "object.__setattr__") ⟨[.ref x, .str name tk, v], []⟩) R s := by
  refine osa_open X I hp ht fun b => ?_
  obtain ⟨cd, hc, hd'⟩ := any_some hh
  obtain ⟨e1, e2⟩ := Prod.mk.inj e
  have e3 : Obj.putName name (PyData.keyHash w.params name) (.str name s.toks) v (dictOf es n) = dictOf es' n' := by rw [putName_dict, e1, e2]
  have D' : (s.heap.update dx (Obj.putName name (PyData.keyHash w.params name) (.str name s.toks) v)).get? dx = some (dictOf es' n') := e3 ▸ Heap.get?_update_self _ D (by rw [e3]; rfl)
  obtain ⟨hx, hcl, hn, -⟩ := I
  obtain ⟨oc, odi, oda, osl⟩ := ox
  dsimp only at hcl hd
  subst hcl hd
  refine wpAny_bind (wpAny_pure (wpAny_bind (wpAny_bind (wpAny_loadPart hx (wpAny_bind ((looks_clsIn X hc).here ?_))))))
  rw [hd']
  refine wpAny_pure (a := some dx) (wpAny_bind (wpAny_pure (wpAny_bind ?_)))
  unfold nsSet
  refine wpAny_bind (wpAny_bind (wpAny_askSetting (wpAny_pure (wpAny_bind (wpAny_mkText (wpAny_bind (wpAny_loadPart D ?_)))))))
  dsimp only [dictOf]
  have c : (!es.toArray.any (·.key.isStr name) && es.toArray.any (·.refKey)) = false := by
    rw [← Array.any_toList, ← Array.any_toList]
    unfold getL at hl
    split at hl
    · rename_i en he
      rw [List.any_eq_true.mpr ⟨en, List.mem_of_find?_eq_some he, List.find?_some he⟩]; rfl
    · split at hl
      · cases hl
      · rename_i z; rw [Bool.not_eq_true] at z; rw [show es.toArray.toList = es from rfl, z, Bool.and_false]
  rw [aRefKeyMayBeTheName_at, c]
  refine wpAny_updatePart D ?_
  refine wpAny_bind (wpAny_lookBehind D' (by dsimp only [dictOf]; exact pastItsLine_dict (by rw [List.size_toArray, sizeLine_eq]; exact sz (by assumption) rfl)) ?_)
  exact wpAny_pure (h _ (Heap.SameBut.update ..) D')
structure OwnOk (w : World) (C : Addr) (name : Str) : Prop where
  g : plainGet (KK w) C name = true
  d : hasDictIn (KK w) C = true
  a : ∃ attr, findIn (KK w) (.ref C) name = some attr ∧ noGet (KK w) attr = true
  s : findIn (KK w) (.ref C) "__setattr__" = some (some (.builtin "object.__setattr__"))
  p : plainOver (KK w) C = true
  t : takerIn (KK w) C name = some none
structure MethOk (w : World) (C : Addr) (name : Str) (f : Addr) : Prop where
  g : plainGet (KK w) C name = true
  a : findIn (KK w) (.ref C) name = some (some (.ref f))
  t : isFn (KK w) (.ref f) = true
structure PropOk (w : World) (C : Addr) (name : Str) (p f : Addr) : Prop where
  g : plainGet (KK w) C name = true
  d : hasDictIn (KK w) C = true
  a : findIn (KK w) (.ref C) name = some (some (.ref p))
  n : specialIn (KK w) (.ref p) "__get__" = some (some (.builtin "property.__get__"))
  t : takesIn (KK w) (.ref p) = some true
  r : ∃ rest, recIn (KK w) p "property" = some (.ref f :: rest)
section
variable {c : Fx} {n : Nat} {sc : Scope} {m : Loc} {σ σ' : Sto} {x d C : Addr} {kvs : List (Str × Value)} {name : Str} {v : Value} {s : Shared}
theorem Sr0.inst {w : World} {os : OsState} {g : Heap} (z : Sr0 w os g σ s) (hx : (x, .inst C d) ∈ σ) (hd : (d, .idict kvs) ∈ σ) :
    ∃ es k, InstAt s.heap x ⟨.ref C, some d, .plain, #[]⟩ C (some (dictOf es k)) ∧ s.heap.get? d = some (dictOf es k) ∧ EntsIs w.params kvs es ∧ (kvs.map (·.1)).Nodup := by
  obtain ⟨o, ho, rfl⟩ := z.at hx
  obtain ⟨o', ho', nd, es, k, rfl, he⟩ := z.at hd
  exact ⟨es.toList, k, ⟨ho, rfl, rfl, ho'⟩, ho', he, nd⟩
theorem g_own {Q : Value → Loc → Sto → Prop} (ok : c.Ok n) (T : OwnOk c.w C name) (hx : (x, .inst C d) ∈ σ) (hd : (d, .idict kvs) ∈ σ) (hl : kvgetR kvs name = some v) (hv : ∀ i, v ≠ .builtin i) (h : Q v m σ) : Wo1 c Teq (fun u => getAttr u name true) (.ref x) m σ Q := by
  intro u t s hs
  rw [t.ref_inv]
  obtain ⟨es, k, I, D, he, nd⟩ := hs.inst (.tail _ hx) (.tail _ hd)
  have key := ents_get (x := name) he
  rw [hl] at key
  obtain ⟨v', h1, h2⟩ := key
  obtain ⟨attr, ha, hn⟩ := T.a
  refine get_value (hs.bg ok.bg).kk I (plainGet_of T.g).1 (findObj_own T.d ha hn h1) ?_ ⟨v, m, σ, h2, h, hs.toks _⟩
  cases v' with
  | builtin i => exact (hv i h2.symm.builtin_inv).elim
  | _ => rfl
theorem g_meth {f : Addr} {pl : Sem Bool} {P : Value → List Value → Loc → Sto → Prop} (ok : c.Ok n) (T : MethOk c.w C name f) (hx : (x, .inst C d) ∈ σ) (hd : (d, .idict kvs) ∈ σ) (hl : kvgetR kvs name = none) (h : P (.ref f) [.ref x] m σ) : Wo1 c MRel (fun u => getMethod u name pl) (.ref x) m σ (MQ P) := by
  intro u t s hs
  rw [t.ref_inv]
  obtain ⟨es, k, I, D, he, nd⟩ := hs.inst (.tail _ hx) (.tail _ hd)
  have key := ents_get (x := name) he
  rw [hl] at key
  exact method_fn (hs.bg ok.bg).kk I (plainGet_of T.g).1 (plainGet_of T.g).2 T.a (beq_iff_eq.mp T.t) (by show (lookIn name (dictOf es k)).map _ = _; rw [lookIn_dict, key]; rfl) ⟨(.ref f, [.ref x]), m, σ, ⟨.same _, .cons (.same _) .nil⟩, h, hs.toSr0⟩
theorem g_prop {p f : Addr} {Q : Value → Loc → Sto → Prop} (ok : c.Ok (n + 1)) (T : PropOk c.w C name p f) (hx : (x, .inst C d) ∈ σ) (hd : (d, .idict kvs) ∈ σ) (h : Fn c.w c.os n (.ref f) [.ref x] [] σ (fun v σ' => (∀ i, v ≠ .builtin i) ∧ Q v m σ')) : Wo1 c Teq (fun u => getAttr u name true) (.ref x) m σ Q := by
  intro u t s hs
  rw [t.ref_inv]
  obtain ⟨es, k, I, D, he, nd⟩ := hs.inst (.tail _ hx) (.tail _ hd)
  obtain ⟨cd, hc, _⟩ := any_some T.d
  obtain ⟨rest, hr⟩ := T.r
  have X := (hs.bg ok.bg).kk
  have hs' : Sr c.w c.os c.g ([(c.L, .ns m)] ++ σ) s := hs
  obtain ⟨g', k1, k2, k3, k4⟩ := hs'.hr.frame
  refine get_bind X I (plainGet_of T.g).1 (findObj_data (by rw [hc]; rfl) T.a T.n T.t) (plainGet_of T.g).2 (wpAny_call (prop_get (s := { s with toks := s.toks + 1 }) X hr ?_))
  have room := ok.room
  refine codeAny_mono (h c.A.in1 g' (fun e s' => wpAny (model PG c.w) c.A (noteIf true (.ref x) (.str name s.toks) e) (fun _ s'' => c.E e s'') c.E s') { s with toks := s.toks + 1 } [.ref x] [] (ok.bg.keeps k1) (by show Room n c.A.in1; unfold Room at *; unfold Around.in1; dsimp only; omega) ok.hh (.cons (.same _) .nil) .nil ⟨⟨k2, hs.gens, hs.os⟩, Nat.le_succ_of_le hs.tk⟩) fun r s' hh => ?_
  rcases r with e | (v | _ | _ | _)
  · exact hh
  all_goals first
    | exact hh.elim
    | skip
  rename_i v
  obtain ⟨v', σ', h1, ⟨h2, h3⟩, h4⟩ := hh
  have ho : handedOut v = pure v := handedOut_of (by
    cases v with
    | builtin i => exact (h2 i h1.symm.builtin_inv).elim
    | _ => rfl)
  show wpAny _ _ (handedOut v) _ _ _
  rw [ho]
  exact wpAny_pure ⟨v', m, σ', h1, h3, ⟨k4 _ _ h4.hr, h4.gens, h4.os⟩⟩
theorem s_own {v : Value} {Q : Unit → Loc → Sto → Prop} (ok : c.Ok n) (T : OwnOk c.w C name) (hx : (x, .inst C d) ∈ σ) (hp : Put σ d (.idict kvs) (.idict (kvsetR kvs name v)) σ') (hz : kvs.length < 1000) (h : Q () m σ') : Wo1 c (fun (_ _ : Unit) => True) (fun u => setAttr (.ref x) name u) v m σ Q := by
  intro u t s hs
  have hd := hp.mem
  obtain ⟨es, k, I, D, he, nd⟩ := hs.inst (.tail _ hx) (.tail _ hd)
  have X := (hs.bg ok.bg).kk
  refine set_plain X I T.s (osa_own (s := { s with toks := s.toks + 1 }) D X I rfl T.p T.t T.d ?_ rfl ?_ fun h' hsb hg => ?_)
  · have key := ents_get (x := name) he
    cases q : kvgetR kvs name with
    | some v => rw [q] at key; obtain ⟨v', h1, _⟩ := key; rw [h1]; rfl
    | none => rw [q] at key; rw [key]; rfl
  · have := ents_len he
    exact Nat.le_trans (putL_len _ _ _ _ es) (by omega)
  · refine ⟨(), m, σ', trivial, h, ?_⟩
    exact hs.put (y := .idict (kvsetR kvs name v)) (Put.there hp) hsb hg ⟨(kvsetR_keys nd).1, _, _, rfl, by simpa using ents_put t he⟩ _
end
inductive CK where
  | own
  | meth (f : Addr)
  | prop (p f : Addr)
noncomputable def memS : List Str → Str → Bool
  | [], _ => false
  | y :: r, x => match y == x with | true => true | false => memS r x
noncomputable def lexOwn : List Str := ["instream", "infile", "posix", "eof", "commenters", "wordchars", "whitespace", "whitespace_split", "quotes", "escape", "escapedquotes", "state", "pushback", "lineno", "debug", "token", "filestack", "source", "_punctuation_chars"].map Str.ofString
noncomputable def sioOwn : List Str := ["_StringIO__newline", "_StringIO__buf", "_StringIO__pos"].map Str.ofString
noncomputable def asc (l : List (Str × CK)) (x : Str) : Option CK := match l with
  | [] => none
  | p :: r => match p.1 == x with | true => some p.2 | false => asc r x
noncomputable def lexTab : List (Str × CK) := lexOwn.map (fun x => (x, CK.own)) ++ [(N "get_token", .meth 801), (N "read_token", .meth 808), (N "punctuation_chars", .prop 772 771)]
noncomputable def sioTab : List (Str × CK) := sioOwn.map (fun x => (x, CK.own)) ++ [(N "_StringIO__translated", .meth 482), (N "_StringIO__check", .meth 489), (N "read", .meth 651)]
noncomputable def ckind (C : Addr) (x : Str) : Option CK := if Nat.beq C 840 then asc lexTab x else if Nat.beq C 705 then asc sioTab x else none
noncomputable def ownOk? (w : World) (C : Addr) (x : Str) : Bool :=
  plainGet (KK w) C x && hasDictIn (KK w) C && (match findIn (KK w) (.ref C) x with | some attr => noGet (KK w) attr | none => false) && (findIn (KK w) (.ref C) "__setattr__" == some (some (.builtin "object.__setattr__"))) && plainOver (KK w) C && (takerIn (KK w) C x == some none)
noncomputable def methOk? (w : World) (C : Addr) (x : Str) (f : Addr) : Bool := plainGet (KK w) C x && (findIn (KK w) (.ref C) x == some (some (.ref f))) && isFn (KK w) (.ref f)
noncomputable def propOk? (w : World) (C : Addr) (x : Str) (p f : Addr) : Bool := plainGet (KK w) C x && hasDictIn (KK w) C && (findIn (KK w) (.ref C) x == some (some (.ref p))) && (specialIn (KK w) (.ref p) "__get__" == some (some (.builtin "property.__get__"))) && (takesIn (KK w) (.ref p) == some true) && (match recIn (KK w) p "property" with | some (.ref g :: _) => g == f | _ => false)
noncomputable def ckOk? (w : World) (C : Addr) (p : Str × CK) : Bool := match p.2 with
  | .own => ownOk? w C p.1
  | .meth f => methOk? w C p.1 f
  | .prop q f => propOk? w C p.1 q f
theorem lexTab_ok (w : World) : lexTab.all (ckOk? w 840) = true := by kernel_rfl
theorem sioTab_ok (w : World) : sioTab.all (ckOk? w 705) = true := by kernel_rfl
theorem asc_mem {x : Str} {k : CK} : ∀ {l : List (Str × CK)}, asc l x = some k → (x, k) ∈ l
  | p :: r, h => by
    unfold asc at h
    split at h
    · next e => cases h; cases eq_of_beq e; exact .head _
    · exact .tail _ (asc_mem h)
theorem ck_ok {w : World} {C : Addr} {x : Str} {k : CK} (h : ckind C x = some k) : ckOk? w C (x, k) = true := by
  unfold ckind at h
  split at h
  · next e => cases Nat.eq_of_beq_eq_true e; exact List.all_eq_true.mp (lexTab_ok w) _ (asc_mem h)
  · split at h
    · next e => cases Nat.eq_of_beq_eq_true e; exact List.all_eq_true.mp (sioTab_ok w) _ (asc_mem h)
    · cases h
theorem own_of {w : World} {C : Addr} {x : Str} (h : ckind C x = some .own) : OwnOk w C x := by
  have := ck_ok (w := w) h
  simp only [ckOk?, ownOk?, Bool.and_eq_true, beq_iff_eq] at this
  obtain ⟨⟨⟨⟨⟨h1, h2⟩, h3⟩, h4⟩, h5⟩, h6⟩ := this
  refine ⟨h1, h2, ?_, h4, h5, h6⟩
  split at h3
  · next e => exact ⟨_, e, h3⟩
  · cases h3
theorem meth_of {w : World} {C f : Addr} {x : Str} (h : ckind C x = some (.meth f)) : MethOk w C x f := by
  have := ck_ok (w := w) h
  simp only [ckOk?, methOk?, Bool.and_eq_true, beq_iff_eq] at this
  obtain ⟨⟨h1, h2⟩, h3⟩ := this
  exact ⟨h1, h2, h3⟩
theorem prop_of {w : World} {C p f : Addr} {x : Str} (h : ckind C x = some (.prop p f)) : PropOk w C x p f := by
  have := ck_ok (w := w) h
  simp only [ckOk?, propOk?, Bool.and_eq_true, beq_iff_eq] at this
  obtain ⟨⟨⟨⟨⟨h1, h2⟩, h3⟩, h4⟩, h5⟩, h6⟩ := this
  refine ⟨h1, h2, h3, h4, h5, ?_⟩
  split at h6
  · next e => cases eq_of_beq h6; exact ⟨_, e⟩
  · cases h6
theorem Picks.refl (σ : Sto) : Picks σ σ := Picks.of_perm (τ := []) (by rw [List.append_nil])
theorem Picks.trans {σ φ ψ : Sto} (h : Picks σ φ) (k : Picks φ ψ) : Picks σ ψ := by
  obtain ⟨τ, h⟩ := h
  obtain ⟨τ', k⟩ := k
  exact Picks.of_perm (τ := τ' ++ τ) (by rw [← List.append_assoc]; exact (k.perm.append_right _).trans h.perm)
theorem Picks.tail {σ : Sto} {p : Addr × AO} : Picks (p :: σ) σ := Picks.of_perm (τ := [p]) (List.perm_append_comm)
noncomputable def partI : V → Option (Option Int × Bool)
  | .none => some (none, true)
  | .int f i => some (some i, f)
  | _ => none
theorem partI_ok {ρ : Nat → Addr} {v : V} {p : Option Int × Bool} (h : partI v = some p) : Part (v.re ρ) p.1 := by
  cases v <;> simp only [partI] at h <;> first | (cases h; done) | (cases h; first | exact .none | exact .int _)
section
variable {c : Fx} {ρ : Nat → Addr} {st : St} {k : K1} {n : Nat}
theorem o_lcutR {c : Fx} {m : Loc} {σ : Sto} {l : Addr} {xs : List Value} {Q : Value → Loc → Sto → Prop} {value slice : Expr} {a : Addr} {lo hi : Option Int} {v v' : Value} {o ol : Obj} {zs : List Value} (hm : (l, .obj ol) ∈ σ) (hol : ol.cls = .type "list" ∧ ∃ arr n, ol.data = .seq arr n ∧ TeqL xs arr.toList) (ho : ∃ t t', Teq v t ∧ Teq v' t' ∧ o = ({ cls := .type "slice", data := .fields #[t, t', .none] } : Obj)) (ha : (a, .obj o) ∈ σ) (p : Part v lo) (p' : Part v' hi)
    (hz : ∀ arr : Array Value, TeqL xs arr.toList → TeqL zs (slicePick arr lo hi none).toList) (hsz : xs.length ≤ sizeLine) (h : ∀ b, Q (.ref b) m ((b, .list zs) :: σ)) : Wo2 c Teq (subscriptTail value slice) (.ref l) (.ref a) m σ Q := by
  intro u u' t t' s hs
  rw [t.ref_inv, t'.ref_inv]
  obtain ⟨hcls, arr, k, hdata, ht⟩ := hol
  obtain ⟨o1, ho1, e1⟩ := hs.at (.tail _ hm)
  have e1 : o1 = _ := e1
  subst e1
  have hL : s.heap.IsList l arr := ⟨_, ho1, hcls, k, hdata⟩
  have hsz' : arr.size = xs.length := by simpa using ht.length.symm
  obtain ⟨t1, t2, e1, e2, rfl⟩ := ho
  obtain ⟨o', ho', e⟩ := hs.at (.tail _ ha)
  have e : o' = _ := e
  subst e
  refine sub_tail hL.typeIs PySem.F.slot_list_getitem.lookup (wpAny_getItem_list_slice hL ⟨_, ho', rfl, rfl⟩ (p.is e1) (p'.is e2) .none (by simp) ?_ (by omega))
  exact ⟨_, m, _, .same _, h _, hs.new2 (x := .list zs) rfl ⟨_, _, rfl, hz arr ht⟩ _⟩
theorem cutV_ok {a : V} {lo hi : Option Int} {fl : Bool} {value slice : Expr} {v v' : Value} {o : Obj} {l : Addr} (h : cutV a lo hi fl st k) (ho : ∃ t t', Teq v t ∧ Teq v' t' ∧ o = ({ cls := .type "slice", data := .fields #[t, t', .none] } : Obj)) (p : Part v lo) (p' : Part v' hi) :
    Wo2 c Teq (subscriptTail value slice) (a.re ρ) (.ref l) (mre ρ st.m) ((l, .obj o) :: st.sto c.cl ρ) (Post c V.re st.nx ρ k) := by
  have drop1 : ∀ b m' σ', (∃ k' : K1, b = b ∧ σ' = (l, AO.obj o) :: st.sto c.cl ρ ∧ Post c V.re st.nx ρ k b m' (st.sto c.cl ρ)) → ∃ φ, Picks σ' φ ∧ Post c V.re st.nx ρ k b m' φ := by
    rintro b m' σ' ⟨_, _, rfl, hp⟩
    exact ⟨_, Picks.tail, hp⟩
  have drop2 : ∀ {o' : O}, alloc o' st k → ∀ b m' σ', (∃ a, b = Value.ref a ∧ m' = mre ρ st.m ∧ σ' = (a, o'.re ρ) :: (l, AO.obj o) :: st.sto c.cl ρ) → ∃ φ, Picks σ' φ ∧ Post c V.re st.nx ρ k b m' φ := by
    rintro o' ha b m' σ' ⟨a, rfl, rfl, rfl⟩
    obtain ⟨φ, h1, h2⟩ := alloc_ok (c := c) (ρ := ρ) ha a
    exact ⟨φ, Picks.trans (Picks.of_perm (τ := [(l, AO.obj o)]) (by show ((a, O.re ρ o') :: (St.sto c.cl ρ st ++ [(l, AO.obj o)])).Perm _; exact .cons _ List.perm_append_comm)) h1, h2⟩
  cases a with
  | str f x =>
    obtain ⟨h1, h⟩ := need_ok h
    refine Wo2.gc (o_scut ho (.head _) p p' h1 ?_) drop1
    exact ⟨k, rfl, rfl, Post.here (b := V.str _ _) h⟩
  | loc j =>
    obtain ⟨o', e1, h⟩ := getO_ok h
    cases o' with
    | «strs» xs =>
      cases lo with
      | none =>
        cases hi with
        | none => exact h.elim
        | some b =>
          obtain ⟨h1, h2, h⟩ := need_ok h
          obtain ⟨b, rfl⟩ : ∃ b' : Nat, b = b' := ⟨b.toNat, by omega⟩
          refine Wo2.gc (o_lcut (xs := List.map S xs) (zs := List.map S (xs.take b)) (.tail _ (St.get_mem e1)) ho (.head _) p p' (fun arr ha => by rw [List.map_take]; exact cut_upto ha) (by simpa using h2) fun a => ⟨a, rfl, rfl, rfl⟩) (drop2 h)
      | some b =>
        cases hi with
        | some _ => exact h.elim
        | none =>
          obtain ⟨h1, h2, h⟩ := need_ok h
          obtain ⟨b, rfl⟩ : ∃ b' : Nat, b = b' := ⟨b.toNat, by omega⟩
          refine Wo2.gc (o_lcut (xs := List.map S xs) (zs := List.map S (xs.drop b)) (.tail _ (St.get_mem e1)) ho (.head _) p p' (fun arr ha => by rw [List.map_drop]; exact cut_from ha) (by simpa using h2) fun a => ⟨a, rfl, rfl, rfl⟩) (drop2 h)
    | «ints» xs =>
      obtain ⟨b, rfl, rfl, h⟩ := cutTo_ok h
      obtain ⟨h1, h2, h⟩ := need_ok h
      obtain ⟨b, rfl⟩ : ∃ b' : Nat, b = b' := ⟨b.toNat, by omega⟩
      refine Wo2.gc (o_lcut (xs := List.map I xs) (zs := List.map I (xs.take b)) (.tail _ (St.get_mem e1)) ho (.head _) p p' (fun arr ha => by rw [List.map_take]; exact cut_upto ha) (by simpa using h2) fun a => ⟨a, rfl, rfl, rfl⟩) (drop2 h)
    | read ol xs =>
      obtain ⟨b, rfl, rfl, h⟩ := cutTo_ok h
      obtain ⟨h1, ⟨h0, h2⟩, h⟩ := need_ok h
      obtain ⟨b, rfl⟩ : ∃ b' : Nat, b = b' := ⟨b.toNat, by omega⟩
      refine Wo2.gc (o_lcutR (xs := List.map I xs) (zs := List.map I (xs.take b)) (.tail _ (St.get_mem e1)) h0 ho (.head _) p p' (fun arr ha => by rw [List.map_take]; exact cut_upto ha) (by simpa using h2) fun a => ⟨a, rfl, rfl, rfl⟩) (drop2 h)
    | _ => exact h.elim
  | _ => exact h.elim
end
noncomputable def one_ (vs : List V) (p : V → Prop) : Prop := match vs with
  | [] => False
  | a :: r => (match r with | [] => p a | _ :: _ => False)
theorem one_ok_ {vs : List V} {p : V → Prop} (h : one_ vs p) : ∃ a, vs = [a] ∧ p a := by
  cases vs with
  | nil => exact h.elim
  | cons a r =>
    cases r with
    | nil => exact ⟨a, rfl, h⟩
    | cons _ _ => exact h.elim
noncomputable def two_ (vs : List V) (p : V → V → Prop) : Prop := match vs with
  | [] => False
  | a :: r => one_ r fun b => p a b
theorem two_ok_ {vs : List V} {p : V → V → Prop} (h : two_ vs p) : ∃ a b, vs = [a, b] ∧ p a b := by
  cases vs with
  | nil => exact h.elim
  | cons a r =>
    obtain ⟨b, rfl, h⟩ := one_ok_ h
    exact ⟨a, b, rfl, h⟩
noncomputable def isTy (v : V) (p : TY → Prop) : Prop := match v with
  | .typ t => p t
  | _ => False
theorem isTy_ok {v : V} {p : TY → Prop} (h : isTy v p) : ∃ t, v = .typ t ∧ p t := by
  cases v with
  | typ t => exact ⟨t, rfl, h⟩
  | _ => exact h.elim
noncomputable def lenV (v : V) (st : St) (k : K1) : Prop := match v with
  | .str f x => need f (x.length ≤ sizeLine) (k (.int f x.length) st)
  | .loc i => getK st i (fun xs => xs.length ≤ sizeLine ∧ k (.int false xs.length) st) fun xs => xs.length ≤ sizeLine ∧ k (.int false xs.length) st
  | _ => False
noncomputable def isT (t : TY) (p q : Prop) : Prop := match t with
  | .str => p
  | .bytes => q
  | _ => False
theorem isT_ok {t : TY} {p q : Prop} (h : isT t p q) : (t = .str ∧ p) ∨ t = .bytes ∧ q := by
  cases t with
  | str => exact .inl ⟨rfl, h⟩
  | bytes => exact .inr ⟨rfl, h⟩
  | _ => exact h.elim
noncomputable def biV (f : BI) (vs : List V) (st : St) (k : K1) : Prop :=
  match f with
  | .len => one_ vs fun v => lenV v st k
  | .isinstance => two_ vs fun a b => isS a fun _ _ => isTy b fun t => isT t (k (.bool true true) st) (k (.bool true false) st)
  | .issubclass => two_ vs fun a b => isTy a fun t => isT t (isL b fun i => getT st i fun us => two_ us fun c d => isTy c fun t1 => isT t1 (isTy d fun t2 => isT t2 False (k (.bool true true) st)) False) False
  | .startswith => two_ vs fun a b => strs2 a b fun f x y => k (.bool f (Txt.startswith x y)) st
  | .endswith => two_ vs fun a b => strs2 a b fun f x y => k (.bool f (Txt.endswith x y)) st
  | .split => two_ vs fun a b => isS a fun f x => isS b fun g y => need g ((y.length == 0) = false) (need f (x.length + 2 ≤ sizeLine) (alloc (.strs (Txt.split x y)) st k))
  | .join => two_ vs fun a b => isS a fun f x => isL b fun i => getS st i fun xs => JoinOk x xs = true ∧ k (.str false (Txt.join x xs)) st
  | .append => two_ vs fun a b => isL a fun i => isS b fun f x => getS st i fun xs => xs.length ≤ sizeLine ∧ k .none (st.put i (.strs (xs ++ [x])))
  | .pop => one_ vs fun a => isL a fun i => getS st i fun xs => (xs ≠ [] ∧ xs.length ≤ sizeLine) ∧ k (.str false (xs.getLastD (N ""))) (st.put i (.strs xs.dropLast))
  | _ => False
theorem last_split {α : Type} {xs : List α} {d : α} (h : xs ≠ []) : xs = xs.dropLast ++ [xs.getLastD d] := by
  rw [List.getLastD_eq_getLast?, List.getLast?_eq_some_getLast h]
  exact (List.dropLast_concat_getLast h).symm
section
variable {c : Fx} {ρ : Nat → Addr} {st : St} {k : K1} {n : Nat}
theorem biV_ok {f : BI} {vs : List V} (h : biV f vs st k) : Wcall c (.builtin f.id) (vs.map (V.re ρ)) (mre ρ st.m) (st.sto c.cl ρ) (Post c V.re st.nx ρ k) := by
  cases f with
  | len =>
    obtain ⟨v, rfl, h⟩ := one_ok_ h
    cases v with
    | str f x => obtain ⟨h1, h⟩ := need_ok h; exact c_lens h1 (Post.here (b := V.int _ _) h)
    | loc i =>
      rcases getK_ok h with ⟨xs, e1, h⟩ | ⟨xs, e1, h⟩
      · exact c_lenl (xs := List.map S _) (St.get_mem e1) (by simpa using h.1) (by rw [List.length_map]; exact Post.here (b := V.int _ _) h.2)
      · exact c_lenl (xs := List.map I _) (St.get_mem e1) (by simpa using h.1) (by rw [List.length_map]; exact Post.here (b := V.int _ _) h.2)
    | _ => exact h.elim
  | isinstance =>
    obtain ⟨a, b, rfl, h⟩ := two_ok_ h
    obtain ⟨f, x, rfl, h⟩ := isS_ok h
    obtain ⟨t, rfl, h⟩ := isTy_ok h
    rcases isT_ok h with ⟨rfl, h⟩ | ⟨rfl, h⟩
    · exact c_isi_str (Post.here (b := V.bool _ _) h)
    · exact c_isi_bytes (Post.here (b := V.bool _ _) h)
  | issubclass =>
    obtain ⟨a, b, rfl, h⟩ := two_ok_ h
    obtain ⟨t, rfl, h⟩ := isTy_ok h
    rcases isT_ok h with ⟨rfl, h⟩ | ⟨rfl, h⟩
    · obtain ⟨i, rfl, h⟩ := isL_ok h
      obtain ⟨us, e1, h⟩ := getT_ok h
      obtain ⟨c, d, rfl, h⟩ := two_ok_ h
      obtain ⟨t1, rfl, h⟩ := isTy_ok h
      rcases isT_ok h with ⟨rfl, h⟩ | ⟨rfl, h⟩
      · obtain ⟨t2, rfl, h⟩ := isTy_ok h
        rcases isT_ok h with ⟨rfl, h⟩ | ⟨rfl, h⟩
        · exact h.elim
        · exact c_issub (St.get_mem e1) (Post.here (b := V.bool _ _) h)
      · exact h.elim
    · exact h.elim
  | startswith =>
    obtain ⟨a, b, rfl, h⟩ := two_ok_ h
    obtain ⟨f, x, g, y, rfl, rfl, h⟩ := strs2_ok (show strs2 a b fun f x y => k (.bool f (Txt.startswith x y)) st from h)
    exact c_startswith (Post.here (b := V.bool _ _) h)
  | endswith =>
    obtain ⟨a, b, rfl, h⟩ := two_ok_ h
    obtain ⟨f, x, g, y, rfl, rfl, h⟩ := strs2_ok (show strs2 a b fun f x y => k (.bool f (Txt.endswith x y)) st from h)
    exact c_endswith (Post.here (b := V.bool _ _) h)
  | split =>
    obtain ⟨a, b, rfl, h⟩ := two_ok_ h
    obtain ⟨f, x, rfl, h⟩ := isS_ok h
    obtain ⟨g, y, rfl, h⟩ := isS_ok h
    obtain ⟨h1, h⟩ := need_ok h
    obtain ⟨h2, h⟩ := need_ok h
    exact Wcall.gc (c_split h1 h2 fun b => ⟨b, rfl, rfl, rfl⟩) (ladd_ok h)
  | join =>
    obtain ⟨a, b, rfl, h⟩ := two_ok_ h
    obtain ⟨f, x, rfl, h⟩ := isS_ok h
    obtain ⟨i, rfl, h⟩ := isL_ok h
    obtain ⟨xs, e1, h⟩ := getS_ok h
    exact c_join (St.get_mem e1) h.1 (Post.here (b := V.str _ _) h.2)
  | append =>
    obtain ⟨a, b, rfl, h⟩ := two_ok_ h
    obtain ⟨i, rfl, h⟩ := isL_ok h
    obtain ⟨f, x, rfl, h⟩ := isS_ok h
    obtain ⟨xs, e1, h⟩ := getS_ok h
    refine c_append (xs := List.map S xs) (σ' := (st.put i (O.strs (xs ++ [x]))).sto c.cl ρ) (?_ : Put _ _ _ _ _) (by simpa using h.1) (Post.here (b := V.none) (st := st.put _ _) h.2)
    have := St.put_put (o' := .strs (xs ++ [x])) (ρ := ρ) (cl := c.cl) e1
    simp only [O.re, List.map_append, List.map_cons, List.map_nil] at this
    exact this
  | pop =>
    obtain ⟨a, rfl, h⟩ := one_ok_ h
    obtain ⟨i, rfl, h⟩ := isL_ok h
    obtain ⟨xs, e1, ⟨h1, h2⟩, h⟩ := getS_ok h
    refine c_pop (xs := List.map S xs.dropLast) (v := S (xs.getLastD (N ""))) (σ' := (st.put i (O.strs xs.dropLast)).sto c.cl ρ) (?_ : Put _ _ _ _ _) ?_ (Post.here (b := V.str _ _) (st := st.put _ _) h)
    · have := St.put_put (o' := .strs xs.dropLast) (ρ := ρ) (cl := c.cl) e1
      have e : List.map S xs.dropLast ++ [S (xs.getLastD (N ""))] = List.map S xs := by
        conv => rhs; rw [last_split (d := N "") h1, List.map_append]
        rfl
      rw [e]; exact this
    · have : xs.length ≠ 0 := fun e => h1 (List.length_eq_zero_iff.mp e)
      rw [List.length_map, List.length_dropLast]; omega
  | _ => exact h.elim
end
section
variable {c : Fx} {n : Nat} {sc : Scope} {m m' : Loc} {σ σ' : Sto} {Q : Value → Loc → Sto → Prop} {x : Str} {v : Value} {pos : Pos}
noncomputable def plainBase : Expr → Bool
  | .Call _ _ _ _ => false
  | _ => true
theorem base_plain {o : Expr} {name : Str} {env : Env} {t : Sem Value} (h : plainBase o = true) : attributeBase o name env t = t := by
  cases o <;> first | rfl | (cases h; done)
theorem We.attr {o : Expr} {name : Str} (hb : plainBase o = true) (h : We c sc o m σ (fun v m1 σ1 => Wo1 c Teq (fun u => getAttr u name true) v m1 σ1 Q)) : We c sc (.Attribute o name pos) m σ Q :=
  fun s hs => Attribute_any_ (wm hs.tk (h s hs) (fun _ s1 v m1 σ1 t1 h1 hs1 => h1 _ t1 s1 hs1) fun _ _ e => e) (by rw [arm_eval_Attribute, base_plain hb])
theorem W1.asgA {o value : Expr} {name : Str} {p' p : Pos} {Q : Flow → Loc → Sto → Prop} (hsw : swapsWith value (some (.Attribute o name p')) p.line (c.env sc) = pure false)
    (h : We c sc value m σ (fun v m1 σ1 => We c sc o m1 σ1 (fun ov m2 σ2 => Wo2 c (fun (_ _ : Unit) => True) (fun a b => setAttr a name b) ov v m2 σ2 (fun _ m3 σ3 => Q .next m3 σ3)))) : W1 c sc (.Assign [.Attribute o name p'] value p) m σ Q :=
  fun s hs => plainObj_wpAny_Assign_Attribute (wm hs.tk (h s hs) (fun _ s1 v m1 σ1 t1 h1 hs1 => wm hs1.tk (h1 s1 hs1) (fun _ s2 ov m2 σ2 t2 h2 hs2 => wpm (h2 _ _ t2 t1 s2 hs2) (fun _ _ _ m3 σ3 _ h3 hs3 => ⟨.next, m3, σ3, .next, h3, hs3⟩) fun _ _ e => e) fun _ _ e => e) fun _ _ e => e) hsw
theorem W1.augA {o value : Expr} {name : Str} {op : Operator} {p' p : Pos} {Q : Flow → Loc → Sto → Prop}
    (h : We c sc o m σ (fun ov m1 σ1 => Wo1 c Teq (fun u => getAttr u name true) ov m1 σ1 (fun old m2 σ2 => We c sc value m2 σ2 (fun v m3 σ3 => Wo2 c Teq (inplaceOp op) old v m3 σ3 (fun r m4 σ4 => Wo2 c (fun (_ _ : Unit) => True) (fun a b => setAttr a name b) ov r m4 σ4 (fun _ m5 σ5 => Q .next m5 σ5)))))) : W1 c sc (.AugAssign (.Attribute o name p') op value p) m σ Q :=
  fun s hs => wpAny_AugAssign_AttributeAny (wm hs.tk (h s hs) (fun _ s1 ov m1 σ1 t1 h1 hs1 => wm hs1.tk (h1 _ t1 s1 hs1) (fun _ s2 old m2 σ2 t2 h2 hs2 => wm hs2.tk (h2 s2 hs2) (fun _ s3 v m3 σ3 t3 h3 hs3 => wm hs3.tk (h3 _ _ t2 t3 s3 hs3) (fun _ s4 r m4 σ4 t4 h4 hs4 => wpm (h4 _ _ t1 t4 s4 hs4) (fun _ _ _ m5 σ5 _ h5 hs5 => ⟨.next, m5, σ5, .next, h5, hs5⟩) fun _ _ e => e) fun _ _ e => e) fun _ _ e => e) fun _ _ e => e) fun _ _ e => e)
theorem We.cell {a : Addr} {Q : Value → Loc → Sto → Prop} (hk : sc.kind = .function) (hl : sc.names.lookup x = some .cell) (hd : (x == ("__debug__" : Str)) = false) (hc : c.cl.lookup x = some a) (hm : (a, .cell (some v)) ∈ σ) (h : Q v m σ) : We c sc (.Name x pos) m σ Q := by
  intro s hs
  obtain ⟨o, ho, v', hv, hr⟩ := hs.at (.tail _ hm)
  cases hr with
  | some t => exact wpAny_Name (wpAny_loadName_cell hk hl hc ⟨_, ho, hv⟩ ⟨v, m, σ, t, h, hs.toSr0⟩) hd
theorem Wst.cell {a : Addr} {ov : Option Value} {Q : Unit → Loc → Sto → Prop} (hk : sc.kind = .function) (hl : sc.names.lookup x = some .cell) (hc : c.cl.lookup x = some a) (hp : Put σ a (.cell ov) (.cell (some v)) σ') {u : Value} (ht : Teq v u) (h : Q () m σ') : WT c Eq (storeName (c.env sc) x u) m σ Q := by
  intro s hs
  obtain ⟨o, ho, v', hv, hr⟩ := hs.at (.tail _ hp.mem)
  refine wpAny_storeName_cell hk hl hc ⟨o, ho, hv⟩ fun h' ⟨o', ho', hd'⟩ hsb => ⟨(), m, σ', rfl, h, ?_⟩
  exact hs.put (y := .cell (some v)) (Put.there hp) hsb ho' ⟨_, hd', .some ht⟩ s.toks
end
theorem f_pchars (w : World) : FOk w 771 (memSt 41 1) := by constructor <;> kernel_rfl
theorem pchars_shape : ∃ p1 p2 p3, bodyOf (memSt 41 1) = [.Return (some (.Attribute (.Name (N "self") p1) (N "_punctuation_chars") p2)) p3] := ⟨_, _, _, by with_unfolding_all rfl⟩
theorem pchars_ok (w : World) (os : OsState) (n : Nat) {x d : Addr} {kvs : List (Str × Value)} {v : Value} (hl : kvgetR kvs (N "_punctuation_chars") = some v) (hv : ∀ i, v ≠ .builtin i) :
    Fn w os (n + 1) (.ref 771) [.ref x] [] [(x, .inst 840 d), (d, .idict kvs)] (fun u σ' => u = v ∧ σ' = [(x, .inst 840 d), (d, .idict kvs)]) := by
  refine Fn.top0 (m₀ := [(N "self", some (.ref x))]) (f_pchars w) (by kernel_rfl) ?_ ?_
  · intro vs hv
    obtain ⟨v1, rfl, t1⟩ := hv.inv1
    exact ⟨[(N "self", v1)], by kernel_rfl, by kernel_rfl, .yes (by kernel_rfl) t1 .nil⟩
  · rintro c rfl rfl _ ok
    obtain ⟨p1, p2, p3, e⟩ := pchars_shape
    rw [e]
    refine Wx.cons (W1.ret (We.attr rfl (We.name (by kernel_rfl) (by kernel_rfl) (by kernel_rfl) (.head _) (g_own ok (own_of (by kernel_rfl)) (.head _) (.tail _ (.head _)) hl hv ?_))))
    exact ⟨_, Picks.refl _, rfl, rfl⟩
inductive Fl where
  | next | brk | cont
  | ret (v : V)
noncomputable def Fl.re (ρ : Nat → Addr) : Fl → Flow
  | .next => .next
  | .brk => .brk
  | .cont => .cont
  | .ret v => .ret (v.re ρ)
noncomputable abbrev CT := V → List V → List (Str × V) → St → K1 → Prop
structure Ev where
  e : Expr → St → K1 → Prop
  t : Expr → St → (Bool → St → Prop) → Prop
  s : Stmt → St → (Fl → St → Prop) → Prop
structure Pm where
  C : CT
  sc : Scope
  cn : List Str
  pn : Nat
noncomputable def single {α : Type} (l : List α) (p : α → Prop) : Prop := match l with
  | [] => False
  | a :: r => (match r with | [] => p a | _ :: _ => False)
theorem single_ok {α : Type} {l : List α} {p : α → Prop} (h : single l p) : ∃ a, l = [a] ∧ p a := by
  cases l with
  | nil => exact h.elim
  | cons a r =>
    cases r with
    | nil => exact ⟨a, rfl, h⟩
    | cons b r => exact h.elim
noncomputable def oneone {α β : Type} (l : List α) (m : List β) (p : α → β → Prop) : Prop := single l fun a => single m fun b => p a b
theorem oneone_ok {α β : Type} {l : List α} {m : List β} {p : α → β → Prop} (h : oneone l m p) : ∃ a b, l = [a] ∧ m = [b] ∧ p a b := by
  obtain ⟨a, e1, h⟩ := single_ok h
  obtain ⟨b, e2, h⟩ := single_ok h
  exact ⟨a, b, e1, e2, h⟩
noncomputable def two1 {α : Type} (l : List α) (p : α → α → Prop) : Prop := match l with
  | [] => False
  | a :: r => single r fun b => p a b
theorem two1_ok {α : Type} {l : List α} {p : α → α → Prop} (h : two1 l p) : ∃ a b, l = [a, b] ∧ p a b := by
  cases l with
  | nil => exact h.elim
  | cons a r =>
    obtain ⟨b, rfl, h⟩ := single_ok h
    exact ⟨a, b, rfl, h⟩
noncomputable def sliceK (b : Expr) (p : Option Expr → Option Expr → Prop) (q : Prop) : Prop := match b with
  | .Slice lo hi st _ => (match st with | none => p lo hi | some _ => q)
  | _ => q
theorem sliceK_ok {b : Expr} {p : Option Expr → Option Expr → Prop} {q : Prop} (h : sliceK b p q) : (∃ lo hi ps, b = .Slice lo hi none ps ∧ p lo hi) ∨ q := by
  cases b with
  | Slice lo hi st ps =>
    cases st with
    | none => exact .inl ⟨lo, hi, ps, rfl, h⟩
    | some e => exact .inr h
  | _ => exact .inr h
noncomputable def strK (e : Expr) (p : Str → Prop) (q : Prop) : Prop := match e with
  | .Constant v _ _ => (match v with | .str a => p a | _ => q)
  | _ => q
theorem strK_ok {e : Expr} {p : Str → Prop} {q : Prop} (h : strK e p q) : (∃ a k ps, e = .Constant (.str a) k ps ∧ p a) ∨ q := by
  cases e with
  | Constant v k ps =>
    cases v with
    | str a => exact .inl ⟨a, k, ps, rfl, h⟩
    | _ => exact .inr h
  | _ => exact .inr h
noncomputable def cons2K (l : List Expr) (p : Str → Str → Prop) (q : Prop) : Prop := match l with
  | [] => q
  | e :: r => (match r with
    | [] => q
    | f :: r2 => (match r2 with | [] => strK e (fun a => strK f (fun b => p a b) q) q | _ :: _ => q))
theorem cons2K_ok {l : List Expr} {p : Str → Str → Prop} {q : Prop} (h : cons2K l p q) : (∃ a k1 p1 b k2 p2, l = [.Constant (.str a) k1 p1, .Constant (.str b) k2 p2] ∧ p a b) ∨ q := by
  cases l with
  | nil => exact .inr h
  | cons e r =>
    cases r with
    | nil => exact .inr h
    | cons f r =>
      cases r with
      | cons g r => exact .inr h
      | nil =>
        rcases strK_ok h with ⟨a, k1, p1, rfl, h⟩ | h
        · rcases strK_ok h with ⟨b, k2, p2, rfl, h⟩ | h
          · exact .inl ⟨a, k1, p1, b, k2, p2, rfl, h⟩
          · exact .inr h
        · exact .inr h
noncomputable def nameK (e : Expr) (p : Str → Prop) : Prop := match e with
  | .Name x _ => p x
  | _ => False
theorem nameK_ok {e : Expr} {p : Str → Prop} (h : nameK e p) : ∃ x ps, e = .Name x ps ∧ p x := by
  cases e with
  | Name x ps => exact ⟨x, ps, rfl, h⟩
  | _ => exact h.elim
noncomputable def call1K (it : Expr) (p : Str → Expr → Prop) (q : Prop) : Prop := match it with
  | .Call f args kws _ => (match f with
    | .Name y _ => (match args with
      | [] => q
      | e :: r => (match r with
        | [] => (match kws with | [] => p y e | _ :: _ => q)
        | _ :: _ => q))
    | _ => q)
  | _ => q
theorem call1K_ok {it : Expr} {p : Str → Expr → Prop} {q : Prop} (h : call1K it p q) : (∃ y p1 e p2, it = .Call (.Name y p1) [e] [] p2 ∧ p y e) ∨ q := by
  cases it with
  | Call f args kws p2 =>
    cases f with
    | Name y p1 =>
      cases args with
      | nil => exact .inr h
      | cons e r =>
        cases r with
        | cons e r => exact .inr h
        | nil =>
          cases kws with
          | nil => exact .inl ⟨y, p1, e, p2, rfl, h⟩
          | cons e r => exact .inr h
    | _ => exact .inr h
  | _ => exact .inr h
noncomputable def ascV : List (Str × V) → Str → Option V
  | [], _ => none
  | p :: r, x => match p.1 == x with | true => some p.2 | false => ascV r x
noncomputable def gtab : List (Str × V) := [(N "fspath", .gl 117), (N "_get_sep", .gl 131), (N "join_posixpath", .gl 138), (N "splitroot", .gl 145), (N "normpath", .gl 152), (N "_index", .gl 171), (N "BytesIO", .gl 458), (N "StringIO", .gl 705), (N "shlex", .gl 840), (N "split", .gl 852), (N "_find_unsafe", .gl 853), (N "quote", .gl 860), (N "_law_tour", .gl 867), (N "_law_spell", .gl 874), (N "_law_line", .gl 881), (N "_law_text", .gl 886), (N "deque", .typ .deque)]
noncomputable def btab : List (Str × V) := [(N "len", .bi .len), (N "isinstance", .bi .isinstance), (N "issubclass", .bi .issubclass), (N "max", .bi .max), (N "type", .typ .type), (N "str", .typ .str), (N "bytes", .typ .bytes), (N "int", .typ .int), (N "bool", .typ .bool), (N "list", .typ .list), (N "range", .typ .range), (N "enumerate", .typ .enumerate), (N "object", .typ .object)]
theorem ascV_mem {x : Str} {v : V} : ∀ {l : List (Str × V)}, ascV l x = some v → (x, v) ∈ l
  | p :: r, h => by
    unfold ascV at h
    split at h
    · next e => cases h; cases eq_of_beq e; exact .head _
    · exact .tail _ (ascV_mem h)
theorem fc {α : Type} {p : α → Prop} {a : α} {l : List α} (h : p a) (k : ∀ x ∈ l, p x) : ∀ x ∈ a :: l, p x := by
  intro x hx
  cases hx with
  | head => exact h
  | tail _ hx => exact k x hx
theorem fn {α : Type} {p : α → Prop} : ∀ x ∈ ([] : List α), p x := fun x hx => nomatch hx
theorem gtab_ok {x : Str} {v : V} (ρ : Nat → Addr) (h : ascV gtab x = some v) : GV x (v.re ρ) :=
  have k : ∀ p ∈ gtab, GV p.1 (p.2.re ρ) := fc .vfspath (fc .vUgetUsep (fc .vjoinUposixpath (fc .vsplitroot (fc .vnormpath (fc .vUindex (fc .vBytesIO (fc .vStringIO (fc .vshlex (fc .vsplit (fc .vUfindUunsafe (fc .vquote (fc .vUlawUtour (fc .vUlawUspell (fc .vUlawUline (fc .vUlawUtext (fc .vdeque fn))))))))))))))))
  k _ (ascV_mem h)
theorem btab_ok {x : Str} {v : V} (ρ : Nat → Addr) (h : ascV btab x = some v) : BV x (v.re ρ) :=
  have k : ∀ p ∈ btab, BV p.1 (p.2.re ρ) := fc (by constructor) (fc (by constructor) (fc (by constructor) (fc (by constructor) (fc (by constructor) (fc (by constructor) (fc (by constructor) (fc (by constructor) (fc (by constructor) (fc (by constructor) (fc (by constructor) (fc (by constructor) (fc (by constructor) fn))))))))))))
  k _ (ascV_mem h)
section
variable (P : Pm) (r : Ev)
noncomputable def evName (x : Str) (st : St) (k : K1) : Prop :=
  match x == N "__debug__" with
  | true => False
  | false => match P.sc.names.lookup x with
    | some .local => (match look st.m x with | some v => k v st | none => False)
    | some .cell => chk (memS P.cn x) (match look st.c x with | some v => k v st | none => False)
    | some .globalImplicit => (match ascV gtab x with
      | some v => k v st
      | none => (match ascV btab x with | some v => k v st | none => False))
    | _ => False
noncomputable def isStar : Expr → Bool
  | .Starred _ _ => true
  | _ => false
noncomputable def evArgs : List Expr → St → (List V → St → Prop) → Prop
  | [], st, k => k [] st
  | e :: rest, st, k => chk (!isStar e) (r.e e st fun v st1 => chk (v.ok st1.nx) (evArgs rest st1 fun vs st2 => k (v :: vs) st2))
noncomputable def strMeth (x : Str) : Option BI := if x == N "startswith" then some .startswith else if x == N "endswith" then some .endswith else if x == N "split" then some .split else if x == N "join" then some .join else none
noncomputable def listMeth (x : Str) : Option BI := if x == N "append" then some .append else if x == N "pop" then some .pop else none
noncomputable def optK {α : Type} (o : Option α) (p : α → Prop) : Prop := match o with
  | some a => p a
  | none => False
theorem optK_ok {α : Type} {o : Option α} {p : α → Prop} (h : optK o p) : ∃ a, o = some a ∧ p a := by
  cases o with
  | none => exact h.elim
  | some a => exact ⟨a, rfl, h⟩
noncomputable def getI (st : St) (i : Nat) (p : Nat → Nat → Prop) : Prop := getO st i fun o => match o with
  | .inst C d => p C d
  | _ => False
theorem getI_ok {st : St} {i : Nat} {p : Nat → Nat → Prop} (h : getI st i p) : ∃ C d, st.get i = some (.inst C d) ∧ p C d := by
  obtain ⟨o, e, h⟩ := getO_ok h
  cases o with
  | inst C d => exact ⟨C, d, e, h⟩
  | _ => exact h.elim
noncomputable def getD_ (st : St) (i : Nat) (p : List (Str × V) → Prop) : Prop := getO st i fun o => match o with
  | .dict kvs => p kvs
  | _ => False
theorem getD_ok {st : St} {i : Nat} {p : List (Str × V) → Prop} (h : getD_ st i p) : ∃ kvs, st.get i = some (.dict kvs) ∧ p kvs := by
  obtain ⟨o, e, h⟩ := getO_ok h
  cases o with
  | dict kvs => exact ⟨kvs, e, h⟩
  | _ => exact h.elim
noncomputable def methV (ov : V) (x : Str) (st : St) (k : V → List V → Prop) : Prop :=
  match ov with
  | .str _ _ => optK (strMeth x) fun b => k (.bi b) [ov]
  | .loc i => getO st i fun o => (match o with
    | .strs _ => optK (listMeth x) fun b => k (.bi b) [ov]
    | .inst C d => optK (ckind C x) fun q => getD_ st d fun kvs => (match q with
      | .meth f => (match kvget kvs x with | none => k (.gl f) [ov] | some _ => False)
      | _ => False)
    | _ => False)
  | _ => False
noncomputable def memN : List Nat → Nat → Bool
  | [], _ => false
  | y :: r, x => match Nat.beq y x with | true => true | false => memN r x
noncomputable def callables : List Nat := [117, 131, 138, 145, 152, 171, 458, 705, 840, 852, 860, 867, 874, 881, 886, 801, 808, 482, 489, 651]
noncomputable def callable : V → Bool
  | .bi _ => true
  | .typ _ => true
  | .gl a => match memN callables a with | true => true | false => Nat.beq a 853
  | _ => false
noncomputable def callV (f : V) (vs : List V) (kw : List (Str × V)) (st : St) (k : K1) : Prop :=
  match kw with
  | [] => (match f with
    | .bi b => (match b with
      | .max => P.C (.bi .max) vs [] st k
      | b => biV b vs st k)
    | f => P.C f vs [] st k)
  | p :: r => P.C f vs (p :: r) st k
noncomputable def notBi : V → Bool
  | .bi _ => false
  | _ => true
noncomputable def attrV (ov : V) (x : Str) (st : St) (k : K1) : Prop :=
  isL ov fun i => getI st i fun C d => optK (ckind C x) fun q => getD_ st d fun kvs => match q with
    | .own => optK (kvget kvs x) fun v => chk (notBi v) (k v st)
    | .prop p f => chk (Nat.beq C 840) (chk (Nat.beq f 771) (optK (kvget kvs (N "_punctuation_chars")) fun v => chk (notBi v) (k v st)))
    | _ => False
noncomputable def setV (ov : V) (x : Str) (v : V) (st : St) (k : St → Prop) : Prop :=
  isL ov fun i => getI st i fun C d => optK (ckind C x) fun q => getD_ st d fun kvs => match q with
    | .own => chk (Nat.blt kvs.length 1000) (k (st.put d (.dict (kvset kvs x v))))
    | _ => False
noncomputable def bindN (x : Str) (v : V) (st : St) (k : St → Prop) : Prop :=
  match P.sc.names.lookup x with
  | some .local => (match setl st.m x v with | some m' => k { st with m := m' } | none => False)
  | some .cell => chk (memS P.cn x) (match setl st.c x v with | some c' => k { st with c := c' } | none => False)
  | _ => False
noncomputable def brB (f b : Bool) (k : Bool → Prop) : Prop := match f with | true => k b | false => (b = true → k true) ∧ (b = false → k false)
noncomputable def evAll (op : BoolOp) : List Expr → St → (Bool → St → Prop) → Prop
  | [], st, k => (match op with | .And => k true st | .Or => k false st)
  | e :: rest, st, k => r.t e st fun b st1 => (match op, b with
    | .And, true => evAll op rest st1 k
    | .And, false => k false st1
    | .Or, true => k true st1
    | .Or, false => evAll op rest st1 k)
noncomputable def evPart (e : Option Expr) (st : St) (k : V → St → Prop) : Prop := match e with
  | none => k .none st
  | some e => r.e e st k
noncomputable def cutP (v p q : V) (st : St) (k : K1) : Prop := match partI p, partI q with | some (l, f), some (h, g) => cutV v l h (f && g) st k | _, _ => False
noncomputable def listP (vs : List V) (st : St) (k : K1) : Prop := match V.strs? vs with
  | some l => alloc (.strs l) st k
  | none => (match V.ints? vs with | some l => alloc (.ints l) st k | none => False)
noncomputable def eConst (v : Const) (st : St) (k : K1) : Prop :=
  match v with
  | .int i => k (.int true i) st
  | .str s => k (.str true s) st
  | .none => k .none st
  | .bool b => k (.bool true b) st
  | _ => False
noncomputable def eCall (f : Expr) (args : List Expr) (p : Pos) (st : St) (k : K1) : Prop :=
  match f with
  | .Attribute o x ap => cons2K args (fun a b => match x == N "replace" with
    | true => chk (plainBase o) (chk (Nat.beq ap.endLine p.line) (chk (!(a == b)) (r.e o st fun ov st1 => (match ov with
      | .str f y => need f (y.length + (y.length + 1) * b.length ≤ 16777216) (k (.str f (Txt.replace y a b)) st1)
      | _ => False))))
    | false => False)
    (chk (plainBase o) (chk (args.all (fun a => !isStar a)) (chk (Nat.blt args.length 30) (chk (Nat.beq ap.endLine p.line) (r.e o st fun ov st1 => chk (ov.ok st1.nx) (methV ov x st1 fun f first => chk (callable f) (evArgs r args st1 fun vs st2 => callV P f (first ++ vs) [] st2 k)))))))
  | .Name x _ => chk (args.all (fun a => !isStar a)) (evName P x st fun f st1 => chk (callable f) (evArgs r args st1 fun vs st2 => callV P f vs [] st2 k))
  | _ => False
noncomputable def stepE (e : Expr) (st : St) (k : K1) : Prop :=
  match e with
  | .Name x _ => evName P x st k
  | .Constant v _ _ => eConst v st k
  | .UnaryOp op x _ => (match op with | .USub => r.e x st fun v st1 => (match v with | .int f i => k (.int f (-i)) st1 | _ => False) | _ => False)
  | .BinOp a op b _ => r.e a st fun v st1 => chk (v.ok st1.nx) (r.e b st1 fun u st2 => binV op v u st2 k)
  | .Compare a ops bs _ => oneone ops bs fun op b => chk (!behindInMarks op b) (r.e a st fun v st1 => chk (v.ok st1.nx) (r.e b st1 fun u st2 => cmpV op v u st2 k))
  | .BoolOp op es _ => (match op with | .Or => two1 es fun a b => r.e a st fun v st1 => chk (v.ok st1.nx) (truthV v st1 fun f c st2 => brB f c fun c' => (match c' with | true => k v st2 | false => r.e b st2 k)) | _ => False)
  | .IfExp t a b _ => r.t t st fun c st1 => (match c with | true => r.e a st1 k | false => r.e b st1 k)
  | .Subscript a b _ => r.e a st fun v st1 => chk (v.ok st1.nx) (sliceK b (fun lo hi => evPart r lo st1 fun p st2 => chk (p.ok st2.nx) (evPart r hi st2 fun q st3 => cutP v p q st3 k))
    (r.e b st1 fun u st2 => subV v u st2 k))
  | .Attribute o x _ => chk (plainBase o) (r.e o st fun v st1 => attrV v x st1 k)
  | .List es _ => evArgs r es st fun vs st1 => chk (Nat.ble vs.length 1000) (listP vs st1 k)
  | .Tuple es _ _ => evArgs r es st fun vs st1 => chk (Nat.ble vs.length 1000) (alloc (.tup vs) st1 k)
  | .Call f args kws p => (match kws with | [] => eCall P r f args p st k | _ :: _ => False)
  | _ => False
noncomputable def stepT (e : Expr) (st : St) (k : Bool → St → Prop) : Prop :=
  match e with
  | .Compare a ops bs _ => oneone ops bs fun op b => chk (!behindInMarks op b) (r.e a st fun v st1 => chk (v.ok st1.nx) (r.e b st1 fun u st2 => cmpV op v u st2 fun w st3 => truthV w st3 fun f c st4 => brB f c fun c' => k c' st4))
  | .UnaryOp op x _ => (match op with | .Not => r.t x st fun b st1 => k (!b) st1 | _ => False)
  | .BoolOp op es _ => evAll r op es st k
  | .Name x p => r.e (.Name x p) st fun w st3 => truthV w st3 fun f c st4 => brB f c fun c' => k c' st4
  | .Attribute o x p => r.e (.Attribute o x p) st fun w st3 => truthV w st3 fun f c st4 => brB f c fun c' => k c' st4
  | .Call a b d p => r.e (.Call a b d p) st fun w st3 => truthV w st3 fun f c st4 => brB f c fun c' => k c' st4
  | .Constant a b p => r.e (.Constant a b p) st fun w st3 => truthV w st3 fun f c st4 => brB f c fun c' => k c' st4
  | _ => False
end
structure Cx (w : World) (os : OsState) (n : Nat) (cn : List Str) (c : Fx) : Prop where
  w : c.w = w
  os : c.os = os
  cl : c.cl.map (·.1) = cn
  ok : c.Ok n
noncomputable def CTok (w : World) (os : OsState) (n : Nat) (C : CT) : Prop := ∀ f vs kw st k, C f vs kw st k → ∀ c : Fx, c.w = w → c.os = os → c.Ok n → ∀ ρ us ks, TeqL (vs.map (V.re ρ)) us → TeqL (kw.map (fun p => p.2.re ρ)) ks →
  WT c Teq (call (f.re ρ) us ((kw.map (·.1)).zip ks)) (mre ρ st.m) (st.sto c.cl ρ) (Post c V.re st.nx ρ k)
noncomputable def Below (m : Loc) (σ : Sto) (m' : Loc) (σ' : Sto) : Prop := m'.map (·.1) = m.map (·.1) ∧ (∀ x u, (x, some u) ∈ m' → (x, some u) ∈ m) ∧ Picks σ σ'
theorem Below.refl {m : Loc} {σ : Sto} : Below m σ m σ := ⟨rfl, fun _ _ h => h, Picks.refl _⟩
theorem Below.trans {m m' m'' : Loc} {σ σ' σ'' : Sto} (h : Below m σ m' σ') (k : Below m' σ' m'' σ'') : Below m σ m'' σ'' := ⟨k.1.trans h.1, fun x u hm => h.2.1 x u (k.2.1 x u hm), h.2.2.trans k.2.2⟩
theorem Picks.cons2 {σ φ : Sto} {p : Addr × AO} (h : Picks σ φ) : Picks (p :: σ) (p :: φ) := let ⟨τ, h⟩ := h; ⟨τ, .cons .here h⟩
theorem Sr.below {w : World} {os : OsState} {g : Heap} {L : Addr} {m m' : Loc} {σ σ' : Sto} {s : Shared} (b : Below m σ m' σ') (z : Sr w os g ((L, .ns m) :: σ) s) : Sr w os g ((L, .ns m') :: σ') s := by
  obtain ⟨τ, hp⟩ := b.2.2
  have z1 : Sr w os g ((L, .ns m) :: σ') s := (z.perm (.cons _ hp.perm)).sub (.cons_cons _ (List.sublist_append_left σ' τ))
  refine ⟨⟨⟨z1.hr.keep, fun p hm => ?_, by have := z1.hr.nd; simpa using this⟩, z1.gens, z1.os⟩, z1.tk⟩
  rcases List.mem_cons.mp hm with rfl | hm
  · obtain ⟨h1, o, ho, nd, es, ep, hd, hk, hv⟩ := z1.hr.own (L, .ns m) (.head _)
    exact ⟨h1, o, ho, by rw [b.1]; exact nd, es, ep, hd, hk, fun x v h => hv x v (b.2.1 x v h)⟩
  · exact z1.hr.own p (.tail _ hm)
theorem WT.below {c : Fx} {α β : Type} {R : β → α → Prop} {t : Sem α} {m m' : Loc} {σ σ' : Sto} {Q : β → Loc → Sto → Prop} (b : Below m σ m' σ') (h : WT c R t m' σ' Q) : WT c R t m σ Q := fun s hs => h s (hs.below b)
noncomputable def PS (c : Fx) (pn : Nat) (ρ : Nat → Addr) (k : Fl → St → Prop) : Flow → Loc → Sto → Prop := fun f m σ => ∃ f' st' ρ', f = Fl.re ρ' f' ∧ Below m σ (mre ρ' st'.m) (st'.sto c.cl ρ') ∧ Agree pn ρ ρ' ∧ k f' st'
structure ESound (w : World) (os : OsState) (n : Nat) (P : Pm) (r : Ev) : Prop where
  e : ∀ c, Cx w os n P.cn c → ∀ e st k ρ, r.e e st k → Jd c Teq V.re (eval e (c.env P.sc)) ρ st k
  t : ∀ c, Cx w os n P.cn c → ∀ e st k ρ, r.t e st k → Jd c Eq (fun _ b => b) (isTrue e (c.env P.sc) (eval e (c.env P.sc))) ρ st k
  s : ∀ c, Cx w os n P.cn c → ∀ e st k ρ, P.pn ≤ st.nx → r.s e st k → WT c FTeq (exec e (c.env P.sc)) (mre ρ st.m) (st.sto c.cl ρ) (PS c P.pn ρ k)
theorem callables_ok (w : World) : callables.all (fun a => keepIn (KK w) (.ref a)) = true := by kernel_rfl
theorem memN_mem {x : Nat} : ∀ {l : List Nat}, memN l x = true → x ∈ l
  | y :: r, h => by
    unfold memN at h
    split at h
    · next e => cases Nat.eq_of_beq_eq_true e; exact .head _
    · exact .tail _ (memN_mem h)
theorem memS_mem {x : Str} : ∀ {l : List Str}, memS l x = true → x ∈ l
  | y :: r, h => by
    unfold memS at h
    split at h
    · next e => cases eq_of_beq e; exact .head _
    · exact .tail _ (memS_mem h)
theorem callable_ok {w : World} {f : V} {ρ : Nat → Addr} (h : callable f = true) : (∀ f', Teq (f.re ρ) f' → f' = f.re ρ) ∧ KeepOk w (f.re ρ) := by
  cases f with
  | bi b => exact ⟨fun _ t => t.builtin_inv, keepOk_b⟩
  | typ t => exact ⟨fun _ t => t.type_inv, keepOk_t⟩
  | gl a =>
    refine ⟨fun _ t => t.ref_inv, ?_⟩
    simp only [callable] at h
    cases e : memN callables a with
    | true => exact keepOk_K (List.all_eq_true.mp (callables_ok w) _ (memN_mem e))
    | false => rw [e] at h; cases Nat.eq_of_beq_eq_true h; exact keepOk_peek (by kernel_rfl)
  | _ => cases h
theorem lookup_of_mem {cl : List (Str × Addr)} {x : Str} (hm : x ∈ cl.map (·.1)) : ∃ a, cl.lookup x = some a := by
  induction cl with
  | nil => cases hm
  | cons p r ih =>
    obtain ⟨y, b⟩ := p
    rw [List.lookup_cons]
    cases e : x == y with
    | true => exact ⟨b, rfl⟩
    | false =>
      refine ih ?_
      rcases List.mem_cons.mp hm with q | q
      · subst q; simp at e
      · exact q
theorem setl_cell {ρ : Nat → Addr} {cl : List (Str × Addr)} {x : Str} {v : V} {a : Addr} (ha : cl.lookup x = some a) : ∀ {l l' : List (Str × Option V)}, setl l x v = some l' → ∃ ov, Put (cre ρ cl l) a (.cell ov) (.cell (some (v.re ρ))) (cre ρ cl l')
  | p :: r, l', e => by
    unfold setl at e
    split at e
    · next e' =>
      cases e; cases eq_of_beq e'
      refine ⟨p.2.map (V.re ρ), ?_⟩
      show Put (((cl.lookup p.1).getD 0, _) :: _) _ _ _ (((cl.lookup p.1).getD 0, _) :: _)
      rw [ha]; exact .here
    · split at e
      · next e2 => cases e; obtain ⟨ov, h⟩ := setl_cell ha e2; exact ⟨ov, .there h⟩
      · cases e
theorem put_left {τ σ σ' : Sto} {a : Addr} {x y : AO} (h : Put σ a x y σ') : Put (σ ++ τ) a x y (σ' ++ τ) := by
  induction h with
  | here => exact .here
  | there _ ih => exact .there ih
theorem takes2 {σ : Sto} {p q : Addr × AO} (hp : p ∈ σ) (hq : q ∈ σ) (ne : q ≠ p) : ∃ τ, Takes σ [p, q] τ := by
  obtain ⟨σ1, t1⟩ := take_of_mem hp
  have : q ∈ σ1 := by
    rcases List.mem_cons.mp (t1.perm.mem_iff.mpr hq) with e | e
    · exact (ne e).elim
    · exact e
  obtain ⟨σ2, t2⟩ := take_of_mem this
  exact ⟨σ2, .cons t1 (.cons t2 .nil)⟩
theorem Fn.foot {w : World} {os : OsState} {n : Nat} {f : Value} {args : List Value} {kw : List (Str × Value)} {σ φ τ : Sto} {Q : Value → Prop} (ht : Takes σ φ τ) (h : Fn w os n f args kw φ (fun v σ' => Q v ∧ σ' = φ)) : Fn w os n f args kw σ (fun v σ' => Q v ∧ σ' = σ) := by
  intro A g E s vs ks b r hh ha hk hs
  have hs' := hs.perm ht.perm
  have hs2 : Sr w os g (τ ++ φ) s := hs'.perm List.perm_append_comm
  obtain ⟨g', k1, k2, k3, k4⟩ := hs2.hr.frame
  refine codeAny_mono (h A g' E s vs ks (b.keeps k1) r hh ha hk ⟨⟨k2, hs.gens, hs.os⟩, hs.tk⟩) (Fp.mono fun v σ' s' ⟨h2, e⟩ h3 => ⟨σ, ⟨h2, rfl⟩, ?_⟩)
  subst e
  exact (Sr0.mk (k4 _ _ h3.hr) h3.gens h3.os).perm (ht.perm.symm.trans List.perm_append_comm)
theorem callable_ex {f : V} {ρ : Nat → Addr} (h : callable f = true) : ∀ f', Teq (f.re ρ) f' → f' = f.re ρ := by
  cases f with
  | bi b => exact fun _ t => t.builtin_inv
  | typ t => exact fun _ t => t.type_inv
  | gl a => exact fun _ t => t.ref_inv
  | _ => cases h
theorem cell_look {ρ : Nat → Addr} {cl : List (Str × Addr)} {x : Str} {v : V} (hm : x ∈ cl.map (·.1)) : ∀ {l : List (Str × Option V)}, look l x = some v → ∃ a, cl.lookup x = some a ∧ (a, AO.cell (some (v.re ρ))) ∈ cre ρ cl l := by
  have ⟨a, ha⟩ : ∃ a, cl.lookup x = some a := by
    induction cl with
    | nil => cases hm
    | cons p r ih =>
      obtain ⟨y, b⟩ := p
      rw [List.lookup_cons]
      cases e : x == y with
      | true => exact ⟨b, rfl⟩
      | false =>
        refine ih ?_
        rcases List.mem_cons.mp hm with q | q
        · subst q; simp at e
        · exact q
  intro l h
  refine ⟨a, ha, ?_⟩
  induction l with
  | nil => cases h
  | cons p r ih =>
    unfold look at h
    split at h
    · next e =>
      cases eq_of_beq e
      show _ ∈ ((cl.lookup p.1).getD 0, AO.cell (p.2.map (V.re ρ))) :: _
      rw [ha, h]; exact .head _
    · exact .tail _ (ih h)
section
variable {w : World} {os : OsState} {n : Nat} {P : Pm} {r : Ev} {c : Fx} {ρ : Nat → Addr} {st : St}
theorem evName_ok (hk : P.sc.kind = .function) (X : Cx w os n P.cn c) {x : Str} {pos : Pos} {k : K1} (h : evName P x st k) : We c P.sc (.Name x pos) (mre ρ st.m) (st.sto c.cl ρ) (Post c V.re st.nx ρ k) := by
  unfold evName at h
  split at h
  · exact h.elim
  · next hd =>
    split at h
    · next hl =>
      split at h
      · next e => exact We.name hk hl hd (look_mem e) (Post.here h)
      · exact h.elim
    · next hl =>
      obtain ⟨h1, h⟩ := chk_ok h
      split at h
      · next e =>
        obtain ⟨a, h2, h3⟩ := cell_look (ρ := ρ) (cl := c.cl) (by rw [X.cl]; exact memS_mem h1) e
        exact We.cell hk hl hd h2 (List.mem_append_left _ h3) (Post.here h)
      · exact h.elim
    · next hl =>
      split at h
      · next e => exact We.gl X.ok hk hl (gtab_ok ρ e) (Post.here h)
      · split at h
        · next e => exact We.bl X.ok hk hl (btab_ok ρ e) (Post.here h)
        · exact h.elim
    · exact h.elim
theorem star_cons {e : Expr} {rest : List Expr} (h : (!isStar e) = true) (env : Env) : starEach (e :: rest) env = (false, eval e env) :: starEach rest env := by
  cases e <;> first | rfl | (cases h; done)
theorem star_none {pos : Pos} : ∀ {es : List Expr} (env : Env), es.all (fun a => !isStar a) = true → (backTo pos (starEach es env)).any (·.1) = false
  | [], _, _ => rfl
  | e :: r, env, h => by
    rw [List.all_cons, Bool.and_eq_true] at h
    rw [star_cons h.1]
    show (false || (backTo pos (starEach r env)).any (·.1)) = false
    rw [star_none env h.2]; rfl
theorem evArgs_ok (hr : ESound w os n P r) (X : Cx w os n P.cn c) {pos : Pos} : ∀ {es : List Expr} {st : St} {ρ : Nat → Addr} {k : List V → St → Prop}, evArgs r es st k → Was c P.sc pos es (mre ρ st.m) (st.sto c.cl ρ) (Post c (fun ρ vs => vs.map (V.re ρ)) st.nx ρ k)
  | [], st, ρ, k, h => Was.nil (Post.here (cv := fun ρ (vs : List V) => vs.map (V.re ρ)) (b := []) h)
  | e :: rest, st, ρ, k, h => by
    obtain ⟨h1, h⟩ := chk_ok h
    refine Was.cons (star_cons h1) (Jd.to (hr.e c X e st _ ρ h) fun v st1 ρ1 ag le h => ?_)
    obtain ⟨h2, h⟩ := chk_ok h
    refine WT.mono (evArgs_ok hr X h) ?_
    rintro _ _ _ ⟨vs, st2, ρ2, rfl, rfl, rfl, ag2, le2, h3⟩
    refine ⟨v :: vs, st2, ρ2, ?_, rfl, rfl, ag.trans ag2 le, Nat.le_trans le le2, h3⟩
    show V.re ρ1 v :: List.map (V.re ρ2) vs = V.re ρ2 v :: List.map (V.re ρ2) vs
    rw [V.re_eq ag2 h2]
theorem callV_ok (hC : CTok w os n P.C) (X : Cx w os n P.cn c) {f : V} {vs : List V} {k : K1} (h : callV P f vs [] st k) : Wcall c (f.re ρ) (vs.map (V.re ρ)) (mre ρ st.m) (st.sto c.cl ρ) (Post c V.re st.nx ρ k) := by
  cases f with
  | bi b =>
    cases b with
    | max => exact fun us t => hC _ _ _ _ _ h c X.w X.os X.ok ρ us [] t .nil
    | _ => exact biV_ok h
  | _ => exact fun us t => hC _ _ _ _ _ h c X.w X.os X.ok ρ us [] t .nil
theorem WT.post {α β B : Type} {R : β → α → Prop} {cv : (Nat → Addr) → B → β} {t : Sem α} {m : Loc} {σ : Sto} {ρ₁ : Nat → Addr} {n₁ : Nat} {k : B → St → Prop} (ag : Agree n ρ ρ₁) (le : n ≤ n₁) (h : WT c R t m σ (Post c cv n₁ ρ₁ k)) : WT c R t m σ (Post c cv n ρ k) :=
  WT.mono h fun _ _ _ p => p.up ag le
theorem brB_ok {f b : Bool} {p : Bool → Prop} (h : brB f b p) : p b := by
  cases f with
  | true => exact h
  | false => cases b with
    | true => exact h.1 rfl
    | false => exact h.2 rfl
theorem strMeth_ok {x : Str} {b : BI} (e : strMeth x = some b) : (x = N "startswith" ∧ b = .startswith) ∨ (x = N "endswith" ∧ b = .endswith) ∨ (x = N "split" ∧ b = .split) ∨ x = N "join" ∧ b = .join := by
  unfold strMeth at e
  split at e
  · next q => cases e; exact .inl ⟨eq_of_beq q, rfl⟩
  split at e
  · next q => cases e; exact .inr (.inl ⟨eq_of_beq q, rfl⟩)
  split at e
  · next q => cases e; exact .inr (.inr (.inl ⟨eq_of_beq q, rfl⟩))
  split at e
  · next q => cases e; exact .inr (.inr (.inr ⟨eq_of_beq q, rfl⟩))
  cases e
theorem listMeth_ok {x : Str} {b : BI} (e : listMeth x = some b) : (x = N "append" ∧ b = .append) ∨ x = N "pop" ∧ b = .pop := by
  unfold listMeth at e
  split at e
  · next q => cases e; exact .inl ⟨eq_of_beq q, rfl⟩
  split at e
  · next q => cases e; exact .inr ⟨eq_of_beq q, rfl⟩
  cases e
theorem vsOk1 {v : V} : ∀ j, v.ok j = true → vsOk j [v] = true := fun j hj => by unfold vsOk; rw [hj]; rfl
theorem methV_ok (X : Cx w os n P.cn c) {ov : V} {x : Str} {pl : Sem Bool} {k : V → List V → Prop} (h : methV ov x st k) : ∃ f first, k f first ∧ Wo1 c MRel (fun u => getMethod u x pl) (ov.re ρ) (mre ρ st.m) (st.sto c.cl ρ) (MQ fun g gs m σ => g = f.re ρ ∧ gs = first.map (V.re ρ) ∧ m = mre ρ st.m ∧ σ = st.sto c.cl ρ) ∧ ∀ j, ov.ok j = true → vsOk j first = true := by
  cases ov with
  | str f y =>
    obtain ⟨b, e, h⟩ := optK_ok h
    refine ⟨_, _, h, ?_, vsOk1⟩
    rcases strMeth_ok e with ⟨rfl, rfl⟩ | ⟨rfl, rfl⟩ | ⟨rfl, rfl⟩ | ⟨rfl, rfl⟩
    · exact g_str F.slot_str_startswith F.type_str_startswith ⟨rfl, rfl, rfl, rfl⟩
    · exact g_str F.slot_str_endswith F.type_str_endswith ⟨rfl, rfl, rfl, rfl⟩
    · exact g_str F.slot_str_split F.type_str_split ⟨rfl, rfl, rfl, rfl⟩
    · exact g_str F.slot_str_join F.type_str_join ⟨rfl, rfl, rfl, rfl⟩
  | loc i =>
    obtain ⟨o, e1, h⟩ := getO_ok h
    cases o with
    | «strs» xs =>
      obtain ⟨b, e, h⟩ := optK_ok h
      refine ⟨_, _, h, ?_, vsOk1⟩
      rcases listMeth_ok e with ⟨rfl, rfl⟩ | ⟨rfl, rfl⟩
      · exact g_list F.slot_list_append F.type_list_append (St.get_mem e1) ⟨rfl, rfl, rfl, rfl⟩
      · exact g_list F.slot_list_pop F.type_list_pop (St.get_mem e1) ⟨rfl, rfl, rfl, rfl⟩
    | inst C d =>
      obtain ⟨q, e2, h⟩ := optK_ok h
      obtain ⟨kvs, e3, h⟩ := getD_ok h
      cases q with
      | meth f =>
        cases e4 : kvget kvs x with
        | some _ => rw [e4] at h; exact h.elim
        | none =>
          rw [e4] at h
          exact ⟨_, _, h, g_meth X.ok (meth_of e2) (St.get_mem e1) (St.get_mem e3) (by rw [kvget_re, e4]; rfl) ⟨rfl, rfl, rfl, rfl⟩, vsOk1⟩
      | _ => exact h.elim
    | _ => exact h.elim
  | _ => exact h.elim
theorem notBi_ok {v : V} (h : notBi v = true) : ∀ i, v.re ρ ≠ .builtin i := by
  intro i e
  cases v <;> first | (cases e; done) | (cases h; done)
theorem attrV_ok (X : Cx w os n P.cn c) (hn : 2 ≤ n) {ov : V} {x : Str} {k : K1} (h : attrV ov x st k) : Wo1 c Teq (fun u => getAttr u x true) (ov.re ρ) (mre ρ st.m) (st.sto c.cl ρ) (Post c V.re st.nx ρ k) := by
  obtain ⟨i, rfl, h⟩ := isL_ok h
  obtain ⟨C, d, e1, h⟩ := getI_ok h
  obtain ⟨q, e2, h⟩ := optK_ok h
  obtain ⟨kvs, e3, h⟩ := getD_ok h
  cases q with
  | own =>
    obtain ⟨v, e4, h⟩ := optK_ok h
    obtain ⟨h1, h⟩ := chk_ok h
    exact g_own X.ok (own_of e2) (St.get_mem e1) (St.get_mem e3) (by rw [kvget_re, e4]; rfl) (notBi_ok h1) (Post.here h)
  | prop p f =>
    obtain ⟨h1, ha⟩ := chk_ok h
    obtain ⟨h2, hb⟩ := chk_ok ha
    clear h ha
    have q1 := Nat.eq_of_beq_eq_true h1
    have q2 := Nat.eq_of_beq_eq_true h2
    subst q1 q2
    obtain ⟨v, e4, h⟩ := optK_ok hb
    obtain ⟨h3, h⟩ := chk_ok h
    obtain ⟨n', rfl⟩ : ∃ n', n = n' + 1 + 1 := ⟨n - 2, by omega⟩
    obtain ⟨τ, ht⟩ := takes2 (St.get_mem (cl := c.cl) (ρ := ρ) e1) (St.get_mem (cl := c.cl) (ρ := ρ) e3) (fun e => by cases (Prod.mk.inj e).2)
    refine g_prop X.ok (prop_of e2) (St.get_mem e1) (St.get_mem e3) ((Fn.foot ht (pchars_ok c.w c.os n' (v := v.re ρ) (by rw [kvget_re, e4]; rfl) (notBi_ok h3))).mono ?_)
    rintro u σ' ⟨rfl, rfl⟩
    exact ⟨notBi_ok h3, Post.here h⟩
  | _ => exact h.elim
theorem setV_ok (X : Cx w os n P.cn c) {ov v : V} {x : Str} {k : St → Prop} (h : setV ov x v st k) {Q : Unit → Loc → Sto → Prop} (hQ : ∀ st', k st' → st'.m = st.m → Q () (mre ρ st'.m) (st'.sto c.cl ρ)) : Wo2 c (fun (_ _ : Unit) => True) (fun a b => setAttr a x b) (ov.re ρ) (v.re ρ) (mre ρ st.m) (st.sto c.cl ρ) Q := by
  obtain ⟨i, rfl, h⟩ := isL_ok h
  obtain ⟨C, d, e1, h⟩ := getI_ok h
  obtain ⟨q, e2, h⟩ := optK_ok h
  obtain ⟨kvs, e3, h⟩ := getD_ok h
  cases q with
  | own =>
    obtain ⟨h1, h⟩ := chk_ok h
    intro u u' t t'
    rw [t.ref_inv]
    have hp := St.put_put (o' := .dict (kvset kvs x v)) (ρ := ρ) (cl := c.cl) e3
    simp only [O.re] at hp
    rw [← kvset_re] at hp
    exact s_own X.ok (own_of e2) (St.get_mem e1) hp (by rw [List.length_map]; exact blt_lt h1) (hQ _ h rfl) u' t'
  | _ => exact h.elim
theorem bindN_ok (hk : P.sc.kind = .function) (X : Cx w os n P.cn c) {x : Str} {v : V} {k : St → Prop} (h : bindN P x v st k) {u : Value} (t : Teq (v.re ρ) u) {Q : Unit → Loc → Sto → Prop} (hQ : ∀ st', k st' → Q () (mre ρ st'.m) (st'.sto c.cl ρ)) : WT c Eq (storeName (c.env P.sc) x u) (mre ρ st.m) (st.sto c.cl ρ) Q := by
  unfold bindN at h
  split at h
  · next hl =>
    split at h
    · next m' e => exact Wst hk hl (setl_set e) t (hQ _ h)
    · exact h.elim
  · next hl =>
    obtain ⟨h1, h⟩ := chk_ok h
    split at h
    · next c' e =>
      obtain ⟨a, ha⟩ := lookup_of_mem (cl := c.cl) (by rw [X.cl]; exact memS_mem h1)
      obtain ⟨ov, hp⟩ := setl_cell (ρ := ρ) (cl := c.cl) ha e
      exact Wst.cell hk hl ha (put_left hp) t (hQ _ h)
    · exact h.elim
  · exact h.elim
theorem endLine_ok {o : Expr} {name : Str} {apos pos : Pos} {args : List Expr} (h1 : plainBase o = true) (h2 : args.all (fun a => !isStar a) = true) (h3 : Nat.blt args.length 30 = true) (h4 : Nat.beq apos.endLine pos.line = true) : MEq pos apos o name args := by
  intro env
  show (do
      let ov ← attributeBase o name env (eval o env)
      standAt apos.atName
      methodCall o name apos pos env ov (args.length + 0) (backTo pos (starEach args env)) []) = _
  rw [base_plain h1]
  have hf : methodCallForm (args.length + 0) (backTo pos (starEach args env)) [] = true := by
    unfold methodCallForm
    have e1 : (backTo pos (starEach args env)).all (fun x => !x.1) = true := by
      have := star_none (pos := pos) env h2
      rw [List.all_eq_not_any_not]
      simp only [Bool.not_not]
      rw [this]; rfl
    rw [e1]
    simp
    exact blt_lt h3
  have hp : ∀ o', methodCallPos true o' env apos pos = pure pos := by
    intro o'
    unfold methodCallPos
    have : (apos.endLine == pos.line) = true := by rw [Nat.eq_of_beq_eq_true h4]; simp
    rw [this]; rfl
  unfold methodCall
  rw [hf]
  simp only [hp]
  rfl
theorem two_consts {w : World} {A : Around} {E : Value → Shared → Prop} {s : Shared} {env : Env} {pos p1 p2 : Pos} {a b : Str} {k1 k2 : Nat} {Q : List Value → Shared → Prop} (h : Q [.str a s.toks, .str b (s.toks + 1)] { s with toks := s.toks + 1 + 1 }) :
    wpAny (MM w) A (spliced (backTo pos (starEach [.Constant (.str a) k1 p1, .Constant (.str b) k2 p2] env))) Q E s :=
  wpAny_items_cons (wpAny_Constant_str (wpAny_items_cons (wpAny_Constant_str (wpAny_items_nil h)) (star_cons rfl env))) (star_cons rfl env)
theorem We.replace {sc : Scope} {m : Loc} {σ : Sto} {o : Expr} {ap pos p1 p2 : Pos} {a b : Str} {k1 k2 : Nat} {Q : Value → Loc → Sto → Prop} (ok : c.Ok n) (he : MEq pos ap o (N "replace") [.Constant (.str a) k1 p1, .Constant (.str b) k2 p2]) (hab : (a == b) = false)
    (h : We c sc o m σ (fun ov m1 σ1 => ∃ y, ov = S y ∧ y.length + (y.length + 1) * b.length ≤ 16777216 ∧ Q (S (Txt.replace y a b)) m1 σ1)) : We c sc (.Call (.Attribute o (N "replace") ap) [.Constant (.str a) k1 p1, .Constant (.str b) k2 p2] [] pos) m σ Q := by
  intro s hs
  rw [he]
  refine wpAny_bind (wm hs.tk (h s hs) (fun u s1 v m1 σ1 t1 z hs1 => ?_) fun _ _ e => e)
  obtain ⟨y, e, hy, h1⟩ := z
  subst e
  obtain ⟨ty, rfl⟩ := t1.str_inv
  refine wpAny_bind (wpAny_standAt (wpAny_bind (wpAny_holding (GM.replace ?_))))
  have key : wpAny (MM c.w) c.A (spliced (backTo pos (starEach [.Constant (.str a) k1 p1, .Constant (.str b) k2 p2] (c.env sc)))) (fun vs s2 => (KK c.w).In s2.heap ∧ wpAny (MM c.w) c.A (call (.builtin "str.replace") ([.str y ty] ++ vs)) (fun v s' => ∃ b m' σ', Teq b v ∧ Q b m' σ' ∧ Sr0 c.w c.os c.g ((c.L, .ns m') :: σ') s') c.E s2) c.E s1 := by
    refine two_consts ⟨(hs1.bg ok.bg).kk, ?_⟩
    exact SC.replace (Nat.ne_of_gt hs1.tk) (Nat.succ_ne_zero _) (Nat.ne_of_lt (Nat.lt_succ_self _)) hab hy fun t' k => ⟨_, m1, σ1, .s, h1, hs1.toks _⟩
  rw [star_cons rfl] at key ⊢
  exact callWith_of (P := (KK c.w).In) rfl (keepOk_b (w := c.w)) (evalArgs_plain key)
theorem stepE_ok (hC : CTok w os n P.C) (hk : P.sc.kind = .function) (hn : 2 ≤ n) (hr : ESound w os n P r) (X : Cx w os n P.cn c) {e : Expr} {k : K1} (h : stepE P r e st k) : Jd c Teq V.re (eval e (c.env P.sc)) ρ st k := by
  obtain ⟨n', hn'⟩ : ∃ n', n = n' + 1 := ⟨n - 1, by omega⟩
  cases e with
  | Name x ps => exact evName_ok hk X h
  | Constant v kk ps =>
    cases v with
    | int i => exact We.cint (Post.here (b := V.int _ _) h)
    | str s => exact We.cstr (Post.here (b := V.str _ _) h)
    | none => exact We.cnone (Post.here (b := V.none) h)
    | bool b => exact We.cbool (Post.here (b := V.bool _ _) h)
    | _ => exact h.elim
  | UnaryOp op x ps =>
    cases op with
    | USub =>
      refine We.un (Jd.to (hr.e c X _ st _ ρ h) fun v st1 ρ1 ag le h => ?_)
      cases v with
      | int f i => exact Wo1.up ag le (o_neg (Post.here (b := V.int _ _) h))
      | _ => exact h.elim
    | _ => exact h.elim
  | BinOp a op b ps =>
    refine We.binop (Jd.to (hr.e c X _ st _ ρ h) fun v st1 ρ1 ag le h => ?_)
    obtain ⟨h1, h⟩ := chk_ok h
    refine Jd.to (hr.e c X _ _ _ ρ1 h) fun u st2 ρ2 ag2 le2 h => ?_
    rw [← V.re_eq ag2 h1]
    exact Wo2.up (ag.trans ag2 le) (Nat.le_trans le le2) (binV_ok h)
  | Compare a ops bs ps =>
    replace h := oneone_ok h
    obtain ⟨op, b, rfl, rfl, h⟩ := h
    obtain ⟨h0, h⟩ := chk_ok h
    refine We.cmp (by simpa using h0) (Jd.to (hr.e c X _ st _ ρ h) fun v st1 ρ1 ag le h => ?_)
    obtain ⟨h1, h⟩ := chk_ok h
    refine Jd.to (hr.e c X _ _ _ ρ1 h) fun u st2 ρ2 ag2 le2 h => ?_
    rw [← V.re_eq ag2 h1]
    exact Wo2.up (ag.trans ag2 le) (Nat.le_trans le le2) (cmpV_ok (hn' ▸ X.ok) h)
  | BoolOp op es ps =>
    cases op with
    | And => exact h.elim
    | Or =>
      replace h := two1_ok h
      obtain ⟨x, y, rfl, h⟩ := h
      refine We.or2 (Jd.to (hr.e c X _ st _ ρ h) fun v st1 ρ1 ag le h => ?_)
      obtain ⟨h1, h⟩ := chk_ok h
      intro u t
      refine WT.mono (truthV_ok h u t) ?_
      rintro b m σ ⟨p, st2, ρ2, rfl, rfl, rfl, ag2, le2, h⟩
      have h := brB_ok h
      refine ⟨fun e => ?_, fun e => ?_⟩ <;> replace e : p.2 = _ := e
      · rw [e] at h
        rw [← V.re_eq ag2 h1]
        exact (Post.here h).up (ag.trans ag2 le) (Nat.le_trans le le2)
      · rw [e] at h
        exact (hr.e c X _ _ _ ρ2 h).up (ag.trans ag2 le) (Nat.le_trans le le2)
  | IfExp t a b ps =>
    refine We.ifx (Jd.to (hr.t c X _ st _ ρ h) fun b st1 ρ1 ag le h => ?_)
    refine ⟨fun e => ?_, fun e => ?_⟩
    · subst e; exact (hr.e c X _ _ _ ρ1 h).up ag le
    · subst e; exact (hr.e c X _ _ _ ρ1 h).up ag le
  | Subscript x y ps =>
    refine We.sub (Jd.to (hr.e c X _ st _ ρ h) fun v st1 ρ1 ag le h => ?_)
    replace h := chk_ok h
    obtain ⟨h1, h⟩ := h
    have part : ∀ (e : Option Expr) (st : St) (k : V → St → Prop) ρ, evPart r e st k → Wpart c P.sc e (mre ρ st.m) (st.sto c.cl ρ) (Post c V.re st.nx ρ k) := by
      intro e st k ρ h
      cases e with
      | none => exact Wpart.none (Post.here (b := V.none) h)
      | some e => exact Wpart.some (hr.e c X _ _ _ ρ h)
    replace h := sliceK_ok h
    rcases h with ⟨lo, hi, p2, rfl, hh⟩ | h
    · refine We.slice (WT.mono (part _ _ _ ρ1 hh) ?_)
      rintro _ _ _ ⟨p, st2, ρ2, rfl, rfl, rfl, ag2, le2, h⟩
      obtain ⟨h2, h⟩ := chk_ok h
      refine WT.mono (part _ _ _ ρ2 h) ?_
      rintro _ _ _ ⟨q, st3, ρ3, rfl, rfl, rfl, ag3, le3, h⟩
      intro a o ho
      unfold cutP at h
      split at h
      · next e1 e2 =>
        rw [← V.re_eq ag3 h2] at ho
        have ag23 := ag2.trans ag3 le2
        rw [← V.re_eq ag23 h1]
        exact Wo2.up (ag.trans ag23 le) (Nat.le_trans le (Nat.le_trans le2 le3)) (cutV_ok h ho (partI_ok e1) (partI_ok e2))
      · exact h.elim
    · refine Jd.to (hr.e c X _ _ _ ρ1 h) fun u st2 ρ2 ag2 le2 h => ?_
      rw [← V.re_eq ag2 h1]
      exact Wo2.up (ag.trans ag2 le) (Nat.le_trans le le2) (subV_ok h)
  | Attribute o x ps =>
    obtain ⟨h0, h⟩ := chk_ok h
    refine We.attr h0 (Jd.to (hr.e c X _ st _ ρ h) fun v st1 ρ1 ag le h => ?_)
    exact Wo1.up ag le (attrV_ok X hn h)
  | List es ps =>
    refine WT.gc (We.list (Q := fun b m σ => ∃ φ, Picks σ φ ∧ Post c V.re st.nx ρ k b m φ) (WT.mono (evArgs_ok hr X h) ?_)) fun _ _ _ p => p
    rintro _ _ _ ⟨vs, st2, ρ2, rfl, rfl, rfl, ag, le, h⟩
    obtain ⟨h1, h⟩ := chk_ok h
    refine ⟨by have := Nat.le_of_ble_eq_true h1; rw [List.length_map, sizeLine_eq]; exact sz (by assumption) rfl, fun a => ?_⟩
    unfold listP at h
    split at h
    · next l e =>
      show ∃ φ, Picks ((a, AO.list (List.map (V.re ρ2) vs)) :: _) φ ∧ _
      rw [strs?_map e]
      obtain ⟨φ, h1, h2⟩ := alloc_ok (c := c) (ρ := ρ2) h a
      exact ⟨φ, h1, h2.up ag le⟩
    · split at h
      · next l e =>
        show ∃ φ, Picks ((a, AO.list (List.map (V.re ρ2) vs)) :: _) φ ∧ _
        rw [ints?_map e]
        obtain ⟨φ, h1, h2⟩ := alloc_ok (c := c) (ρ := ρ2) h a
        exact ⟨φ, h1, h2.up ag le⟩
      · exact h.elim
  | Tuple es kk ps =>
    refine WT.gc (We.tup (Q := fun b m σ => ∃ φ, Picks σ φ ∧ Post c V.re st.nx ρ k b m φ) (WT.mono (evArgs_ok hr X h) ?_)) fun _ _ _ p => p
    rintro _ _ _ ⟨vs, st2, ρ2, rfl, rfl, rfl, ag, le, h⟩
    obtain ⟨h1, h⟩ := chk_ok h
    refine ⟨by have := Nat.le_of_ble_eq_true h1; rw [List.length_map, sizeLine_eq]; exact sz (by assumption) rfl, fun a => ?_⟩
    obtain ⟨φ, h1, h2⟩ := alloc_ok (c := c) (ρ := ρ2) h a
    exact ⟨φ, h1, h2.up ag le⟩
  | Call f args kws p =>
    cases kws with
    | cons a r => exact h.elim
    | nil =>
      cases f with
      | Attribute o x ap =>
        replace h := cons2K_ok h
        rcases h with ⟨a, k1, p1, b, k2, p2, rfl, h⟩ | h
        · split at h
          · next hx =>
            have hx : x = N "replace" := eq_of_beq hx
            subst hx
            obtain ⟨a1, h⟩ := chk_ok h
            obtain ⟨a4, h⟩ := chk_ok h
            obtain ⟨a5, h⟩ := chk_ok h
            refine We.replace X.ok (endLine_ok a1 rfl rfl a4) (by simpa using a5) (Jd.to (hr.e c X _ st _ ρ h) fun ov st1 ρ1 ag le h => ?_)
            split at h
            · obtain ⟨h1, h⟩ := need_ok h
              exact ⟨_, rfl, h1, (Post.here (b := V.str _ _) h).up ag le⟩
            · exact h.elim
          · exact h.elim
        · obtain ⟨a1, h⟩ := chk_ok h
          obtain ⟨a2, h⟩ := chk_ok h
          obtain ⟨a3, h⟩ := chk_ok h
          obtain ⟨a4, h⟩ := chk_ok h
          have me := fun name => endLine_ok (name := name) a1 a2 a3 a4
          have fin : ∀ (f : V) (first : List V) st1 ρ1, callable f = true → vsOk st1.nx first = true → Agree st.nx ρ ρ1 → st.nx ≤ st1.nx → (evArgs r args st1 fun vs st2 => callV P f (first ++ vs) [] st2 k) → Was c P.sc p args (mre ρ1 st1.m) (st1.sto c.cl ρ1) (fun vs m3 σ3 => Wcall c (f.re ρ1) (first.map (V.re ρ1) ++ vs) m3 σ3 (Post c V.re st.nx ρ k)) := by
            intro f first st1 ρ1 hf hv ag le h
            refine WT.mono (evArgs_ok hr X h) ?_
            rintro _ _ _ ⟨vs, st2, ρ2, rfl, rfl, rfl, ag2, le2, h⟩
            have := callV_ok (ρ := ρ2) hC X h
            rw [List.map_append, vs_eq ag2 hv] at this
            dsimp only
            have e : f.re ρ2 = f.re ρ1 := by cases f <;> first | rfl | (cases hf; done)
            rw [e] at this
            exact Wcall.up (ag.trans ag2 le) (Nat.le_trans le le2) this
          cases args with
          | nil =>
            refine We.meth0 X.ok (me x) (Jd.to (hr.e c X _ st _ ρ h) fun ov st1 ρ1 ag le h => ?_)
            obtain ⟨h1, h⟩ := chk_ok h
            obtain ⟨f, first, h, hm, hv⟩ := methV_ok (ρ := ρ1) (pl := plOf o (c.env P.sc)) X h
            obtain ⟨h2, h⟩ := chk_ok h
            intro u t
            refine WT.mono (hm u t) ?_
            rintro ⟨g, gs⟩ m σ ⟨rfl, rfl, rfl, rfl⟩
            refine ⟨callable_ex h2, (callable_ok h2).2, ?_⟩
            have h3 : callV P f (first ++ []) [] st1 k := h
            rw [List.append_nil] at h3
            exact Wcall.up ag le (callV_ok (ρ := ρ1) hC X h3)
          | cons a rest =>
            rw [List.all_cons, Bool.and_eq_true] at a2
            refine We.meth1 X.ok (me x) (star_cons a2.1) (fun env => star_none env a2.2) (Jd.to (hr.e c X _ st _ ρ h) fun ov st1 ρ1 ag le h => ?_)
            obtain ⟨h1, h⟩ := chk_ok h
            obtain ⟨f, first, h, hm, hv⟩ := methV_ok (ρ := ρ1) (pl := plOf o (c.env P.sc)) X h
            obtain ⟨h2, h⟩ := chk_ok h
            intro u t
            refine WT.mono (hm u t) ?_
            rintro ⟨g, gs⟩ m σ ⟨rfl, rfl, rfl, rfl⟩
            exact ⟨callable_ex h2, (callable_ok h2).2, fin f first st1 ρ1 h2 (hv _ h1) ag le h⟩
      | Name x np =>
        obtain ⟨a2, h⟩ := chk_ok h
        cases args with
        | nil =>
          refine We.call0 (f := .none) X.ok (Jd.to (evName_ok (ρ := ρ) (pos := np) hk X h) fun f st1 ρ1 ag le h => ?_)
          obtain ⟨h2, h⟩ := chk_ok h
          exact ⟨callable_ex h2, (callable_ok h2).2, Wcall.up ag le (callV_ok (ρ := ρ1) (vs := []) hC X h)⟩
        | cons a rest =>
          rw [List.all_cons, Bool.and_eq_true] at a2
          refine We.call1 X.ok (star_cons a2.1) (fun env => star_none env a2.2) (Jd.to (evName_ok (ρ := ρ) (pos := np) hk X h) fun f st1 ρ1 ag le h => ?_)
          obtain ⟨h2, h⟩ := chk_ok h
          refine ⟨callable_ex h2, (callable_ok h2).2, WT.mono (evArgs_ok hr X h) ?_⟩
          rintro _ _ _ ⟨vs, st2, ρ2, rfl, rfl, rfl, ag2, le2, h⟩
          have := callV_ok (ρ := ρ2) hC X h
          have e : f.re ρ2 = f.re ρ1 := by cases f <;> first | rfl | (cases h2; done)
          rw [e] at this
          exact Wcall.up (ag.trans ag2 le) (Nat.le_trans le le2) this
      | _ => exact h.elim
  | _ => exact h.elim
theorem evAll_ok (hr : ESound w os n P r) (X : Cx w os n P.cn c) {op : BoolOp} : ∀ {es : List Expr} {st : St} {ρ : Nat → Addr} {k : Bool → St → Prop}, evAll r op es st k → Wall c P.sc op es (mre ρ st.m) (st.sto c.cl ρ) (Post c (fun _ b => b) st.nx ρ k)
  | [], st, ρ, k, h => by
    cases op with
    | And => exact Wall.and_nil (Post.here (cv := fun _ (b : Bool) => b) (b := true) h)
    | Or => exact Wall.or_nil (Post.here (cv := fun _ (b : Bool) => b) (b := false) h)
  | e :: rest, st, ρ, k, h => by
    cases op with
    | And =>
      refine Wall.and (Jd.to (hr.t c X e st _ ρ h) fun b st1 ρ1 ag le h => ?_)
      refine ⟨fun e => ?_, fun e => ?_⟩
      · subst e; exact WT.post ag le (evAll_ok hr X h)
      · subst e; exact (Post.here (cv := fun _ (b : Bool) => b) (b := false) h).up ag le
    | Or =>
      refine Wall.or (Jd.to (hr.t c X e st _ ρ h) fun b st1 ρ1 ag le h => ?_)
      refine ⟨fun e => ?_, fun e => ?_⟩
      · subst e; exact (Post.here (cv := fun _ (b : Bool) => b) (b := true) h).up ag le
      · subst e; exact WT.post ag le (evAll_ok hr X h)
theorem val_ok {v : V} {k : Bool → St → Prop} {n₀ : Nat} {ρ₀ : Nat → Addr} (ag : Agree n₀ ρ₀ ρ) (le : n₀ ≤ st.nx) (h : truthV v st fun f c st4 => brB f c fun c' => k c' st4) : Wo1 c Eq truthy (v.re ρ) (mre ρ st.m) (st.sto c.cl ρ) (Post c (fun _ b => b) n₀ ρ₀ k) := by
  intro u t
  refine WT.mono (truthV_ok h u t) ?_
  rintro b m σ ⟨p, st2, ρ2, rfl, rfl, rfl, ag2, le2, h⟩
  exact ⟨p.2, st2, ρ2, rfl, rfl, rfl, ag.trans ag2 le, Nat.le_trans le le2, brB_ok h⟩
theorem stepT_ok (hn : 2 ≤ n) (hr : ESound w os n P r) (X : Cx w os n P.cn c) {e : Expr} {k : Bool → St → Prop} (h : stepT r e st k) : Jd c Eq (fun _ b => b) (isTrue e (c.env P.sc) (eval e (c.env P.sc))) ρ st k := by
  obtain ⟨n', hn'⟩ : ∃ n', n = n' + 1 := ⟨n - 1, by omega⟩
  cases e with
  | Compare a ops bs ps =>
    replace h := oneone_ok h
    obtain ⟨op, b, rfl, rfl, h⟩ := h
    obtain ⟨h0, h⟩ := chk_ok h
    refine Wb.cmp (by simpa using h0) (Jd.to (hr.e c X _ st _ ρ h) fun v st1 ρ1 ag le h => ?_)
    obtain ⟨h1, h⟩ := chk_ok h
    refine Jd.to (hr.e c X _ _ _ ρ1 h) fun u st2 ρ2 ag2 le2 h => ?_
    rw [← V.re_eq ag2 h1]
    intro a b ta tb
    refine WT.mono (cmpV_ok (hn' ▸ X.ok) h a b ta tb) ?_
    rintro _ _ _ ⟨w, st3, ρ3, rfl, rfl, rfl, ag3, le3, h⟩
    exact val_ok ((ag.trans ag2 le).trans ag3 (Nat.le_trans le le2)) (Nat.le_trans le (Nat.le_trans le2 le3)) h
  | UnaryOp op x ps =>
    cases op with
    | Not =>
      refine Wb.not (Jd.to (hr.t c X _ st _ ρ h) fun b st1 ρ1 ag le h => ?_)
      exact (Post.here (cv := fun _ (b : Bool) => b) (b := !b) h).up ag le
    | _ => exact h.elim
  | BoolOp op es ps => exact Wb.boolop (evAll_ok hr X h)
  | Name x ps => exact Wb.name (Jd.to (hr.e c X _ st _ ρ h) fun v st1 ρ1 ag le h => val_ok ag le h)
  | Attribute o x ps => exact Wb.attr (Jd.to (hr.e c X _ st _ ρ h) fun v st1 ρ1 ag le h => val_ok ag le h)
  | Call a b d ps => exact Wb.call (Jd.to (hr.e c X _ st _ ρ h) fun v st1 ρ1 ag le h => val_ok ag le h)
  | Constant a b ps => exact Wb.const (Jd.to (hr.e c X _ st _ ρ h) fun v st1 ρ1 ag le h => val_ok ag le h)
  | _ => exact h.elim
end
noncomputable def enumA (it : Addr) (i : Int) : AO := .pred fun o => ∃ old, o = { cls := .type "enumerate", dict := none, data := .fields #[.none, .bool false, .ref it, rawInt i, .none, old], slots := #[] }
noncomputable def enumO (it : Addr) (i : Int) (a : Addr) : AO := .pred fun o => ∃ old, o = { cls := .type "enumerate", dict := none, data := .fields #[rawInt a, .bool false, .ref it, rawInt i, .none, old], slots := #[] }
section
variable {w : World} {os : OsState} {g : Heap} {σ : Sto} {s : Shared}
theorem Sr0.upd2 {L e i t : Addr} {x a1 a2 b1 b2 bt : AO} {o1 o2 ot : Obj} (z : Sr0 w os g ((L, x) :: (e, a1) :: (i, a2) :: σ) s) {h' : Heap} (k : ∀ b o, b ≠ e → b ≠ i → s.heap.get? b = some o → h'.get? b = some o)
    (e1 : h'.get? e = some o1) (e2 : b1.Is w.params o1) (i1 : h'.get? i = some o2) (i2 : b2.Is w.params o2) (t0 : s.heap.get? t = none) (t1 : h'.get? t = some ot) (t2 : bt.Is w.params ot) (tk : Nat) :
    Sr0 w os g ((L, x) :: (t, bt) :: (e, b1) :: (i, b2) :: σ) { s with heap := h', toks := tk } := by
  have nd := z.hr.nd
  have gn : ∀ a, s.heap.get? a = none → g.get? a = none := fun a h => by
    cases q : g.get? a with
    | none => rfl
    | some o => have := z.hr.keep a o q; rw [h] at this; cases this
  have ow := z.hr.own
  have tne : ∀ p ∈ (L, x) :: (e, a1) :: (i, a2) :: σ, p.1 ≠ t := fun p hp q => by
    obtain ⟨_, o, ho, _⟩ := ow p hp
    rw [q, t0] at ho; cases ho
  simp only [List.map_cons, List.nodup_cons, List.mem_cons, not_or] at nd
  obtain ⟨⟨n1, n2, n3⟩, ⟨n4, n5⟩, n6, n7⟩ := nd
  refine ⟨⟨fun b o q => k b o (fun r => ?_) (fun r => ?_) (z.hr.keep b o q), fun p hp => ?_, ?_⟩, z.gens, z.os⟩
  · have := (ow (e, a1) (.tail _ (.head _))).1; simp only at this; rw [← r, q] at this; cases this
  · have := (ow (i, a2) (.tail _ (.tail _ (.head _)))).1; simp only at this; rw [← r, q] at this; cases this
  · rcases List.mem_cons.mp hp with rfl | hp
    · obtain ⟨h1, o, h2, h3⟩ := ow (L, x) (.head _)
      exact ⟨h1, o, k _ _ n1 n2 h2, h3⟩
    · rcases List.mem_cons.mp hp with rfl | hp
      · exact ⟨gn _ t0, ot, t1, t2⟩
      · rcases List.mem_cons.mp hp with rfl | hp
        · exact ⟨(ow (e, a1) (.tail _ (.head _))).1, o1, e1, e2⟩
        · rcases List.mem_cons.mp hp with rfl | hp
          · exact ⟨(ow (i, a2) (.tail _ (.tail _ (.head _)))).1, o2, i1, i2⟩
          · obtain ⟨h1, o, h2, h3⟩ := ow p (.tail _ (.tail _ (.tail _ hp)))
            exact ⟨h1, o, k _ _ (fun r => n5 (r ▸ List.mem_map_of_mem (f := (·.1)) hp)) (fun r => n6 (r ▸ List.mem_map_of_mem (f := (·.1)) hp)) h2, h3⟩
  · simp only [List.map_cons, List.nodup_cons, List.mem_cons, not_or]
    have q1 := tne (L, x) (.head _)
    have q2 := tne (e, a1) (.tail _ (.head _))
    have q3 := tne (i, a2) (.tail _ (.tail _ (.head _)))
    refine ⟨⟨q1, n1, n2, n3⟩, ⟨fun r => q2 r.symm, fun r => q3 r.symm, fun r => ?_⟩, ⟨n4, n5⟩, n6, n7⟩
    obtain ⟨p, hp, r⟩ := List.mem_map.mp r
    exact tne p (.tail _ (.tail _ (.tail _ hp))) r
end
theorem fresh_none {h : Heap} {a : Nat} (ha : h.objs.size ≤ a) : h.get? a = none := by
  cases q : h.get? a with
  | none => rfl
  | some o => exact absurd (Nat.lt_of_lt_of_le (Heap.lt_size q) ha) (Nat.lt_irrefl _)
theorem Sr0.add2 {w : World} {os : OsState} {g : Heap} {σ : Sto} {s : Shared} {p : Addr × AO} {b1 b2 : AO} {o1 o2 : Obj} (z : Sr0 w os g (p :: σ) s) {h' : Heap} (k : ∀ b o, s.heap.get? b = some o → h'.get? b = some o)
    (e1 : h'.get? (s.heap.objs.size + 1) = some o1) (e2 : b1.Is w.params o1) (i1 : h'.get? s.heap.objs.size = some o2) (i2 : b2.Is w.params o2) (tk : Nat) :
    Sr0 w os g (p :: (s.heap.objs.size + 1, b1) :: (s.heap.objs.size, b2) :: σ) { s with heap := h', toks := tk } := by
  have gn : ∀ a, s.heap.get? a = none → g.get? a = none := fun a h => by
    cases q : g.get? a with
    | none => rfl
    | some o => have := z.hr.keep a o q; rw [h] at this; cases this
  have ow := z.hr.own
  have lt : ∀ q ∈ p :: σ, q.1 < s.heap.objs.size := fun q hq => by
    obtain ⟨_, o, ho, _⟩ := ow q hq
    exact Heap.lt_size ho
  have nd := z.hr.nd
  simp only [List.map_cons, List.nodup_cons, List.mem_cons, not_or] at nd
  refine ⟨⟨fun b o q => k b o (z.hr.keep b o q), fun q hq => ?_, ?_⟩, z.gens, z.os⟩
  · rcases List.mem_cons.mp hq with rfl | hq
    · obtain ⟨h1, o, h2, h3⟩ := ow _ (.head _)
      exact ⟨h1, o, k _ _ h2, h3⟩
    · rcases List.mem_cons.mp hq with rfl | hq
      · exact ⟨gn _ (fresh_none (Nat.le_succ _)), o1, e1, e2⟩
      · rcases List.mem_cons.mp hq with rfl | hq
        · exact ⟨gn _ (fresh_none (Nat.le_refl _)), o2, i1, i2⟩
        · obtain ⟨h1, o, h2, h3⟩ := ow _ (.tail _ hq)
          exact ⟨h1, o, k _ _ h2, h3⟩
  · simp only [List.map_cons, List.nodup_cons, List.mem_cons, not_or]
    have l0 := lt p (.head _)
    refine ⟨⟨fun r => ?_, fun r => ?_, nd.1⟩, ⟨Nat.succ_ne_self _, fun r => ?_⟩, fun r => ?_, nd.2⟩
    · rw [r] at l0; exact absurd (Nat.lt_of_succ_lt l0) (Nat.lt_irrefl _)
    · rw [r] at l0; exact absurd l0 (Nat.lt_irrefl _)
    · obtain ⟨q, hq, r⟩ := List.mem_map.mp r
      have := lt q (.tail _ hq)
      rw [r] at this; exact absurd (Nat.lt_of_succ_lt this) (Nat.lt_irrefl _)
    · obtain ⟨q, hq, r⟩ := List.mem_map.mp r
      have := lt q (.tail _ hq)
      rw [r] at this; exact absurd this (Nat.lt_irrefl _)
section
variable {c : Fx} {n : Nat} {sc : Scope} {m m' : Loc} {σ σ' φ τ : Sto} {l it e : Addr} {xs : List Value}
theorem c_enum {Q : Value → Loc → Sto → Prop} (hm : (l, .list xs) ∈ σ) (h : ∀ e it, e ≠ it → Q (.ref e) m ((e, enumA it 0) :: (it, liter l 0) :: σ)) : Wcall c (.type "enumerate") [.ref l] m σ Q := by
  intro vs hv s hs
  obtain ⟨v1, rfl, t1⟩ := hv.inv1
  rw [t1.ref_inv]
  obtain ⟨arr, k, ho, hL, ht, hsz⟩ := hs.list (.tail _ hm)
  refine call_enumerate_list hL fun h' he hi hz hk => ⟨_, m, _, .same _, h (s.heap.objs.size + 1) s.heap.objs.size (Nat.succ_ne_self _), ?_⟩
  obtain ⟨oi, hoi, c1, c2⟩ := hi
  exact Sr0.add2 (b1 := enumA s.heap.objs.size 0) (b2 := liter l 0) hs.toSr0 hk he ⟨_, rfl⟩ hoi ⟨c1, c2⟩ s.toks
theorem i_enum {Q : Value → Loc → Sto → Prop} {i : Int} (hm : (e, enumA it i) ∈ σ) (h : Q (.ref e) m σ) : Wo1 c (fun a b => a = b ∧ ∃ r, a = Value.ref r) pyIter (.ref e) m σ Q := by
  intro u t s hs
  rw [t.ref_inv]
  obtain ⟨o, ho, old, rfl⟩ := hs.at (.tail _ hm)
  exact wpAny_pyIter_enum ho ⟨_, m, _, ⟨rfl, _, rfl⟩, h, hs.toSr0⟩
theorem n_enum {i : Nat} {v : Value} {Q : Option Value → Loc → Sto → Prop} (hne : e ≠ it) (hx : xs[i]? = some v) (hm : (l, .list xs) ∈ σ) (h : ∀ t, Q (some (.ref t)) m ((t, .tup [I i, v]) :: (e, enumO it ((i : Int) + 1) t) :: (it, liter l (i + 1)) :: σ)) :
    WT c ORel (pyNext (.ref e)) m ((e, enumA it i) :: (it, liter l i) :: σ) Q := by
  intro s hs
  obtain ⟨arr, k, ho, hL, ht, hsz⟩ := hs.list (.tail _ (.tail _ (.tail _ hm)))
  obtain ⟨oe, hoe, old, rfl⟩ := hs.at (a := e) (.tail _ (.head _))
  obtain ⟨oi, hoi, hi1, hi2⟩ := hs.at (a := it) (.tail _ (.tail _ (.head _)))
  obtain ⟨v', hv, hvt⟩ := ht.get hx
  refine wpAny_pyNext_enum_item hoe ⟨oi, hoi, hi1, hi2⟩ hL (x := v') (by simpa using hv) hne fun h' heo ⟨oi', hoi', q1, q2⟩ htt hz hk => ⟨_, m, _, .some (.same _), h _, ?_⟩
  exact Sr0.upd2 (b1 := enumO it ((i : Int) + 1) s.heap.objs.size) (b2 := liter l (i + 1)) (bt := .tup [I i, v]) hs.toSr0 hk heo ⟨_, rfl⟩ hoi' ⟨q1, q2⟩ (fresh_none (Nat.le_refl _)) htt ⟨#[.int i s.toks, v'], _, rfl, .cons .i (.cons hvt .nil)⟩ _
theorem n_enum_end {i : Nat} {Q : Option Value → Loc → Sto → Prop} (ok : c.Ok n) (hx : xs[i]? = none) (hm : (l, .list xs) ∈ σ) (h : Q none m σ) : WT c ORel (pyNext (.ref e)) m ((e, enumA it i) :: (it, liter l i) :: σ) Q := by
  intro s hs
  obtain ⟨arr, k, ho, hL, ht, hsz⟩ := hs.list (.tail _ (.tail _ (.tail _ hm)))
  obtain ⟨oe, hoe, old, rfl⟩ := hs.at (a := e) (.tail _ (.head _))
  obtain ⟨oi, hoi, hi1, hi2⟩ := hs.at (a := it) (.tail _ (.tail _ (.head _)))
  have hs0 : Sr0 c.w c.os c.g ((e, enumA it (i : Int)) :: (c.L, .ns m) :: (it, liter l i) :: σ) s := hs.toSr0.perm (.swap ..)
  have hs' : Sr0 c.w c.os c.g ((it, liter l i) :: (c.L, .ns m) :: σ) s := (hs0.sub (List.sublist_cons_self ..)).perm (.swap ..)
  refine wpAny_pyNext_enum_end ok.hh hoe ⟨oi, hoi, hi1, hi2⟩ hL (by rw [List.getElem?_eq_none_iff] at hx; rw [Array.getElem?_eq_none_iff]; omega) fun h' he => ⟨_, m, σ, .none, h, hs'.lose he⟩
theorem go_enum {es : List Expr} {kk : Nat} {tp : Pos} {i : Int} {a : Addr} {Q : Unit → Loc → Sto → Prop} (hp : Put σ e (enumO it i a) (enumA it i) σ') (h : Q () m σ') : Wo1 c (fun (_ _ : Unit) => True) (letOwnedTupleGo (.Tuple es kk tp) (.ref e)) (.ref a) m σ Q := by
  intro u t s hs
  rw [t.ref_inv]
  obtain ⟨o, ho, old, rfl⟩ := hs.at (.tail _ hp.mem)
  refine wpAny_letOwnedTupleGo_enum ho fun h' he hsb => ⟨(), m, σ', trivial, h, ?_⟩
  exact hs.put (y := enumA it i) (Put.there hp) hsb he ⟨_, rfl⟩ s.toks
theorem a_tup {es : List Expr} {kk : Nat} {tp : Pos} {a : Addr} {vs : List Value} {Q : Unit → Loc → Sto → Prop} (ok : c.Ok n) (hm : (a, .tup vs) ∈ σ) (hlen : (assignEach es (c.env sc)).length = vs.length) (hsr : ((assignEach es (c.env sc)).findIdx? (·.1)) = none) (h : Wao c sc es vs m σ Q) : Wo1 c (fun (_ _ : Unit) => True) (assign (.Tuple es kk tp) (c.env sc)) (.ref a) m σ Q := by
  intro u t s hs
  rw [t.ref_inv]
  obtain ⟨arr, kk, ho, hL, ht, hsz⟩ := hs.tup (.tail _ hm)
  refine assign_Tuple_tuple ok.hh hL (by omega) hsr fun h' he => ?_
  exact h _ ht _ ⟨hs.toSr0.ext (t := s.toks) he, hs.tk⟩
theorem Wloop.enum {x y : Str} {p q tp : Pos} {kk : Nat} {b : List Stmt} {Q : Flow → Loc → Sto → Prop} (ok : c.Ok n) (hne : e ≠ it) (J : Nat → Loc → Sto → Prop) (hJ : ∀ i m σ, J i m σ → (l, .list xs) ∈ σ) (h0 : J 0 m σ)
    (turn : ∀ c' : Fx, c'.w = c.w → c'.os = c.os → c'.cl = c.cl → c'.Ok n → ∀ i v m σ, xs[i]? = some v → J i m σ → Wao c' sc [.Name x p, .Name y q] [I i, v] m ((e, enumA it ((i : Int) + 1)) :: (it, liter l (i + 1)) :: σ) (fun _ m1 σ1 => Wx c' sc b m1 σ1 (itQ [(e, enumA it ((i : Int) + 1)), (it, liter l (i + 1))] (J (i + 1)) Q)))
    (done : ∀ m σ, J xs.length m σ → Q .next m σ) : Wloop c sc (.Tuple [.Name x p, .Name y q] kk tp) (.ref e) b [] m ((e, enumA it 0) :: (it, liter l 0) :: σ) Q := by
  refine Wloop.inv ok (fun k m σ => ∃ i φ, i + k = xs.length ∧ Picks σ ((e, enumA it (i : Int)) :: (it, liter l i) :: φ) ∧ J i m φ) ?_ xs.length ⟨0, σ, by omega, Picks.refl _, h0⟩
  rintro c' e1 e2 e3 ok' k m σ ⟨i, φ, hk, ht, hj⟩
  refine WT.pick ht ?_
  by_cases hlt : i < xs.length
  · refine n_enum hne (v := xs[i]) (by simp [hlt]) (hJ _ _ _ hj) fun t => ?_
    show Wo1 c' _ _ _ _ _ _
    refine go_enum (i := (i : Int) + 1) (a := t) (.there .here) ?_
    refine a_tup ok' (.head _) rfl rfl ?_
    intro us hu
    refine WT.pick Picks.tail ?_
    refine WT.mono (turn c' e1 e2 e3 ok' i xs[i] m φ (by simp [hlt]) hj us hu) fun _ m1 σ1 h1 => ?_
    refine WT.mono h1 fun f m2 σ2 h2 => ?_
    cases f with
    | next => obtain ⟨φ', h3, h4⟩ := h2; exact ⟨xs.length - (i + 1), by omega, i + 1, φ', by omega, by exact_mod_cast h3, h4⟩
    | cont => obtain ⟨φ', h3, h4⟩ := h2; exact ⟨xs.length - (i + 1), by omega, i + 1, φ', by omega, by exact_mod_cast h3, h4⟩
    | brk => exact h2
    | ret v => exact h2
  · have hi : i = xs.length := by omega
    subst hi
    exact n_enum_end ok' (by simp) (hJ _ _ _ hj) (Wx.nil (done _ _ hj))
end
noncomputable def idxN : List Nat → Nat → Nat → Option Nat
  | [], _, _ => none
  | y :: r, x, j => match Nat.beq y x with | true => some j | false => idxN r x (j + 1)
noncomputable def V.ren (ls : List Nat) : V → Option V
  | .loc l => (match idxN ls l 0 with | some j => some (.loc j) | _ => Option.none)
  | v => some v
noncomputable def V.unflag : V → V
  | .bool _ b => .bool false b
  | .int _ i => .int false i
  | .str _ s => .str false s
  | v => v
noncomputable def V.loosen (b : Bool) (v : V) : V := match b with | true => v.unflag | false => v
theorem V.loosen_re {b : Bool} {v : V} {ρ : Nat → Addr} : (v.loosen b).re ρ = v.re ρ := by
  cases b <;> cases v <;> rfl
noncomputable def rens (ls : List Nat) : List V → Option (List V)
  | [] => some []
  | v :: r => match v.ren ls with | some v' => (match rens ls r with | some r' => some (v' :: r') | none => none) | none => none
noncomputable def renk (ls : List Nat) : List (Str × V) → Option (List (Str × V))
  | [] => some []
  | p :: r => match p.2.ren ls with | some v' => (match renk ls r with | some r' => some ((p.1, v') :: r') | none => none) | none => none
noncomputable def O.ren (ls : List Nat) : O → Option O
  | .tup xs => (match rens ls xs with | some xs' => some (.tup xs') | none => none)
  | .inst C d => (match idxN ls d 0 with | some d' => some (.inst C d') | none => none)
  | .dict kvs => (match renk ls kvs with | some k' => some (.dict k') | none => none)
  | o => some o
noncomputable def canonM (ls : List Nat) (fs : List Str) : List (Str × Option V) → Option (List (Str × Option V))
  | [] => some []
  | (x, none) :: r => (match canonM ls fs r with | some r' => some ((x, none) :: r') | none => none)
  | (x, some v) :: r => (match memS fs x with
    | true => (match canonM ls fs r with | some r' => some ((x, none) :: r') | none => none)
    | false => (match V.ren ls (v.loosen (memS fs (N "!" ++ x))) with | some v' => (match canonM ls fs r with | some r' => some ((x, some v') :: r') | none => none) | none => none))
noncomputable def htake : List (Nat × O) → Nat → Option (O × List (Nat × O))
  | [], _ => none
  | p :: r, i => match Nat.beq p.1 i with | true => some (p.2, r) | false => (match htake r i with | some (o, r') => some (o, p :: r') | none => none)
noncomputable def canonH (ls : List Nat) : List Nat → Nat → List (Nat × O) → Option (List (Nat × O))
  | [], _, _ => some []
  | l :: r, j, h => match htake h l with
    | some (o, h') => (match o.ren ls with | some o' => (match canonH ls r (j + 1) h' with | some hs => some ((j, o') :: hs) | none => none) | none => none)
    | none => none
noncomputable def St.canon (ls : List Nat) (fs : List Str) (st : St) : Option St :=
  match canonM ls fs st.m with
  | some m => (match canonM ls [] st.c with | some c => (match canonH ls ls 0 st.h with | some h => some ⟨m, c, h, ls.length⟩ | none => none) | none => none)
  | none => none
theorem idxN_ok {x : Nat} : ∀ {ls : List Nat} {j0 j : Nat}, idxN ls x j0 = some j → j0 ≤ j ∧ ls[j - j0]? = some x
  | y :: r, j0, j, h => by
    unfold idxN at h
    split at h
    · next e => cases h; cases Nat.eq_of_beq_eq_true e; simp
    · obtain ⟨h1, h2⟩ := idxN_ok h
      refine ⟨by exact Nat.le_of_lt (by assumption), ?_⟩
      rw [show j - j0 = (j - (j0 + 1)) + 1 by omega, List.getElem?_cons_succ]; exact h2
section
variable {ls : List Nat} {ρ : Nat → Addr}
noncomputable def rmap (ls : List Nat) (ρ : Nat → Addr) : Nat → Addr := fun j => ρ (ls.getD j 0)
theorem rmap_idx {l j : Nat} (h : idxN ls l 0 = some j) : rmap ls ρ j = ρ l := by
  obtain ⟨_, h⟩ := idxN_ok h
  unfold rmap
  rw [List.getD_eq_getElem?_getD]
  rw [Nat.sub_zero] at h
  rw [h]; rfl
theorem ren_ok {v v' : V} (h : v.ren ls = some v') : v'.re (rmap ls ρ) = v.re ρ := by
  cases v with
  | loc l =>
    simp only [V.ren] at h
    split at h
    · next e => cases h; exact congrArg Value.ref (rmap_idx e)
    · cases h
  | _ => simp only [V.ren] at h; cases h; rfl
theorem rens_ok : ∀ {l l' : List V}, rens ls l = some l' → l'.map (V.re (rmap ls ρ)) = l.map (V.re ρ)
  | [], l', h => by cases h; rfl
  | v :: r, l', h => by
    unfold rens at h
    split at h
    · next e => split at h
                · next e2 => cases h; rw [List.map_cons, List.map_cons, ren_ok e, rens_ok e2]
                · cases h
    · cases h
theorem renk_ok : ∀ {l l' : List (Str × V)}, renk ls l = some l' → (l'.map fun p => (p.1, p.2.re (rmap ls ρ))) = l.map fun p => (p.1, p.2.re ρ)
  | [], l', h => by cases h; rfl
  | v :: r, l', h => by
    unfold renk at h
    split at h
    · next e => split at h
                · next e2 => cases h; rw [List.map_cons, List.map_cons, ren_ok e, renk_ok e2]
                · cases h
    · cases h
theorem oren_ok {o o' : O} (h : o.ren ls = some o') : o'.re (rmap ls ρ) = o.re ρ := by
  cases o with
  | tup xs =>
    simp only [O.ren] at h
    split at h
    · next e => cases h; exact congrArg AO.tup (rens_ok e)
    · cases h
  | inst C d =>
    simp only [O.ren] at h
    split at h
    · next e => cases h; exact congrArg (AO.inst C) (rmap_idx e)
    · cases h
  | dict kvs =>
    simp only [O.ren] at h
    split at h
    · next e => cases h; exact congrArg AO.idict (renk_ok e)
    · cases h
  | _ => simp only [O.ren] at h; cases h; rfl
theorem canonM_ok {fs : List Str} : ∀ {m m' : List (Str × Option V)}, canonM ls fs m = some m' → m'.map (·.1) = m.map (·.1) ∧ ∀ x u, (x, some u) ∈ mre (rmap ls ρ) m' → (x, some u) ∈ mre ρ m
  | [], m', h => by cases h; exact ⟨rfl, fun _ _ h => h⟩
  | (x, none) :: r, m', h => by
    unfold canonM at h
    split at h
    · next e =>
      cases h
      obtain ⟨h1, h2⟩ := canonM_ok e
      refine ⟨by rw [List.map_cons, List.map_cons, h1], fun y u hm => ?_⟩
      rcases List.mem_cons.mp hm with q | q
      · cases q
      · exact .tail _ (h2 y u q)
    · cases h
  | (x, some v) :: r, m', h => by
    unfold canonM at h
    split at h
    · split at h
      · next e =>
        cases h
        obtain ⟨h1, h2⟩ := canonM_ok e
        refine ⟨by rw [List.map_cons, List.map_cons, h1], fun y u hm => ?_⟩
        rcases List.mem_cons.mp hm with q | q
        · cases q
        · exact .tail _ (h2 y u q)
      · cases h
    · split at h
      · next e0 =>
        split at h
        · next e =>
          cases h
          obtain ⟨h1, h2⟩ := canonM_ok e
          refine ⟨by rw [List.map_cons, List.map_cons, h1], fun y u hm => ?_⟩
          rcases List.mem_cons.mp hm with q | q
          · have q' := congrArg Prod.fst q
            have q2 := congrArg Prod.snd q
            have q' : y = x := q'
            have q2 : some u = some (V.re (rmap ls ρ) _) := q2
            rw [q', q2, ren_ok e0, V.loosen_re]; exact .head _
          · exact .tail _ (h2 y u q)
        · cases h
      · cases h
theorem canonC_ok {cl : List (Str × Addr)} : ∀ {m m' : List (Str × Option V)}, canonM ls [] m = some m' → cre (rmap ls ρ) cl m' = cre ρ cl m
  | [], m', h => by cases h; rfl
  | (x, none) :: r, m', h => by
    unfold canonM at h
    split at h
    · next e =>
      cases h
      have := canonC_ok (cl := cl) e
      unfold cre at *
      rw [List.map_cons, List.map_cons, this]; rfl
    · cases h
  | (x, some v) :: r, m', h => by
    unfold canonM at h
    split at h
    · next e => cases e
    · split at h
      · next e0 =>
        split at h
        · next e =>
          cases h
          have := canonC_ok (cl := cl) e
          unfold cre at *
          rw [List.map_cons, List.map_cons, this]
          show (_, AO.cell (some _)) :: _ = (_, AO.cell (some _)) :: _
          rw [ren_ok e0, V.loosen_re]
        · cases h
      · cases h
theorem htake_ok {l : Nat} {o : O} : ∀ {h h' : List (Nat × O)}, htake h l = some (o, h') → Take (hre ρ h) (ρ l, o.re ρ) (hre ρ h')
  | p :: r, h', e => by
    unfold htake at e
    split at e
    · next e' => cases e; cases Nat.eq_of_beq_eq_true e'; exact .here
    · split at e
      · next e2 => cases e; exact .there (htake_ok e2)
      · cases e
theorem canonH_ok : ∀ {todo : List Nat} {j : Nat} {h hs : List (Nat × O)}, (∀ i l, todo[i]? = some l → ls[j + i]? = some l) → canonH ls todo j h = some hs → Picks (hre ρ h) (hre (rmap ls ρ) hs)
  | [], j, h, hs, _, e => by cases e; exact Picks.nil
  | l :: r, j, h, hs, hl, e => by
    unfold canonH at e
    split at e
    · next e1 =>
      split at e
      · next e2 =>
        split at e
        · next e3 =>
          cases e
          have hj : ls[j]? = some l := by simpa using hl 0 l rfl
          have ej : rmap ls ρ j = ρ l := by unfold rmap; rw [List.getD_eq_getElem?_getD, hj]; rfl
          obtain ⟨τ, ih⟩ := canonH_ok (fun i l' hi => by have := hl (i + 1) l' (by simpa using hi); rw [show j + 1 + i = j + (i + 1) by omega]; exact this) e3
          refine ⟨τ, ?_⟩
          show Takes _ ((rmap ls ρ j, O.re (rmap ls ρ) _) :: hre (rmap ls ρ) _) τ
          rw [ej, oren_ok e2]
          exact .cons (htake_ok e1) ih
        · cases e
      · cases e
    · cases e
theorem canon_ok {fs : List Str} {st st' : St} {cl : List (Str × Addr)} (h : st.canon ls fs = some st') : Below (mre ρ st.m) (st.sto cl ρ) (mre (rmap ls ρ) st'.m) (st'.sto cl (rmap ls ρ)) := by
  unfold St.canon at h
  split at h
  · next e1 =>
    split at h
    · next e2 =>
      split at h
      · next e3 =>
        cases h
        obtain ⟨h1, h2⟩ := canonM_ok (ρ := ρ) e1
        refine ⟨?_, h2, ?_⟩
        · unfold mre; simp only [List.map_map]; exact h1
        · show Picks (cre ρ cl st.c ++ hre ρ st.h) (cre (rmap ls ρ) cl _ ++ hre (rmap ls ρ) _)
          rw [canonC_ok e2]
          obtain ⟨τ, hp⟩ := canonH_ok (ρ := ρ) (ls := ls) (j := 0) (fun i l hi => by simpa using hi) e3
          exact Picks.of_perm (τ := τ) (by rw [List.append_assoc]; exact hp.perm.append_left _)
      · cases h
    · cases h
  · cases h
end
theorem WT.beside {c : Fx} {α β : Type} {R : β → α → Prop} {t : Sem α} {m : Loc} {τ σ : Sto} {Q : β → Loc → Sto → Prop} (h : ∀ g', (∀ b o, c.g.get? b = some o → g'.get? b = some o) → WT { c with g := g' } R t m σ Q) :
    WT c R t m (τ ++ σ) (fun b m' σ' => ∃ σ'', σ' = τ ++ σ'' ∧ Q b m' σ'') := by
  intro s hs
  have hs' : Sr c.w c.os c.g (τ ++ ((c.L, .ns m) :: σ)) s := hs.perm List.perm_middle
  obtain ⟨g', k1, k2, k3, k4⟩ := hs'.hr.frame
  refine wpm (h g' k1 s ⟨⟨k2, hs.gens, hs.os⟩, hs.tk⟩) (fun _ _ b m' σ' h1 h2 h3 => ⟨b, m', τ ++ σ', h1, ⟨σ', rfl, h2⟩, ?_⟩) fun _ _ e => e
  exact (Sr0.mk (k4 _ _ h3.hr) h3.gens h3.os).perm List.perm_middle.symm
section
variable (P : Pm) (r : Ev)
noncomputable def iota : Nat → Nat → List Nat
  | 0, _ => []
  | n + 1, i => i :: iota n (i + 1)
noncomputable def evSs : List Stmt → St → (Fl → St → Prop) → Prop
  | [], st, k => k .next st
  | s :: rest, st, k => chk (Nat.ble P.pn st.nx) (r.s s st fun f st1 => match f with
    | .next => evSs rest st1 k
    | .brk => k .brk st1
    | .cont => k .cont st1
    | .ret v => k (.ret v) st1)
noncomputable def Ordered (st : St) (p : St → Prop) : Prop := ∃ ls fs st', St.canon (iota P.pn 0 ++ ls) fs st = some st' ∧ p st'
noncomputable def cutK (J : St → Prop) (k : Fl → St → Prop) (f : Fl) (st : St) : Prop := match f with
  | .next => Ordered P st J
  | .brk => k .brk st
  | .cont => k .cont st
  | .ret v => k (.ret v) st
noncomputable def Same (st st' : St) : Prop := (∀ ρ, mre ρ st.m = mre ρ st'.m) ∧ (∀ ρ cl, st.sto cl ρ = st'.sto cl ρ)
inductive Seg (k : Fl → St → Prop) : List Stmt → St → Prop
  | all {b : List Stmt} {st : St} : evSs P r b st k → Seg k b st
  | same {b : List Stmt} {st : St} (st' : St) : Same st st' → Seg k b st' → Seg k b st
  | cut {b : List Stmt} {st : St} (a d : List Stmt) (J : St → Prop) : b = a ++ d → evSs P r a st (cutK P J k) → (∀ st1, J st1 → Seg k d st1) → Seg k b st
noncomputable def loopK (J : Nat → St → Prop) (n : Nat) (k : Fl → St → Prop) (f : Fl) (st : St) : Prop := match f with
  | .next => ∃ n', n' < n ∧ Ordered P st (J n')
  | .cont => ∃ n', n' < n ∧ Ordered P st (J n')
  | .brk => k .next st
  | .ret v => k (.ret v) st
noncomputable def WhileVC (t : Expr) (b o : List Stmt) (st : St) (k : Fl → St → Prop) : Prop :=
  ∃ (J : Nat → St → Prop) (n : Nat), J n st ∧ ∀ n st, J n st → chk (Nat.ble P.pn st.nx) (r.t t st fun c st1 => match c with
    | true => Seg P r (loopK P J n k) b st1
    | false => evSs P r o st1 k)
noncomputable def items : O → Option (Nat × (Nat → V))
  | .strs xs => some (xs.length, fun j => .str false (xs.getD j (N "")))
  | .tups xs => some (xs.length, fun j => .str false (xs.getD j (N "")))
  | .ints xs => some (xs.length, fun j => .int false (xs.getD j 0))
  | _ => none
noncomputable def rangeK (J : Nat → St → Prop) (i : Nat) (k : Fl → St → Prop) (f : Fl) (st : St) : Prop := match f with
  | .next => Ordered P st (J (i + 1))
  | .cont => Ordered P st (J (i + 1))
  | .brk => k .next st
  | .ret v => k (.ret v) st
noncomputable def ForVC (x : Str) (i : Nat) (b : List Stmt) (st : St) (k : Fl → St → Prop) : Prop :=
  match htake st.h i with
  | some (o, h') => (match items o with
    | some (n, at_) => ∃ (J : Nat → St → Prop), Ordered P { st with h := h' } (J 0) ∧
        (∀ j st, j < n → J j st → bindN P x (at_ j) st fun st1 => Seg P r (rangeK P J j k) b st1) ∧ ∀ st, J n st → k .next st
    | none => False)
  | none => False
noncomputable def itemsL : O → Option (Nat × (Nat → V))
  | .strs xs => some (xs.length, fun j => .str false (xs.getD j (N "")))
  | .ints xs => some (xs.length, fun j => .int false (xs.getD j 0))
  | _ => none
noncomputable def EnumVC (x y : Str) (i : Nat) (b : List Stmt) (st : St) (k : Fl → St → Prop) : Prop :=
  match htake st.h i with
  | some (o, h') => (match itemsL o with
    | some (n, at_) => ∃ (J : Nat → St → Prop), Ordered P { st with h := h' } (J 0) ∧
        (∀ j st, j < n → J j st → bindN P x (.int false j) st fun st1 => bindN P y (at_ j) st1 fun st2 => Seg P r (rangeK P J j k) b st2) ∧ ∀ st, J n st → k .next st
    | none => False)
  | none => False
noncomputable def RangeVC (x : Str) (n : Nat) (b : List Stmt) (st : St) (k : Fl → St → Prop) : Prop :=
  n ≤ sizeLine ∧ ∃ (J : Nat → St → Prop), Ordered P st (J 0) ∧
    (∀ j st, j < n → J j st → bindN P x (.int false j) st fun st1 => Seg P r (rangeK P J j k) b st1) ∧ ∀ st, J n st → k .next st
noncomputable def notComp : Expr → Bool
  | .ListComp _ _ _ _ => false
  | .SetComp _ _ _ _ => false
  | .DictComp _ _ _ _ _ => false
  | _ => true
noncomputable def notTup : Expr → Bool
  | .Tuple _ _ _ => false
  | .List _ _ => false
  | _ => true
noncomputable def allNames : List Expr → Bool
  | [] => true
  | .Name _ _ :: r => allNames r
  | _ => false
noncomputable def notSet : Expr → Bool
  | .Set _ _ _ => false
  | _ => true
noncomputable def notRef : V → Bool
  | .gl _ => false
  | .loc _ => false
  | _ => true
noncomputable def nilK {α : Type} (l : List α) (p : Prop) : Prop := match l with
  | [] => p
  | _ :: _ => False
theorem nilK_ok {α : Type} {l : List α} {p : Prop} (h : nilK l p) : l = [] ∧ p := by
  cases l with
  | nil => exact ⟨rfl, h⟩
  | cons a l => exact h.elim
noncomputable def bindAll : List Expr → List V → St → (St → Prop) → Prop
  | [], vs, st, k => nilK vs (k st)
  | e :: es, vs, st, k => nameK e fun x => match vs with
    | [] => False
    | v :: vs => bindN P x v st fun st1 => bindAll es vs st1 k
noncomputable def sAssign (t e : Expr) (st : St) (k : Fl → St → Prop) : Prop :=
  match t with
  | .Name x _ => r.e e st fun v st1 => bindN P x v st1 fun st2 => k .next st2
  | .Attribute o x _ => r.e e st fun v st1 => chk (v.ok st1.nx) (r.e o st1 fun ov st2 => setV ov x v st2 fun st3 => k .next st3)
  | .Tuple es _ _ => chk (notTup e) (chk (allNames es) (r.e e st fun v st1 => (match v with
    | .loc i => (match st1.get i with
      | some (.tup vs) => bindAll P es vs st1 fun st2 => k .next st2
      | _ => False)
    | _ => False)))
  | _ => False
noncomputable def sAug (t : Expr) (op : Operator) (e : Expr) (st : St) (k : Fl → St → Prop) : Prop :=
  match t with
  | .Name x _ => (match P.sc.names.lookup x with
    | some .local => (match look st.m x with
      | some v => chk (v.ok st.nx) (r.e e st fun u st1 => inV op v u st1 fun w st2 => bindN P x w st2 fun st3 => k .next st3)
      | none => False)
    | _ => False)
  | .Attribute o x _ => r.e o st fun ov st1 => chk (ov.ok st1.nx) (attrV ov x st1 fun old st2 => chk (old.ok st2.nx) (r.e e st2 fun u st3 => inV op old u st3 fun w st4 => setV ov x w st4 fun st5 => k .next st5))
  | _ => False
noncomputable def sFor (t it : Expr) (b : List Stmt) (st : St) (k : Fl → St → Prop) : Prop :=
  match t with
  | .Name x _ => call1K it (fun y e => chk (y == N "range") (chk (!isStar e) (evName P (N "range") st fun f st1 => match f with
    | .typ .range => r.e e st1 fun v st2 => (match v with | .int _ i => 0 ≤ i ∧ RangeVC P r x i.toNat b st2 k | _ => False)
    | _ => False)))
    (chk (notSet it) (r.e it st fun v st1 => match v with | .loc i => ForVC P r x i b st1 k | _ => False))
  | .Tuple es _ _ => two1 es fun a a' => nameK a fun x => nameK a' fun y => call1K it (fun f e => chk (f == N "enumerate") (chk (!isStar e) (evName P (N "enumerate") st fun fv st1 => match fv with
    | .typ .enumerate => r.e e st1 fun v st2 => (match v with | .loc i => EnumVC P r x y i b st2 k | _ => False)
    | _ => False))) False
  | _ => False
noncomputable def stepS (s : Stmt) (st : St) (k : Fl → St → Prop) : Prop :=
  match s with
  | .Assign ts e _ => single ts fun t => chk (notComp e) (sAssign P r t e st k)
  | .AugAssign t op e _ => sAug P r t op e st k
  | .If t b o _ => r.t t st fun c st1 => (match c with | true => evSs P r b st1 k | false => evSs P r o st1 k)
  | .Return e _ => (match e with | some e => r.e e st fun v st1 => k (.ret v) st1 | none => False)
  | .Break _ => k .brk st
  | .Continue _ => k .cont st
  | .Pass _ => k .next st
  | .Expr e _ => chk (notComp e) (r.e e st fun v st1 => chk (notRef v) (k .next st1))
  | .While t b o _ => WhileVC P r t b o st k
  | .For t it b o _ => nilK o (sFor P r t it b st k)
  | .Try b _ o f _ => nilK o (nilK f (evSs P r b st k))
  | _ => False
noncomputable def step : Ev := ⟨stepE P r, stepT r, stepS P r⟩
end
noncomputable def evN (P : Pm) : Nat → Ev
  | 0 => ⟨fun _ _ _ => False, fun _ _ _ => False, fun _ _ _ => False⟩
  | n + 1 => step P (evN P n)
theorem swaps_no {value : Expr} {t : Option Expr} {l : Nat} {env : Env} (h : notComp value = true) : swapsWith value t l env = pure false := by
  cases value <;> first | rfl | (cases h; done)
theorem folded_no {e : Expr} (h : notSet e = true) : ∀ env x, foldedSetIterable e env x = pure x := by
  intro env x
  cases e <;> first | rfl | (cases h; done)
theorem Cx.setE {w : World} {os : OsState} {n : Nat} {cn : List Str} {c c' : Fx} (X : Cx w os n cn c) (e1 : c'.w = c.w) (e2 : c'.os = c.os) (e3 : c'.cl = c.cl) (ok : c'.Ok n) : Cx w os n cn c' := ⟨e1.trans X.w, e2.trans X.os, by rw [e3]; exact X.cl, ok⟩
theorem Cx.setG {w : World} {os : OsState} {n : Nat} {cn : List Str} {c : Fx} (X : Cx w os n cn c) {g' : Heap} (k : ∀ b o, c.g.get? b = some o → g'.get? b = some o) : Cx w os n cn { c with g := g' } := ⟨X.w, X.os, X.cl, ⟨X.ok.bg.keeps k, X.ok.hh, X.ok.room⟩⟩
theorem iota_get : ∀ {n i j : Nat}, j < n → (iota n i)[j]? = some (i + j)
  | 0, _, _, h => by omega
  | n + 1, i, j, h => by
    unfold iota
    cases j with
    | zero => simp
    | succ j => rw [List.getElem?_cons_succ, iota_get (by omega)]; congr 1; omega
theorem iota_len : ∀ {n i : Nat}, (iota n i).length = n
  | 0, _ => rfl
  | n + 1, i => by unfold iota; rw [List.length_cons, iota_len]
theorem pin_ok {pn : Nat} {ls : List Nat} {ρ : Nat → Addr} : Agree pn ρ (rmap (iota pn 0 ++ ls) ρ) := by
  intro i hi
  unfold rmap
  rw [List.getD_eq_getElem?_getD, List.getElem?_append_left (by rw [iota_len]; exact hi), iota_get hi]
  simp
theorem Agree.le {n n' : Nat} {ρ ρ' : Nat → Addr} (h : Agree n ρ ρ') (k : n' ≤ n) : Agree n' ρ ρ' := fun i hi => h i (by exact Nat.le_trans (by assumption) (by assumption))
theorem PS.cl {c c' : Fx} {pn : Nat} {ρ : Nat → Addr} {k : Fl → St → Prop} (e : c'.cl = c.cl) : PS c' pn ρ k = PS c pn ρ k := by unfold PS; rw [e]
section
variable {w : World} {os : OsState} {n : Nat} {P : Pm} {r : Ev} {c : Fx} {ρ : Nat → Addr} {st : St} {k : Fl → St → Prop}
theorem PS.here {f : Fl} (h : k f st) : PS c P.pn ρ k (f.re ρ) (mre ρ st.m) (st.sto c.cl ρ) := ⟨f, st, ρ, rfl, .refl, .refl, h⟩
theorem PS.up {ρ₁ : Nat → Addr} {pn : Nat} (ag : Agree pn ρ ρ₁) {f : Flow} {m : Loc} {σ : Sto} (h : PS c pn ρ₁ k f m σ) : PS c pn ρ k f m σ :=
  by obtain ⟨f', st', ρ', h1, h2, h3, h4⟩ := h; exact ⟨f', st', ρ', h1, h2, ag.trans h3 (Nat.le_refl _), h4⟩
theorem evSs_ok (hr : ESound w os n P r) (X : Cx w os n P.cn c) : ∀ {ss : List Stmt} {st : St} {ρ : Nat → Addr}, evSs P r ss st k → Wx c P.sc ss (mre ρ st.m) (st.sto c.cl ρ) (PS c P.pn ρ k)
  | [], st, ρ, h => Wx.nil (PS.here (P := P) (f := .next) h)
  | s :: rest, st, ρ, h => by
    obtain ⟨hp, h⟩ := chk_ok h
    refine Wx.cons (WT.mono (hr.s c X s st _ ρ (Nat.le_of_ble_eq_true hp) h) ?_)
    rintro f m σ ⟨f', st1, ρ1, rfl, b, ag, h⟩
    cases f' with
    | next => exact WT.below b (WT.mono (evSs_ok hr X h) fun _ _ _ p => p.up ag)
    | brk => exact ⟨.brk, st1, ρ1, rfl, b, ag, h⟩
    | cont => exact ⟨.cont, st1, ρ1, rfl, b, ag, h⟩
    | ret v => exact ⟨.ret v, st1, ρ1, rfl, b, ag, h⟩
theorem execs_app {env : Env} {b : List Stmt} : ∀ {a : List Stmt}, execs (a ++ b) env = (do match ← execs a env with | .next => execs b env | f => pure f)
  | [] => by rw [execs_nil, List.nil_append, pure_bind]
  | s :: a => by
    rw [List.cons_append, execs_cons, execs_cons, bind_assoc]
    refine congrArg (bind (exec s env)) (funext fun f => ?_)
    cases f with
    | next => exact execs_app
    | _ => rw [pure_bind]
theorem Wx.append {sc : Scope} {m : Loc} {σ : Sto} {Q : Flow → Loc → Sto → Prop} {a b : List Stmt} (h : Wx c sc a m σ (seqQ c sc b Q)) : Wx c sc (a ++ b) m σ Q := by
  intro s hs
  rw [execs_app]
  refine wpAny_bind (wm hs.tk (h s hs) (fun v s1 f m1 σ1 t1 h1 hs1 => ?_) fun _ _ e => e)
  cases t1 with
  | ret t => exact wpAny_pure ⟨_, m1, σ1, .ret t, h1, hs1.toSr0⟩
  | next => exact h1 s1 hs1
  | brk => exact wpAny_pure ⟨_, m1, σ1, .brk, h1, hs1.toSr0⟩
  | cont => exact wpAny_pure ⟨_, m1, σ1, .cont, h1, hs1.toSr0⟩
theorem seg_ok (hr : ESound w os n P r) (X : Cx w os n P.cn c) {ss : List Stmt} {st : St} (h : Seg P r k ss st) : ∀ {ρ : Nat → Addr}, Wx c P.sc ss (mre ρ st.m) (st.sto c.cl ρ) (PS c P.pn ρ k) := by
  induction h with
  | all h => exact evSs_ok hr X h
  | same st' e _ ih => intro ρ; rw [e.1 ρ, e.2 ρ]; exact ih
  | cut a d J e h _ ih =>
    intro ρ
    subst e
    refine Wx.append (WT.mono (evSs_ok hr X h) ?_)
    rintro f m σ ⟨f', st1, ρ1, rfl, b, ag, h⟩
    cases f' with
    | next =>
      obtain ⟨ls, fs, st2, hc, hj⟩ := h
      exact WT.below (b.trans (canon_ok hc)) (WT.mono (ih st2 hj) fun _ _ _ p => p.up (ag.trans pin_ok (Nat.le_refl _)))
    | brk => exact ⟨.brk, st1, ρ1, rfl, b, ag, h⟩
    | cont => exact ⟨.cont, st1, ρ1, rfl, b, ag, h⟩
    | ret v => exact ⟨.ret v, st1, ρ1, rfl, b, ag, h⟩
theorem while_ok (hr : ESound w os n P r) (X : Cx w os n P.cn c) {t : Expr} {b o : List Stmt} {p : Pos} (h : WhileVC P r t b o st k) : W1 c P.sc (.While t b o p) (mre ρ st.m) (st.sto c.cl ρ) (PS c P.pn ρ k) := by
  obtain ⟨J, N0, h0, turn⟩ := h
  refine W1.while X.ok (fun j m σ => ∃ st ρ', Below m σ (mre ρ' st.m) (st.sto c.cl ρ') ∧ Agree P.pn ρ ρ' ∧ J j st) ?_ N0 ⟨st, ρ, .refl, .refl, h0⟩
  rintro c' e1 e2 e3 ok' j m σ ⟨st, ρ', bl, ag0, hj⟩
  have X' := X.setE e1 e2 e3 ok'
  refine WT.below bl ?_
  rw [← e3]
  obtain ⟨hp, ht⟩ := chk_ok (turn j st hj)
  refine Jd.to (hr.t c' X' t st _ ρ' ht) fun b' st1 ρ1 ag le h => ?_
  have ag1 := ag0.trans (ag.le (Nat.le_of_ble_eq_true hp)) (Nat.le_refl _)
  refine ⟨fun e => ?_, fun e => ?_⟩
  · subst e
    refine WT.mono (seg_ok hr X' h) ?_
    rintro f m2 σ2 ⟨f', st2, ρ2, rfl, b2, ag2, h2⟩
    have ag2 := ag1.trans ag2 (Nat.le_refl _)
    cases f' with
    | next =>
      obtain ⟨n', hn, ls, fs, st3, hc, hj'⟩ := h2
      exact ⟨n', hn, st3, _, b2.trans (canon_ok hc), ag2.trans pin_ok (Nat.le_refl _), hj'⟩
    | cont =>
      obtain ⟨n', hn, ls, fs, st3, hc, hj'⟩ := h2
      exact ⟨n', hn, st3, _, b2.trans (canon_ok hc), ag2.trans pin_ok (Nat.le_refl _), hj'⟩
    | brk => exact ⟨.next, st2, ρ2, rfl, e3 ▸ b2, ag2, h2⟩
    | ret v => exact ⟨.ret v, st2, ρ2, rfl, e3 ▸ b2, ag2, h2⟩
  · subst e
    have := evSs_ok (ρ := ρ1) hr X' h
    rw [PS.cl e3] at this
    exact WT.mono this fun _ _ _ p => p.up ag1
theorem bindA_ok (hk : P.sc.kind = .function) (X : Cx w os n P.cn c) {x : Str} {p : Pos} {v : V} {k : St → Prop} (h : bindN P x v st k) {τ : Sto} {Q : Unit → Loc → Sto → Prop} (hQ : ∀ st', k st' → Q () (mre ρ st'.m) (τ ++ st'.sto c.cl ρ)) :
    Wo1 c (fun (_ _ : Unit) => True) (assign (.Name x p) (c.env P.sc)) (v.re ρ) (mre ρ st.m) (τ ++ st.sto c.cl ρ) Q := by
  intro u t
  have W : ∀ g', (∀ b o, c.g.get? b = some o → g'.get? b = some o) → WT { c with g := g' } (fun (_ _ : Unit) => True) (assign (.Name x p) (c.env P.sc) u) (mre ρ st.m) (st.sto c.cl ρ) (fun _ m' σ' => ∃ st', k st' ∧ m' = mre ρ st'.m ∧ σ' = st'.sto c.cl ρ) := by
    intro g' kg s hs
    have := bindN_ok (ρ := ρ) (u := u) hk (X.setG kg) h t (Q := fun _ m' σ' => ∃ st', k st' ∧ m' = mre ρ st'.m ∧ σ' = st'.sto c.cl ρ) fun st' h' => ⟨st', h', rfl, rfl⟩
    rw [arm_assign_Name]
    exact wpAny_bind (wpAny_standAt (wpAny_bindName (wpm (this s hs) (fun _ _ b m1 σ1 _ h1 hs1 => ⟨(), m1, σ1, trivial, h1, hs1⟩) fun _ _ e => e)))
  refine WT.mono (WT.beside (τ := τ) W) ?_
  rintro _ m σ ⟨σ'', rfl, st', h', rfl, rfl⟩
  exact hQ st' h'
theorem Picks.app {σ φ : Sto} (h : Picks σ φ) : ∀ τ : Sto, Picks (τ ++ σ) (τ ++ φ)
  | [] => h
  | _ :: τ => (h.app τ).cons2
theorem Picks.drop {σ : Sto} : ∀ τ : Sto, Picks (τ ++ σ) σ
  | [] => .refl _
  | _ :: τ => Picks.tail.trans (Picks.drop τ)
noncomputable def LJ (c : Fx) (P : Pm) (ρ₀ : Nat → Addr) (τ : Sto) (J : Nat → St → Prop) (j : Nat) (m : Loc) (σ : Sto) : Prop := ∃ st ρ', Below m σ (mre ρ' st.m) (τ ++ st.sto c.cl ρ') ∧ Agree P.pn ρ₀ ρ' ∧ J j st
section
variable {ρ₀ : Nat → Addr} {τ its : Sto} {J : Nat → St → Prop} {j : Nat} {m : Loc} {σ : Sto}
theorem LJ.done (h : LJ c P ρ₀ τ J j m σ) (hd : ∀ st, J j st → k .next st) : PS c P.pn ρ₀ k .next m σ := by
  obtain ⟨st, ρ', bl, ag0, hj⟩ := h
  exact ⟨.next, st, ρ', rfl, ⟨bl.1, bl.2.1, Picks.trans bl.2.2 (Picks.drop τ)⟩, ag0, hd st hj⟩
theorem LJ.mem (h : LJ c P ρ₀ τ J j m σ) {q : Addr × AO} (hq : q ∈ τ) : q ∈ σ := by
  obtain ⟨st, ρ', bl, _, _⟩ := h
  obtain ⟨φ, ht⟩ := bl.2.2
  exact ht.perm.mem_iff.mp (List.mem_append_left _ (List.mem_append_left _ hq))
theorem LJ.run {c' : Fx} (hr : ESound w os n P r) (X' : Cx w os n P.cn c') (e : c'.cl = c.cl) {b : List Stmt} {st1 : St} {ρ' : Nat → Addr} (ag0 : Agree P.pn ρ₀ ρ') (h1 : Seg P r (rangeK P J j k) b st1) :
    Wx c' P.sc b (mre ρ' st1.m) ((its ++ τ) ++ st1.sto c'.cl ρ') (itQ its (LJ c P ρ₀ τ J (j + 1)) (PS c P.pn ρ₀ k)) := by
  refine WT.mono (WT.beside (c := c') (R := FTeq) (t := execs b (c'.env P.sc)) (m := mre ρ' st1.m) (σ := st1.sto c'.cl ρ') (Q := PS c' P.pn ρ' (rangeK P J j k)) (τ := its ++ τ) fun g' kg => seg_ok (c := { c' with g := g' }) hr (X'.setG kg) h1) ?_
  rintro f m2 σ2 ⟨σ3, rfl, f', st2, ρ2, rfl, bo, ag2, h2⟩
  replace ag2 := ag0.trans ag2 (Nat.le_refl _)
  replace bo : Below m2 σ3 (mre ρ2 st2.m) (st2.sto c.cl ρ2) := e ▸ bo
  clear h1 hr X' e ag0
  have bx : Below m2 (its ++ τ ++ σ3) (mre ρ2 st2.m) (st2.sto c.cl ρ2) := ⟨bo.1, bo.2.1, (Picks.drop _).trans bo.2.2⟩
  have go : Ordered P st2 (J (j + 1)) → ∃ φ, Picks (its ++ τ ++ σ3) (its ++ φ) ∧ LJ c P ρ₀ τ J (j + 1) m2 φ := by
    rintro ⟨ls, fs, st3, hc, hj⟩
    have b4 := bo.trans (canon_ok hc)
    exact ⟨τ ++ σ3, by rw [List.append_assoc]; exact Picks.refl _, st3, _, ⟨b4.1, b4.2.1, b4.2.2.app τ⟩, ag2.trans pin_ok (Nat.le_refl _), hj⟩
  cases f' with
  | next => exact go h2
  | cont => exact go h2
  | brk => exact ⟨.next, st2, ρ2, rfl, bx, ag2, h2⟩
  | ret v => exact ⟨.ret v, st2, ρ2, rfl, bx, ag2, h2⟩
theorem LJ.turn {c' : Fx} (hk : P.sc.kind = .function) (hr : ESound w os n P r) (X' : Cx w os n P.cn c') (e : c'.cl = c.cl) {b : List Stmt} {x : Str} {p : Pos} {v : V} {u0 : Value} (hv : ∀ ρ, v.re ρ = u0)
    (hJ : LJ c P ρ₀ τ J j m σ) (turn : ∀ st, J j st → bindN P x v st fun st1 => Seg P r (rangeK P J j k) b st1) :
    Wo1 c' (fun (_ _ : Unit) => True) (assign (.Name x p) (c'.env P.sc)) u0 m (its ++ σ) (fun _ m1 σ1 => Wx c' P.sc b m1 σ1 (itQ its (LJ c P ρ₀ τ J (j + 1)) (PS c P.pn ρ₀ k))) := by
  obtain ⟨st, ρ', bl, ag0, hj⟩ := hJ
  have bl' : Below m (its ++ σ) (mre ρ' st.m) ((its ++ τ) ++ st.sto c.cl ρ') := ⟨bl.1, bl.2.1, by rw [List.append_assoc]; exact bl.2.2.app its⟩
  rw [← hv ρ']
  intro u t
  refine WT.below bl' ?_
  rw [← e]
  exact bindA_ok (ρ := ρ') (v := v) hk X' (turn st hj) (fun st1 h1 => LJ.run hr X' e ag0 h1) u t
end
theorem for_ok {ρ₀ : Nat → Addr} (ag₀ : Agree P.pn ρ₀ ρ) (hk : P.sc.kind = .function) (hr : ESound w os n P r) (X : Cx w os n P.cn c) {x : Str} {p : Pos} {i : Nat} {b : List Stmt} (h : ForVC P r x i b st k) : Wo1 c (fun a b => a = b ∧ ∃ r, a = Value.ref r) pyIter (.ref (ρ i)) (mre ρ st.m) (st.sto c.cl ρ) (fun it m2 σ2 => Wloop c P.sc (.Name x p) it b [] m2 σ2 (PS c P.pn ρ₀ k)) := by
  unfold ForVC at h
  cases e1 : htake st.h i with
  | none => rw [e1] at h; exact h.elim
  | some q =>
  obtain ⟨o, h'⟩ := q
  rw [e1] at h
  dsimp only at h
  have htk := htake_ok (ρ := ρ) e1
  clear e1
  have h0 : ∀ {J : Nat → St → Prop} {T : AO}, Ordered P { st with h := h' } (J 0) → o.re ρ = T → LJ c P ρ₀ [(ρ i, T)] J 0 (mre ρ st.m) (st.sto c.cl ρ) := by
    rintro J T ⟨ls, fs, st0, hc, hj0⟩ rfl
    have b1 := canon_ok (ρ := ρ) (cl := c.cl) hc
    refine ⟨st0, _, ⟨b1.1, b1.2.1, Picks.trans (Picks.of_perm (τ := []) ?_) b1.2.2.cons2⟩, ag₀.trans pin_ok (Nat.le_refl _), hj0⟩
    rw [List.append_nil]
    show ((ρ i, o.re ρ) :: (cre ρ c.cl st.c ++ hre ρ h')).Perm (cre ρ c.cl st.c ++ hre ρ st.h)
    exact (List.perm_middle.symm).trans (htk.perm.append_left _)
  clear htk
  have list : ∀ (xs : List Value) (n' : Nat) (at_ : Nat → V), o.re ρ = .list xs → xs.length = n' → (∀ j, j < n' → ∃ u, xs[j]? = some u ∧ ∀ ρ, (at_ j).re ρ = u) → (∃ (J : Nat → St → Prop), Ordered P { st with h := h' } (J 0) ∧
        (∀ j st, j < n' → J j st → bindN P x (at_ j) st fun st1 => Seg P r (rangeK P J j k) b st1) ∧ ∀ st, J n' st → k .next st) → Wo1 c (fun a b => a = b ∧ ∃ r, a = Value.ref r) pyIter (.ref (ρ i)) (mre ρ st.m) (st.sto c.cl ρ) (fun it m2 σ2 => Wloop c P.sc (.Name x p) it b [] m2 σ2 (PS c P.pn ρ₀ k)) := by
    rintro xs n' at_ hxs hlen hat ⟨J, hj0, turn, done⟩
    subst hlen
    have h0 := h0 hj0 hxs
    intro u t
    refine i_list (xs := xs) (h0.mem (.head _)) (fun it => ?_) u t
    refine Wloop.list (xs := xs) X.ok (LJ c P ρ₀ [(ρ i, .list xs)] J) (fun j m σ h => h.mem (.head _)) h0 (fun c' e3 e4 e5 ok' j v m σ hv hj => ?_) fun m σ hj => hj.done done
    have hlt : j < xs.length := (List.getElem?_eq_some_iff.mp hv).1
    obtain ⟨u, hu, hre⟩ := hat j hlt
    rw [hv] at hu
    cases hu
    exact LJ.turn (its := [(it, liter (ρ i) (j + 1))]) hk hr (X.setE e3 e4 e5 ok') e5 hre hj fun st hj => turn j st hlt hj
  cases o with
  | «strs» l => exact list (l.map S) _ _ rfl (by simp) (fun j hj => ⟨_, by rw [List.getElem?_map, getD_some (d := N "") hj]; rfl, fun _ => rfl⟩) h
  | «ints» l => exact list (l.map I) _ _ rfl (by simp) (fun j hj => ⟨_, by rw [List.getElem?_map, getD_some (d := (0 : Int)) hj]; rfl, fun _ => rfl⟩) h
  | tups l =>
    obtain ⟨J, hj0, turn, done⟩ := h
    have h0 := h0 hj0 (rfl : _ = AO.tup (l.map S))
    intro u t
    refine i_tup (xs := l.map S) (h0.mem (.head _)) (fun it => ?_) u t
    refine Wloop.tup (xs := l.map S) X.ok (LJ c P ρ₀ [(ρ i, .tup (l.map S))] J) (fun j m σ h => h.mem (.head _)) h0 (fun c' e3 e4 e5 ok' j v m σ hv hj => ?_) fun m σ hj => ?_
    · have hlt : j < l.length := by simpa using (List.getElem?_eq_some_iff.mp hv).1
      rw [List.getElem?_map, getD_some (d := N "") hlt] at hv
      cases hv
      exact LJ.turn (its := [(it, titer (ρ i) (j + 1))]) hk hr (X.setE e3 e4 e5 ok') e5 (v := .str false (l.getD j (N ""))) (fun _ => rfl) hj fun st hj => turn j st hlt hj
    · rw [List.length_map] at hj
      exact hj.done done
  | _ => exact h.elim
theorem range_ok {ρ₀ : Nat → Addr} (ag₀ : Agree P.pn ρ₀ ρ) (hk : P.sc.kind = .function) (hr : ESound w os n P r) (X : Cx w os n P.cn c) {x : Str} {p : Pos} {N0 : Nat} {b : List Stmt} {it : Addr} (h : RangeVC P r x N0 b st k) : Wloop c P.sc (.Name x p) (.ref it) b [] (mre ρ st.m) ((it, riter 0 N0 1) :: st.sto c.cl ρ) (PS c P.pn ρ₀ k) := by
  obtain ⟨_, J, ⟨ls, fs, st0, hc, hj0⟩, turn, done⟩ := h
  exact Wloop.range X.ok (LJ c P ρ₀ [] J) ⟨st0, _, canon_ok hc, ag₀.trans pin_ok (Nat.le_refl _), hj0⟩
    (fun c' e1 e2 e3 ok' j m σ hlt hj => LJ.turn (its := [(it, riter ((j + 1 : Nat) : Int) ((N0 : Int) - (j + 1 : Nat)) 1)]) hk hr (X.setE e1 e2 e3 ok') e3 (v := .int false j) (fun _ => rfl) hj fun st hj => turn j st hlt hj) fun m σ hj => hj.done done
theorem Wao.bind {sc : Scope} {m : Loc} {σ : Sto} {y : Str} {p : Pos} {es : List Expr} {v : Value} {vs : List Value} {Q : Unit → Loc → Sto → Prop} (h : Wo1 c (fun (_ _ : Unit) => True) (assign (.Name y p) (c.env sc)) v m σ (fun _ m1 σ1 => Wao c sc es vs m1 σ1 Q)) : Wao c sc (.Name y p :: es) (v :: vs) m σ Q := by
  intro us hu s hs
  cases hu with
  | cons t hu =>
    show wpAny _ _ (do holding _ (assign (.Name y p) (c.env sc) _); assignInOrder ((assignEach es (c.env sc)).map (·.2)) _) _ _ s
    refine wpAny_bind (wpAny_holding (wm hs.tk (h _ t s hs) (fun _ s1 _ m1 σ1 _ h1 hs1 => h1 _ hu s1 hs1) fun _ _ e => e))
theorem enum_ok {ρ₀ : Nat → Addr} (ag₀ : Agree P.pn ρ₀ ρ) (hk : P.sc.kind = .function) (hr : ESound w os n P r) (X : Cx w os n P.cn c) {x y : Str} {p q tp : Pos} {kk i : Nat} {b : List Stmt} (h : EnumVC P r x y i b st k) :
    ∃ xs, (ρ i, .list xs) ∈ st.sto c.cl ρ ∧ ∀ e it, e ≠ it → Wloop c P.sc (.Tuple [.Name x p, .Name y q] kk tp) (.ref e) b [] (mre ρ st.m) ((e, enumA it 0) :: (it, liter (ρ i) 0) :: st.sto c.cl ρ) (PS c P.pn ρ₀ k) := by
  unfold EnumVC at h
  cases e1 : htake st.h i with
  | none => rw [e1] at h; exact h.elim
  | some q =>
  obtain ⟨o, h'⟩ := q
  rw [e1] at h
  dsimp only at h
  have htk := htake_ok (ρ := ρ) e1
  clear e1
  have list : ∀ (xs : List Value) (n' : Nat) (at_ : Nat → V), o.re ρ = .list xs → xs.length = n' → (∀ j, j < n' → ∃ u, xs[j]? = some u ∧ ∀ ρ, (at_ j).re ρ = u) → (∃ (J : Nat → St → Prop), Ordered P { st with h := h' } (J 0) ∧
        (∀ j st, j < n' → J j st → bindN P x (.int false j) st fun st1 => bindN P y (at_ j) st1 fun st2 => Seg P r (rangeK P J j k) b st2) ∧ ∀ st, J n' st → k .next st) →
      ∃ xs, (ρ i, .list xs) ∈ st.sto c.cl ρ ∧ ∀ e it, e ≠ it → Wloop c P.sc (.Tuple [.Name x p, .Name y q] kk tp) (.ref e) b [] (mre ρ st.m) ((e, enumA it 0) :: (it, liter (ρ i) 0) :: st.sto c.cl ρ) (PS c P.pn ρ₀ k) := by
    rintro xs n' at_ hxs hlen hat ⟨J, ⟨ls, fs, st0, hc, hj0⟩, turn, done⟩
    subst hlen
    have b1 := canon_ok (ρ := ρ) (cl := c.cl) hc
    have h0 : LJ c P ρ₀ [(ρ i, .list xs)] J 0 (mre ρ st.m) (st.sto c.cl ρ) := by
      refine ⟨st0, _, ⟨b1.1, b1.2.1, Picks.trans (Picks.of_perm (τ := []) ?_) b1.2.2.cons2⟩, ag₀.trans pin_ok (Nat.le_refl _), hj0⟩
      rw [List.append_nil, ← hxs]
      exact (List.perm_middle.symm).trans (htk.perm.append_left _)
    refine ⟨xs, h0.mem (.head _), fun e it hne => Wloop.enum (xs := xs) X.ok hne (LJ c P ρ₀ [(ρ i, .list xs)] J) (fun j m σ h => h.mem (.head _)) h0 (fun c' e3 e4 e5 ok' j v m σ hv hj => ?_) fun m σ hj => hj.done done⟩
    have hlt : j < xs.length := (List.getElem?_eq_some_iff.mp hv).1
    obtain ⟨u, hu, hre⟩ := hat j hlt
    rw [hv] at hu
    cases hu
    obtain ⟨st, ρ', bl, ag0, hj⟩ := hj
    have X' := X.setE e3 e4 e5 ok'
    have bl' : Below m ([(e, enumA it ((j : Int) + 1)), (it, liter (ρ i) (j + 1))] ++ σ) (mre ρ' st.m) (([(e, enumA it ((j : Int) + 1)), (it, liter (ρ i) (j + 1))] ++ [(ρ i, .list xs)]) ++ st.sto c.cl ρ') := ⟨bl.1, bl.2.1, bl.2.2.cons2.cons2⟩
    rw [← hre ρ']
    intro us hu
    refine WT.below bl' ?_
    rw [← e5]
    exact Wao.bind (v := I j) (bindA_ok (ρ := ρ') (v := .int false j) hk X' (turn j st hlt hj) fun st1 h1 => Wao.bind (bindA_ok (ρ := ρ') (v := at_ j) hk X' h1 fun st2 h2 => Wao.nil (LJ.run hr X' e5 ag0 h2))) us hu
  cases o with
  | «strs» l => exact list (l.map S) _ _ rfl (by simp) (fun j hj => ⟨_, by rw [List.getElem?_map, getD_some (d := N "") hj]; rfl, fun _ => rfl⟩) h
  | «ints» l => exact list (l.map I) _ _ rfl (by simp) (fun j hj => ⟨_, by rw [List.getElem?_map, getD_some (d := (0 : Int)) hj]; rfl, fun _ => rfl⟩) h
  | _ => exact h.elim
theorem W1.try {sc : Scope} {m : Loc} {σ : Sto} {b : List Stmt} {hs : List ExceptHandler} {p : Pos} {Q : Flow → Loc → Sto → Prop} (ok : c.Ok n) (h : ∀ c' : Fx, c'.w = c.w → c'.os = c.os → c'.cl = c.cl → c'.Ok n → Wx c' sc b m σ Q) : W1 c sc (.Try b hs [] [] p) m σ Q := by
  intro s hs'
  rw [arm_exec_Try]
  refine wpAny_bind (wpAny_standAt ?_)
  unfold tryStmt
  refine wpAny_bind (wpAny_attempt ?_)
  refine wpm (h (c.setE fun _ _ => False) rfl rfl rfl (ok.withE _) s hs') (fun f s1 f' m1 σ1 t1 h1 hs1 => ?_) fun _ _ e => e.elim
  cases t1 with
  | ret t => exact wpAny_pure ⟨_, m1, σ1, .ret t, h1, hs1⟩
  | brk => exact wpAny_pure ⟨_, m1, σ1, .brk, h1, hs1⟩
  | cont => exact wpAny_pure ⟨_, m1, σ1, .cont, h1, hs1⟩
  | next => exact wpAny_execs_nil ⟨_, m1, σ1, .next, h1, hs1⟩
theorem W1.asg {sc : Scope} {m : Loc} {σ : Sto} {x : Str} {p' p : Pos} {value : Expr} {Q : Flow → Loc → Sto → Prop} (hsw : swapsWith value (some (.Name x p')) p.line (c.env sc) = pure false)
    (h : We c sc value m σ (fun v m1 σ1 => ∀ u, Teq v u → WT c Eq (storeName (c.env sc) x u) m1 σ1 (fun _ m2 σ2 => Q .next m2 σ2))) : W1 c sc (.Assign [.Name x p'] value p) m σ Q :=
  fun s hs => wpAny_Assign_Name (wm hs.tk (h s hs) (fun u s1 v m1 σ1 t1 h1 hs1 => wpm (h1 u t1 s1 hs1) (fun _ s2 _ m3 σ3 _ h2 hs3 => ⟨.next, m3, σ3, .next, h2, hs3⟩) fun _ _ e => e) fun _ _ e => e) hsw
theorem bindN_some {x : Str} {v : V} {st : St} {k : St → Prop} (h : bindN P x v st k) : ∃ st', k st' := by
  unfold bindN at h
  split at h
  · split at h
    · exact ⟨_, h⟩
    · exact h.elim
  · obtain ⟨_, h⟩ := chk_ok h
    split at h
    · exact ⟨_, h⟩
    · exact h.elim
  · exact h.elim
theorem bindAll_ok (hk : P.sc.kind = .function) (X : Cx w os n P.cn c) {Q : Unit → Loc → Sto → Prop} {k : St → Prop} (hQ : ∀ st', k st' → Q () (mre ρ st'.m) (st'.sto c.cl ρ)) : ∀ {es : List Expr} {vs : List V} {st : St}, bindAll P es vs st k → Wao c P.sc es (vs.map (V.re ρ)) (mre ρ st.m) (st.sto c.cl ρ) Q ∧ (assignEach es (c.env P.sc)).length = vs.length ∧ (assignEach es (c.env P.sc)).findIdx? (·.1) = none := by
  intro es
  induction es with
  | nil =>
    intro vs st h
    obtain ⟨rfl, h⟩ := nilK_ok h
    exact ⟨Wao.nil (hQ _ h), rfl, rfl⟩
  | cons e es ih =>
    intro vs st h
    obtain ⟨y, p, rfl, h⟩ := nameK_ok h
    cases vs with
    | nil => exact h.elim
    | cons v vs =>
      replace h : bindN P y v st (fun st1 => bindAll P es vs st1 k) := h
      obtain ⟨st', h'⟩ := bindN_some h
      obtain ⟨_, l1, l2⟩ := ih h'
      refine ⟨Wao.bind (bindA_ok (τ := []) hk X (p := p) h fun st1 h1 => (ih h1).1), ?_, ?_⟩
      · show (assignEach es (c.env P.sc)).length + 1 = _
        rw [l1]; rfl
      · show ((false, _) :: assignEach es (c.env P.sc)).findIdx? (·.1) = none
        rw [List.findIdx?_cons, l2]; rfl
theorem names_no {env : Env} : ∀ {es : List Expr}, allNames es = true → (assignEach es env).findIdx? (·.1) = none
  | [], _ => rfl
  | e :: r, h => by
    cases e <;> first | (cases h; done) | skip
    show ((false, _) :: assignEach r env).findIdx? (·.1) = none
    rw [List.findIdx?_cons, names_no (es := r) h]; rfl
theorem unpack_no2 {es : List Expr} {kk : Nat} {tp : Pos} {value : Expr} {env : Env} (h2 : notTup value = true) : swappedStores [.Tuple es kk tp] value env = pure none := by
  cases value <;> first | rfl | (cases h2; done)
theorem stepS_ok (hp : P.pn ≤ st.nx) (hC : CTok w os n P.C) (hk : P.sc.kind = .function) (hn : 2 ≤ n) (hr : ESound w os n P r) (X : Cx w os n P.cn c) {s : Stmt} (h : stepS P r s st k) : W1 c P.sc s (mre ρ st.m) (st.sto c.cl ρ) (PS c P.pn ρ k) := by
  cases s with
  | Assign ts e ps =>
    replace h := single_ok h
    obtain ⟨t, rfl, h⟩ := h
    replace h := chk_ok h
    obtain ⟨h0, h⟩ := h
    cases t with
    | Name x p1 =>
      refine W1.asg (swaps_no h0) (Jd.to (hr.e c X _ st _ ρ h) fun v st1 ρ1 ag le h u t => ?_)
      exact bindN_ok hk X h t fun st' h' => (PS.here (P := P) (f := .next) h').up (ag.le hp)
    | Attribute o x p1 =>
      refine W1.asgA (swaps_no h0) (Jd.to (hr.e c X _ st _ ρ h) fun v st1 ρ1 ag le h => ?_)
      obtain ⟨h1, h⟩ := chk_ok h
      refine Jd.to (hr.e c X _ st1 _ ρ1 h) fun ov st2 ρ2 ag2 le2 h => ?_
      rw [← V.re_eq ag2 h1]
      exact setV_ok X h fun st' h' _ => (PS.here (P := P) (f := .next) h').up ((ag.trans ag2 le).le hp)
    | Tuple es kk p1 =>
      obtain ⟨h1, h⟩ := chk_ok h
      obtain ⟨h2, h⟩ := chk_ok h
      refine W1.unpack X.ok (by unfold swapsWithSole; exact swaps_no h0) (unpack_no2 h1) (names_no h2) (Jd.to (hr.e c X _ st _ ρ h) fun v st1 ρ1 ag le h => ?_)
      · split at h
        · next i =>
          split at h
          · next vs e1 =>
            obtain ⟨w1, w2, w3⟩ := bindAll_ok (ρ := ρ1) (Q := fun _ m σ => PS c P.pn ρ k .next m σ) hk X (fun st' h' => (PS.here (P := P) (f := .next) h').up (ag.le hp)) h
            exact ⟨ρ1 i, vs.map (V.re ρ1), rfl, St.get_mem e1, by rw [w2, List.length_map], w1⟩
          · exact h.elim
        · exact h.elim
    | _ => exact h.elim
  | AugAssign t op e ps =>
    cases t with
    | Name x p1 =>
      unfold stepS sAug at h
      dsimp only at h
      split at h
      · next hl =>
        split at h
        · next v e =>
          obtain ⟨h1, h⟩ := chk_ok h
          refine W1.aug hk hl (look_mem e) (Jd.to (hr.e c X _ st _ ρ h) fun u st1 ρ1 ag le h => ?_)
          rw [← V.re_eq ag h1]
          intro a b ta tb
          refine WT.mono (inV_ok h a b ta tb) ?_
          rintro _ _ _ ⟨w', st2, ρ2, rfl, rfl, rfl, ag2, le2, h⟩
          unfold bindN at h
          rw [hl] at h
          dsimp only at h
          split at h
          · next m' e' => exact ⟨_, setl_set e', (PS.here (P := P) (f := .next) (st := { st2 with m := m' }) h).up ((ag.trans ag2 le).le hp)⟩
          · exact h.elim
        · exact h.elim
      · exact h.elim
    | Attribute o x p1 =>
      refine W1.augA (Jd.to (hr.e c X _ st _ ρ h) fun ov st1 ρ1 ag le h => ?_)
      obtain ⟨h1, h⟩ := chk_ok h
      intro u t
      refine WT.mono (attrV_ok X hn h u t) ?_
      rintro _ _ _ ⟨old, st2, ρ2, rfl, rfl, rfl, ag2, le2, h⟩
      obtain ⟨h2, h⟩ := chk_ok h
      refine Jd.to (hr.e c X _ st2 _ ρ2 h) fun u st3 ρ3 ag3 le3 h => ?_
      rw [← V.re_eq ag3 h2]
      intro a b ta tb
      refine WT.mono (inV_ok h a b ta tb) ?_
      rintro _ _ _ ⟨w', st4, ρ4, rfl, rfl, rfl, ag4, le4, h⟩
      have ag' := (ag2.trans ag3 le2).trans ag4 (Nat.le_trans le2 le3)
      rw [← V.re_eq ag' h1]
      exact setV_ok X h fun st' h' _ => (PS.here (P := P) (f := .next) h').up ((ag.trans ag' le).le hp)
    | _ => exact h.elim
  | If t b o ps =>
    refine W1.if (Jd.to (hr.t c X _ st _ ρ h) fun b st1 ρ1 ag le h => ?_)
    refine ⟨fun e => ?_, fun e => ?_⟩
    · subst e; exact WT.mono (evSs_ok hr X h) fun _ _ _ p => p.up (ag.le hp)
    · subst e; exact WT.mono (evSs_ok hr X h) fun _ _ _ p => p.up (ag.le hp)
  | Return e ps =>
    cases e with
    | none => exact h.elim
    | some e =>
      exact W1.ret (Jd.to (hr.e c X _ st _ ρ h) fun v st1 ρ1 ag le h => (PS.here (P := P) (f := .ret v) h).up (ag.le hp))
  | Break ps => exact W1.brk (PS.here (P := P) (f := .brk) h)
  | Continue ps => exact W1.cont (PS.here (P := P) (f := .cont) h)
  | Pass ps => exact W1.pass (PS.here (P := P) (f := .next) h)
  | Expr e ps =>
    obtain ⟨h0, h⟩ := chk_ok h
    have hi : interactive (c.env P.sc) = false := by
      show (P.sc.kind == .module && _) = false
      rw [hk]; rfl
    refine W1.expr hi (swaps_no h0) (Jd.to (hr.e c X _ st _ ρ h) fun v st1 ρ1 ag le h => ?_)
    obtain ⟨h1, h⟩ := chk_ok h
    exact ⟨fun a e => by cases v <;> first | (cases e; done) | (cases h1; done), (PS.here (P := P) (f := .next) h).up (ag.le hp)⟩
  | While t b o ps => exact while_ok hr X h
  | For t it b o ps =>
    replace h := nilK_ok h
    obtain ⟨rfl, h⟩ := h
    cases t with
    | Name x p1 =>
      replace h := call1K_ok h
      rcases h with ⟨y, p2, e, p3, rfl, h⟩ | h
      · obtain ⟨h0, ha⟩ := chk_ok h
        clear h
        obtain ⟨h1, h⟩ := chk_ok ha
        clear ha
        have hy : y = N "range" := eq_of_beq h0
        subst hy
        refine W1.for (fun _ _ => rfl) (We.call1 X.ok (star_cons h1) (fun env => rfl) (Jd.to (evName_ok (ρ := ρ) (pos := p2) hk X h) fun f st1 ρ1 ag le h => ?_))
        split at h
        · refine ⟨ex_t, keepOk_t, Was.cons (star_cons h1) (Jd.to (hr.e c X _ st1 _ ρ1 h) fun v st2 ρ2 ag2 le2 h => Was.nil ?_)⟩
          split at h
          · next f i =>
            obtain ⟨h2, h3⟩ := h
            obtain ⟨i, rfl⟩ : ∃ i' : Nat, i = i' := ⟨i.toNat, by omega⟩
            refine c_range fun rr o ho => ?_
            rw [Int.toNat_natCast] at h3
            refine i_range ho (.head _) h3.1 fun it => ?_
            exact Wloop.pick (Picks.cons2 Picks.tail) (range_ok ((ag.trans ag2 le).le hp) hk hr X h3)
          · exact h.elim
        · exact h.elim
      · obtain ⟨h0, h⟩ := chk_ok h
        refine W1.for (folded_no h0) (Jd.to (hr.e c X _ st _ ρ h) fun v st1 ρ1 ag le h => ?_)
        split at h
        · exact for_ok (ag.le hp) hk hr X h
        · exact h.elim
    | Tuple es kk tp =>
      replace h := two1_ok h
      obtain ⟨a, a', rfl, h⟩ := h
      replace h := nameK_ok h
      obtain ⟨x, p1, rfl, h⟩ := h
      replace h := nameK_ok h
      obtain ⟨y, p2, rfl, h⟩ := h
      replace h := call1K_ok h
      rcases h with ⟨f, p3, e, p4, rfl, h⟩ | h
      · obtain ⟨h0, ha⟩ := chk_ok h
        clear h
        obtain ⟨h1, h⟩ := chk_ok ha
        clear ha
        have hy : f = N "enumerate" := eq_of_beq h0
        subst hy
        refine W1.for (fun _ _ => rfl) (We.call1 X.ok (star_cons h1) (fun env => rfl) (Jd.to (evName_ok (ρ := ρ) (pos := p3) hk X h) fun fv st1 ρ1 ag le h => ?_))
        split at h
        · refine ⟨ex_t, keepOk_t, Was.cons (star_cons h1) (Jd.to (hr.e c X _ st1 _ ρ1 h) fun v st2 ρ2 ag2 le2 h => Was.nil ?_)⟩
          split at h
          · next i =>
            obtain ⟨xs, hm, hl⟩ := enum_ok (ρ := ρ2) (p := p1) (q := p2) (kk := kk) (tp := tp) ((ag.trans ag2 le).le hp) hk hr X h
            refine c_enum hm fun e it hne => ?_
            exact i_enum (.head _) (hl e it hne)
          · exact h.elim
        · exact h.elim
      · exact h.elim
    | _ => exact h.elim
  | Try b hs o f ps =>
    replace h := nilK_ok h
    obtain ⟨rfl, h⟩ := h
    replace h := nilK_ok h
    obtain ⟨rfl, h⟩ := h
    refine W1.try X.ok fun c' e1 e2 e3 ok' => ?_
    have := evSs_ok (ρ := ρ) hr (X.setE e1 e2 e3 ok') h
    rw [e3, PS.cl e3] at this
    exact this
  | _ => exact h.elim
end
theorem step_ok {w : World} {os : OsState} {n : Nat} {P : Pm} {r : Ev} (hC : CTok w os n P.C) (hk : P.sc.kind = .function) (hn : 2 ≤ n) (hr : ESound w os n P r) : ESound w os n P (step P r) :=
  ⟨fun c X e st k ρ h => stepE_ok hC hk hn hr X h, fun c X e st k ρ h => stepT_ok hn hr X h, fun c X s st k ρ hp h => stepS_ok hp hC hk hn hr X h⟩
theorem evN_ok {w : World} {os : OsState} {n : Nat} {P : Pm} (hC : CTok w os n P.C) (hk : P.sc.kind = .function) (hn : 2 ≤ n) : ∀ j, ESound w os n P (evN P j)
  | 0 => ⟨fun _ _ _ _ _ _ h => h.elim, fun _ _ _ _ _ _ h => h.elim, fun _ _ _ _ _ _ _ h => h.elim⟩
  | j + 1 => step_ok hC hk hn (evN_ok hC hk hn j)
noncomputable abbrev pm (C : CT) (st : Stmt) (pn : Nat) : Pm := ⟨C, scopeOf st, [], pn⟩
noncomputable def retV : Fl → V
  | .ret v => v
  | _ => .none
theorem retV_re {ρ : Nat → Addr} {f : Fl} : retOf (f.re ρ) = (retV f).re ρ := by cases f <;> rfl
theorem Fn.ev {w : World} {os : OsState} {n j : Nat} {fa : Addr} {stmt : Stmt} (F : FOk w fa stmt) {P : Pm} (hsc : P.sc = scopeOf stmt) (hcn : P.cn = []) (hC : CTok w os n P.C) (hn : 2 ≤ n) {args : List Value} {st0 : St} {ρ : Nat → Addr} (hc0 : st0.c = [])
    (hnd : decide ((st0.m.map (·.1)).Nodup) = true) (hb : ∀ vs, TeqL args vs → ∃ binds, bindArgs (fdAt w fa) ⟨vs, []⟩ = pure binds ∧ (binds.all (fun x => (scopeOf stmt).names.lookup x.1 == some .local)) = true ∧ BLoc binds (mre ρ st0.m)) {K : V → St → Prop}
    (h : evSs P (evN P j) (bodyOf stmt) st0 (fun f st => K (retV f) st)) : Fn w os (n + 1) (.ref fa) args [] (hre ρ st0.h) (fun v σ => ∃ v' st' ρ', v = v'.re ρ' ∧ Agree P.pn ρ ρ' ∧ K v' st' ∧ σ = hre ρ' st'.h) := by
  refine Fn.top0 F (by unfold mre; rw [List.map_map]; exact hnd) hb ?_
  rintro c rfl rfl ecl ok
  have X : Cx c.w c.os n P.cn c := ⟨rfl, rfl, by rw [ecl, hcn]; rfl, ok⟩
  have hs := evSs_ok (ρ := ρ) (evN_ok hC (by rw [hsc]; exact F.hk) hn j) X h
  have e0 : st0.sto c.cl ρ = hre ρ st0.h := by unfold St.sto cre; rw [hc0]; rfl
  rw [e0, hsc] at hs
  refine WT.mono hs ?_
  rintro f m σ ⟨f', st', ρ', rfl, b, ag, hk⟩
  refine ⟨hre ρ' st'.h, ?_, retV f', st', ρ', retV_re, ag, hk, rfl⟩
  exact Picks.trans b.2.2 (Picks.of_perm (τ := cre ρ' c.cl st'.c) List.perm_append_comm)
noncomputable def RetF (w : World) (os : OsState) (n : Nat) (f : Value) (pn : Nat) (vs : List V) (h0 : List (Nat × O)) (v : V) (h1 : List (Nat × O)) : Prop :=
  ∀ ρ, Fn w os n f (vs.map (V.re ρ)) [] (hre ρ h0) (fun u σ => ∃ ρ', Agree pn ρ ρ' ∧ u = v.re ρ' ∧ σ = hre ρ' h1)
noncomputable def Kret (pn : Nat) (v : V) (h1 : List (Nat × O)) (u : V) (st : St) : Prop := ∃ ls v' h', u.ren (iota pn 0 ++ ls) = some v' ∧ canonH (iota pn 0 ++ ls) (iota pn 0 ++ ls) 0 st.h = some h' ∧ (∀ ρ, v'.re ρ = v.re ρ) ∧ ∀ ρ, hre ρ h' = hre ρ h1
theorem Fn.picks {w : World} {os : OsState} {n : Nat} {f : Value} {args : List Value} {kw : List (Str × Value)} {σ : Sto} {Q Q' : Value → Sto → Prop} (h : Fn w os n f args kw σ Q) (k : ∀ v σ', Q v σ' → ∃ φ, Picks σ' φ ∧ Q' v φ) : Fn w os n f args kw σ Q' :=
  fun A g E s vs ks b r hh ht hk hs => codeAny_mono (h A g E s vs ks b r hh ht hk hs) (Fp.mono fun v σ' s' q z => let ⟨φ, ⟨τ, hp⟩, hq⟩ := k v σ' q; ⟨φ, hq, (z.perm hp.perm).sub (List.sublist_append_left φ τ)⟩)
theorem RetF.ev {w : World} {os : OsState} {n j pn : Nat} {fa : Addr} {stmt : Stmt} (F : FOk w fa stmt) {C : CT} (hC : CTok w os n C) (hn : 2 ≤ n) {vs : List V} {m0 : List (Str × Option V)} {h0 h1 : List (Nat × O)} {nx : Nat} {v : V}
    (hnd : decide ((m0.map (·.1)).Nodup) = true) (hb : ∀ ρ us, TeqL (vs.map (V.re ρ)) us → ∃ binds, bindArgs (fdAt w fa) ⟨us, []⟩ = pure binds ∧ (binds.all (fun x => (scopeOf stmt).names.lookup x.1 == some .local)) = true ∧ BLoc binds (mre ρ m0))
    (h : evSs ⟨C, scopeOf stmt, [], pn⟩ (evN ⟨C, scopeOf stmt, [], pn⟩ j) (bodyOf stmt) ⟨m0, [], h0, nx⟩ (fun f st => Kret pn v h1 (retV f) st)) : RetF w os (n + 1) (.ref fa) pn vs h0 v h1 := by
  intro ρ
  refine (Fn.ev (ρ := ρ) F rfl rfl hC hn (st0 := ⟨m0, [], h0, nx⟩) rfl hnd (hb ρ) h).picks ?_
  rintro u σ ⟨v', st', ρ', rfl, ag, ⟨ls, u', h', h1, h2, h3, h4⟩, rfl⟩
  refine ⟨_, canonH_ok (ρ := ρ') (fun i l hi => by simpa using hi) h2, _, ag.trans pin_ok (Nat.le_refl _), (ren_ok h1).symm.trans (h3 _), h4 _⟩
noncomputable def shV (d : Nat) : V → V
  | .loc i => .loc (i + d)
  | v => v
noncomputable def shVs (d : Nat) : List V → List V
  | [] => []
  | v :: r => shV d v :: shVs d r
noncomputable def shK (d : Nat) : List (Str × V) → List (Str × V)
  | [] => []
  | p :: r => (p.1, shV d p.2) :: shK d r
noncomputable def shO (d : Nat) : O → O
  | .tup xs => .tup (shVs d xs)
  | .inst C i => .inst C (i + d)
  | .dict kvs => .dict (shK d kvs)
  | o => o
noncomputable def shH (d : Nat) : List (Nat × O) → List (Nat × O) → List (Nat × O)
  | [], r => r
  | p :: l, r => (p.1 + d, shO d p.2) :: shH d l r
noncomputable def giveH (v : V) (h : List (Nat × O)) (j : Nat) (st : St) (k : K1) : Prop := chk st.ok (k (shV st.nx v) { st with h := shH st.nx h st.h, nx := st.nx + j })
section
variable {ρ ρ' ρ'' : Nat → Addr} {d : Nat} (e : ∀ i, ρ'' (i + d) = ρ' i)
include e
theorem shV_re {v : V} : (shV d v).re ρ'' = v.re ρ' := by
  cases v with
  | loc i => exact congrArg Value.ref (e i)
  | _ => rfl
theorem shVs_re : ∀ {l : List V}, (shVs d l).map (V.re ρ'') = l.map (V.re ρ')
  | [] => rfl
  | v :: r => by unfold shVs; rw [List.map_cons, List.map_cons, shV_re e, shVs_re]
theorem shK_re : ∀ {l : List (Str × V)}, ((shK d l).map fun p => (p.1, p.2.re ρ'')) = l.map fun p => (p.1, p.2.re ρ')
  | [] => rfl
  | v :: r => by unfold shK; rw [List.map_cons, List.map_cons, shV_re e, shK_re]
theorem shO_re {o : O} : (shO d o).re ρ'' = o.re ρ' := by
  cases o with
  | tup xs => exact congrArg AO.tup (shVs_re e)
  | inst C i => exact congrArg (AO.inst C) (e i)
  | dict kvs => exact congrArg AO.idict (shK_re e)
  | _ => rfl
theorem shH_re : ∀ {l r : List (Nat × O)}, hre ρ'' (shH d l r) = hre ρ' l ++ hre ρ'' r
  | [], r => rfl
  | p :: l, r => by
    unfold shH
    show (_, _) :: _ = (_, _) :: _
    rw [e, shO_re e]
    congr 1
    exact shH_re
end
theorem give_ok {w : World} {os : OsState} {n n' : Nat} {f : Value} {vs : List V} {v : V} {h1 : List (Nat × O)} {j : Nat} (R : RetF w os n' f 0 vs [] v h1) {c : Fx} (e1 : c.w = w) (e2 : c.os = os) (ok : c.Ok n) (hn : n' ≤ n) {st : St} {k : K1} (h : giveH v h1 j st k) {ρ : Nat → Addr} {us : List Value} (ht : TeqL (vs.map (V.re ρ)) us) :
    WT c Teq (call f us []) (mre ρ st.m) (st.sto c.cl ρ) (Post c V.re st.nx ρ k) := by
  subst e1 e2
  obtain ⟨h0, h⟩ := chk_ok h
  have key := (R ρ).mono (Q' := fun u σ' => ∃ ρ', u = v.re ρ' ∧ σ' = hre ρ' h1) (fun u σ' ⟨ρ', _, a, b⟩ => ⟨ρ', a, b⟩)
  have key2 : Fn c.w c.os n' f (vs.map (V.re ρ)) [] (st.sto c.cl ρ ++ []) (fun u σ' => ∃ ρ', u = v.re ρ' ∧ σ' = st.sto c.cl ρ ++ hre ρ' h1) := Fn.beside (key.mono fun u σ' ⟨ρ', a, b⟩ => ⟨ρ', a, by rw [b]⟩)
  rw [List.append_nil] at key2
  refine WT.gc (WT.call (kw := []) (ks := []) (Q := fun u m σ' => m = mre ρ st.m ∧ ∃ ρ', u = v.re ρ' ∧ σ' = st.sto c.cl ρ ++ hre ρ' h1) ok hn ht .nil (key2.mono fun u σ' x => ⟨rfl, x⟩)) ?_
  rintro u m σ' ⟨rfl, ρ', rfl, rfl⟩
  have hle : st.nx ≤ st.nx + j := Nat.le_add_right ..
  have ag : Agree st.nx ρ (fun i => if i < st.nx then ρ i else ρ' (i - st.nx)) := fun i hi => if_pos hi
  have e : ∀ i, (fun i => if i < st.nx then ρ i else ρ' (i - st.nx)) (i + st.nx) = ρ' i := fun i => by
    show (if i + st.nx < st.nx then _ else _) = _
    rw [if_neg (by omega), Nat.add_sub_cancel]
  obtain ⟨q1, q2⟩ := st.ok_eq ag h0 c.cl
  refine ⟨St.sto c.cl (fun i => if i < st.nx then ρ i else ρ' (i - st.nx)) { st with h := shH st.nx h1 st.h, nx := st.nx + j }, ?_, shV st.nx v, { st with h := shH st.nx h1 st.h, nx := st.nx + j }, _, (shV_re e).symm, q1.symm, rfl, ag, hle, h⟩
  refine Picks.of_perm (τ := []) ?_
  rw [List.append_nil]
  show (cre _ c.cl st.c ++ hre _ (shH st.nx h1 st.h)).Perm _
  rw [shH_re e, ← q2]
  show (cre _ c.cl st.c ++ (hre ρ' h1 ++ hre _ st.h)).Perm ((cre _ c.cl st.c ++ hre _ st.h) ++ hre ρ' h1)
  rw [List.append_assoc]
  exact List.Perm.append_left _ List.perm_append_comm
theorem Fn.core {w : World} {os : OsState} {n : Nat} {fa : Addr} {σ : Sto} {Q : Value → Sto → Prop} {fd : FuncData} {body : List Stmt} {m₀ : Loc} {A : Around} {g : Heap} {E : Value → Shared → Prop} {E' : Value → Shared → Prop} {s : Shared} {binds : List (Str × Value)}
    (hgl : fd.globals = mainGlobals ∧ fd.builtins = builtinsNs ∧ fd.closure = []) (hcell : ∀ x ∈ fd.scope.names, x.2 ≠ .cell) (hk : fd.scope.kind = .function) (hnd : (m₀.map (·.1)).Nodup)
    (b : Bg w g) (r : Room (n + 1) A) (hh : A.handled = none) (hs : Sr w os g σ s) (hloc : ∀ x ∈ binds, fd.scope.names.lookup x.1 = some .local) (hbm : ∀ x v, (x, some v) ∈ m₀ → ∃ v', binds.reverse.lookup x = some v' ∧ Teq v v')
    (h : ∀ c : Fx, c.w = w → c.os = os → c.cl = [] → c.Ok n → Wx c fd.scope body m₀ σ (endQ Q)) :
    wpAny (MM w) A.in1 (newFunctionEnv fd.scope fd.globals fd.closure binds (fd.qualname ++ ".<locals>.") (some fa) fd.code none fd.builtins) (fun env s₂ => s₂.heap.NoLimit ∧ codeAny (MM w) A (.func body env) (Fp w os g E Q) s₂) E' s := by
  refine wpAny_newFunctionEnv hcell hloc (fun h₁ hns hsb₁ => ⟨(hs.bg b).nolim.fresh _ hsb₁, codeAny_func ?_⟩) hk
  have hk₁ : ∀ b o, s.heap.get? b = some o → h₁.get? b = some o := fun b o e => hsb₁.extBut b o (Nat.ne_of_lt (Heap.lt_size e)) (Heap.get?_push_of_some _ e)
  have hwp := h (fxD w A g os s.heap.objs.size fa fd E) rfl rfl rfl
    ⟨b, hh, by show A.depth + 1 + 2 * n < recursionLimit ∧ A.units + 3 + 30 * n < cLine; unfold Room at r; omega⟩ { s with heap := h₁, toks := s.toks + binds.length } ?_
  · have ee : Fx.env (fxD w A g os s.heap.objs.size fa fd E) fd.scope = newEnv fd.scope s.heap.objs.size fd.globals fd.closure (fd.qualname ++ ".<locals>.") (some fa) fd.code none fd.builtins := by
      unfold newEnv Fx.env fxD
      rw [hgl.1, hgl.2.1, hgl.2.2]
    have ee2 : callEnv fd s.heap.objs.size fa = newEnv fd.scope s.heap.objs.size fd.globals fd.closure (fd.qualname ++ ".<locals>.") (some fa) fd.code none fd.builtins := by
      rw [← ee]
      show newEnv _ _ _ _ _ _ _ _ _ = _
      unfold newEnv Fx.env fxD
      rw [hgl.1, hgl.2.1, hgl.2.2]
    rw [ee, ← ee2] at hwp
    rw [← ee2]
    refine wpm hwp (fun f s' f' m' σ' t1 z hs1 => ?_) fun _ _ e => e
    obtain ⟨φ, ⟨τ, htk⟩, h1⟩ := z
    have hs2 : Sr0 w os g φ s' := ((hs1.sub (List.sublist_cons_self ..)).perm htk.perm).sub (List.sublist_append_left φ τ)
    cases t1 with
    | ret t => exact ⟨_, φ, t, h1, hs2⟩
    | next => exact ⟨_, φ, .same _, h1, hs2⟩
    | brk => exact ⟨_, φ, .same _, h1, hs2⟩
    | cont => exact ⟨_, φ, .same _, h1, hs2⟩
  · exact hs.enter hns hk₁ hnd hbm _
theorem Fn.star {w : World} {os : OsState} {n j : Nat} {fa : Addr} {stmt : Stmt} (F : FOk w fa stmt) {x y : Str} (hbind : ∀ v1 rest, bindArgs (fdAt w fa) ⟨v1 :: rest, []⟩ = (do let t ← newTuple rest; pure [(x, v1), (y, t)]))
    (hl : (scopeOf stmt).names.lookup x = some .local ∧ (scopeOf stmt).names.lookup y = some .local ∧ (y == x) = false) {C : CT} (hC : CTok w os n C) (hn : 2 ≤ n) {a : Str} {ps : List Str} (hz : ps.length ≤ sizeLine) {lc : List Str} (hnd : decide ((x :: y :: lc).Nodup) = true) {K : V → St → Prop}
    (h : evSs (pm C stmt 0) (evN (pm C stmt 0) j) (bodyOf stmt) ⟨(x, some (.str false a)) :: (y, some (.loc 0)) :: lc.map (fun z => (z, none)), [], [(0, .tups ps)], 1⟩ (fun f st => K (retV f) st)) :
    Fn w os (n + 1) (.ref fa) (S a :: ps.map S) [] [] (fun v σ => ∃ v' st' ρ', v = v'.re ρ' ∧ K v' st' ∧ σ = hre ρ' st'.h) := by
  intro A g E s vs ks b r hh ht hkw hs
  cases ht with
  | @cons _ v1 _ rest t1 ht =>
  have X := (hs.bg b).kk
  have hks : ks = [] := hkw.inv0
  subst hks
  refine codeAny_call_function (by unfold Room at r; omega) (X _ _ F.ho) rfl (by rw [F.hsc]; exact F.hco) (by rw [F.hsc]; exact F.hgen) F.hbody (codeRec_of X F.hcd) ?_
  have hbd := hbind v1 rest
  show wpAny _ A.in1 (bindArgs (fdAt w fa) ⟨v1 :: rest, []⟩) _ _ s
  rw [hbd]
  refine wpAny_bind (wpAny_newTuple (wpAny_pure ?_) (by rw [← ht.length, List.length_map]; exact hz))
  have hs1 : Sr w os g [(s.heap.objs.size, .tup (ps.map S))] { s with heap := s.heap.push { cls := .type "tuple", data := .seq rest.toArray } } := ⟨hs.toSr0.new (x := .tup (ps.map S)) rfl ⟨_, _, rfl, by simpa using ht⟩ s.toks, hs.tk⟩
  refine Fn.core (n := n) (m₀ := mre (fun _ => s.heap.objs.size) ((x, some (.str false a)) :: (y, some (.loc 0)) :: lc.map (fun z => (z, none)))) ⟨F.g1, F.g2, F.g3⟩ ?_ (by rw [F.hsc]; exact F.hk) ?_ b r hh hs1 ?_ ?_ ?_
  · rw [F.hsc]
    intro z hz e
    have := List.all_eq_true.mp F.hcell z hz
    rw [e] at this; exact absurd this (by decide)
  · have e : ∀ l : List Str, ((mre (fun _ => s.heap.objs.size) (l.map (fun z => (z, none)))).map (·.1)) = l := by
      intro l
      unfold mre
      rw [List.map_map, List.map_map]
      show l.map (fun z => z) = l
      simp
    show (x :: y :: ((mre (fun _ => s.heap.objs.size) (lc.map (fun z => (z, none)))).map (·.1))).Nodup
    rw [e]; exact of_decide_eq_true hnd
  · intro z hz
    rw [F.hsc]
    rcases List.mem_cons.mp hz with rfl | hz
    · exact hl.1
    · rcases List.mem_cons.mp hz with rfl | hz
      · exact hl.2.1
      · cases hz
  · intro z v hm
    rcases List.mem_cons.mp hm with e | hm
    · have e1 : z = x := congrArg Prod.fst e
      have e2 : some v = some (S a) := congrArg Prod.snd e
      cases e2; subst e1
      refine ⟨v1, ?_, t1⟩
      show List.lookup z [(y, Value.ref s.heap.objs.size), (z, v1)] = _
      rw [List.lookup_cons]
      have : (z == y) = false := by
        cases q : z == y with
        | false => rfl
        | true => rw [eq_of_beq q] at hl; simp at hl
      rw [this]; simp [List.lookup]
    · rcases List.mem_cons.mp hm with e | hm
      · have e1 : z = y := congrArg Prod.fst e
        have e2 : some v = some (.ref s.heap.objs.size) := congrArg Prod.snd e
        cases e2; subst e1
        refine ⟨_, ?_, .same _⟩
        show List.lookup z [(z, Value.ref s.heap.objs.size), (x, v1)] = _
        simp [List.lookup]
      · obtain ⟨p, hp, e⟩ := List.mem_map.mp hm
        obtain ⟨q, hq, rfl⟩ := List.mem_map.mp hp
        have := congrArg Prod.snd e
        cases this
  · rintro c rfl rfl ecl ok
    have XX : Cx c.w c.os n [] c := ⟨rfl, rfl, by rw [ecl]; rfl, ok⟩
    have key := evSs_ok (ρ := fun _ => s.heap.objs.size) (evN_ok (P := pm C stmt 0) hC F.hk hn j) XX h
    have e0 : St.sto c.cl (fun _ => s.heap.objs.size) ⟨(x, some (.str false a)) :: (y, some (.loc 0)) :: lc.map (fun z => (z, none)), [], [(0, .tups ps)], 1⟩ = [(s.heap.objs.size, .tup (ps.map S))] := rfl
    rw [e0] at key
    rw [F.hsc]
    refine WT.mono key ?_
    rintro f m σ ⟨f', st', ρ', rfl, bl, ag, hk⟩
    refine ⟨hre ρ' st'.h, ?_, retV f', st', ρ', retV_re, hk, rfl⟩
    exact Picks.trans bl.2.2 (Picks.of_perm (τ := cre ρ' c.cl st'.c) List.perm_append_comm)
noncomputable def cB : CT := fun f vs kw st k => nilK kw (isTy f fun t => match t with
  | .type => one_ vs fun v => (match v with
    | .str _ _ => k (.typ .str) st
    | .int _ _ => k (.typ .int) st
    | _ => False)
  | _ => False)
theorem cB_ok (w : World) (os : OsState) (n : Nat) : CTok w os n cB := by
  intro f vs kw st k h c e1 e2 ok ρ us ks ht hk
  obtain ⟨rfl, h⟩ := nilK_ok h
  obtain ⟨t, rfl, h⟩ := isTy_ok h
  cases hk
  cases t with
  | type =>
    obtain ⟨v, rfl, h⟩ := one_ok_ h
    cases v with
    | str f x => exact c_type_str (Post.here (b := V.typ _) h) us ht
    | int f x => exact c_type_int (Post.here (b := V.typ _) h) us ht
    | _ => exact h.elim
  | _ => exact h.elim
noncomputable def cAdd (a : Nat) (g : List V → St → K1 → Prop) (C : CT) : CT := fun f vs kw st k => match f, kw with
  | .gl b, [] => (match Nat.beq b a with | true => g vs st k | false => C f vs kw st k)
  | f, kw => C f vs kw st k
theorem CTok.le {w : World} {os : OsState} {n n' : Nat} {C : CT} (h : CTok w os n C) (k : n ≤ n') : CTok w os n' C := by
  intro f vs kw st K hc c e1 e2 ok
  exact h f vs kw st K hc c e1 e2 ⟨ok.bg, ok.hh, ok.room.le k⟩
theorem cAdd_ok {w : World} {os : OsState} {n : Nat} {a : Nat} {g : List V → St → K1 → Prop} {C : CT} (hC : CTok w os n C)
    (hg : ∀ vs st k, g vs st k → ∀ c : Fx, c.w = w → c.os = os → c.Ok n → ∀ ρ us, TeqL (vs.map (V.re ρ)) us → WT c Teq (call (.ref a) us []) (mre ρ st.m) (st.sto c.cl ρ) (Post c V.re st.nx ρ k)) : CTok w os n (cAdd a g C) := by
  intro f vs kw st k h c e1 e2 ok ρ us ks ht hk
  unfold cAdd at h
  split at h
  · split at h
    · next e => cases Nat.eq_of_beq_eq_true e; cases hk; exact hg _ _ _ h c e1 e2 ok ρ us ht
    · exact hC _ _ _ _ _ h c e1 e2 ok ρ us ks ht hk
  · exact hC _ _ _ _ _ h c e1 e2 ok ρ us ks ht hk
theorem pure_ok {w : World} {os : OsState} {n n' : Nat} {f : Value} {vs : List V} {v : V} (R : RetF w os n' f 0 vs [] v []) (hv : v.ok 0 = true) {c : Fx} (e1 : c.w = w) (e2 : c.os = os) (ok : c.Ok n) (hn : n' ≤ n) {st : St} {k : K1} (h : k v st) {ρ : Nat → Addr} {us : List Value} (ht : TeqL (vs.map (V.re ρ)) us) :
    WT c Teq (call f us []) (mre ρ st.m) (st.sto c.cl ρ) (Post c V.re st.nx ρ k) := by
  subst e1 e2
  have key2 : Fn c.w c.os n' f (vs.map (V.re ρ)) [] (st.sto c.cl ρ ++ []) (fun u σ' => u = v.re ρ ∧ σ' = st.sto c.cl ρ) := Fn.beside ((R ρ).mono fun u σ' ⟨ρ', _, a, b⟩ => ⟨by rw [a]; cases v <;> first | rfl | (cases hv; done), by rw [b]; exact List.append_nil _⟩)
  rw [List.append_nil] at key2
  refine WT.mono (WT.call (kw := []) (ks := []) (Q := fun u m σ' => m = mre ρ st.m ∧ u = v.re ρ ∧ σ' = st.sto c.cl ρ) ok hn ht .nil (key2.mono fun u σ' x => ⟨rfl, x⟩)) ?_
  rintro u m σ' ⟨rfl, rfl, rfl⟩
  exact Post.here h
noncomputable def J0 : Nat := 40
theorem fspath_r (w : World) (os : OsState) (g : Bool) (x : Str) : RetF w os 3 (.ref 117) 0 [.str g x] [] (.str g x) [] := by
  refine RetF.ev (j := J0) (nx := 0) (m0 := [(N "path", some (.str g x)), (N "kind", none)]) (f_fspath w) (cB_ok w os 2) (by decide) (by kernel_rfl) (fun ρ us h => ?_) ?_
  · obtain ⟨v1, rfl, t1⟩ := h.inv1
    exact ⟨[(N "path", v1)], by kernel_rfl, by kernel_rfl, .yes (by kernel_rfl) t1 (.no .nil)⟩
  · have key : Kret 0 (.str g x) [] (.str g x) ⟨[(N "path", some (.str g x)), (N "kind", some (.typ .str))], [], [(0, .tup [.typ .str, .typ .bytes])], 1⟩ := ⟨[], _, _, rfl, rfl, fun _ => rfl, fun _ => rfl⟩
    exact Eq.mpr (by kernel_rfl) key
theorem f_getsep (w : World) : FOk w 131 (topSt 16) := by constructor <;> kernel_rfl
theorem getsep_r (w : World) (os : OsState) (g : Bool) (x : Str) : RetF w os 3 (.ref 131) 0 [.str g x] [] (.str true (N "/")) [] := by
  refine RetF.ev (j := J0) (nx := 0) (m0 := [(N "path", some (.str g x))]) (f_getsep w) (cB_ok w os 2) (by decide) (by kernel_rfl) (fun ρ us h => ?_) ?_
  · obtain ⟨v1, rfl, t1⟩ := h.inv1
    exact ⟨[(N "path", v1)], by kernel_rfl, by kernel_rfl, .yes (by kernel_rfl) t1 .nil⟩
  · have key : Kret 0 (.str true (N "/")) [] (.str true (N "/")) ⟨[(N "path", some (.str g x))], [], [], 0⟩ := ⟨[], _, _, rfl, rfl, fun _ => rfl, fun _ => rfl⟩
    exact Eq.mpr (by kernel_rfl) key
noncomputable def c1 : CT := cAdd 131 (fun vs st k => match vs with | [.str _ _] => k (.str true (N "/")) st | _ => False) (cAdd 117 (fun vs st k => match vs with | [.str g x] => k (.str g x) st | _ => False) cB)
theorem c1_ok (w : World) (os : OsState) : CTok w os 3 c1 := by
  refine cAdd_ok (cAdd_ok (cB_ok w os 3) ?_) ?_
  · intro vs st k h c e1 e2 ok ρ us ht
    split at h
    · exact pure_ok (fspath_r w os _ _) rfl e1 e2 ok (Nat.le_refl _) h ht
    · exact h.elim
  · intro vs st k h c e1 e2 ok ρ us ht
    split at h
    · exact pure_ok (getsep_r w os _ _) rfl e1 e2 ok (Nat.le_refl _) h ht
    · exact h.elim
theorem f_splitroot (w : World) : FOk w 145 (topSt 19) := by constructor <;> kernel_rfl
noncomputable def splitrootP (p : Str) : Str × Str :=
  if Txt.slice p none (some 1) != N "/" then (N "", p)
  else if Txt.slice p (some 1) (some 2) != N "/" || Txt.slice p (some 2) (some 3) == N "/" then (N "/", Txt.slice p (some 1) none)
  else (Txt.slice p none (some 2), Txt.slice p (some 2) none)
noncomputable def splitrootO (x : Str) : List (Nat × O) := [(0, .tup [.str true (N ""), .str false (splitrootP x).1, .str false (splitrootP x).2])]
theorem splitroot_r (w : World) (os : OsState) (x : Str) (hx : x.length ≤ sizeLine) : RetF w os 4 (.ref 145) 0 [.str false x] [] (.loc 0) (splitrootO x) := by
  have hb : ∀ ρ us, TeqL ([V.str false x].map (V.re ρ)) us → ∃ binds, bindArgs (fdAt w 145) ⟨us, []⟩ = pure binds ∧ (binds.all (fun y => (scopeOf (topSt 19)).names.lookup y.1 == some .local)) = true ∧ BLoc binds (mre ρ [(N "p", some (.str false x)), (N "sep", none), (N "empty", none)]) := by
    intro ρ us h
    obtain ⟨v1, rfl, t1⟩ := h.inv1
    exact ⟨[(N "p", v1)], by kernel_rfl, by kernel_rfl, .yes (by kernel_rfl) t1 (.no (.no .nil))⟩
  have go : ∀ h1, evSs (pm c1 (topSt 19) 0) (evN (pm c1 (topSt 19) 0) J0) (bodyOf (topSt 19)) ⟨[(N "p", some (.str false x)), (N "sep", none), (N "empty", none)], [], [], 0⟩ (fun f st => Kret 0 (.loc 0) h1 (retV f) st) → RetF w os 4 (.ref 145) 0 [.str false x] [] (.loc 0) h1 :=
    fun h1 h => RetF.ev (j := J0) (nx := 0) (f_splitroot w) (c1_ok w os) (by decide) (by kernel_rfl) hb h
  have vc : ∀ k : Fl → St → Prop, evSs (pm c1 (topSt 19) 0) (evN (pm c1 (topSt 19) 0) J0) (bodyOf (topSt 19)) ⟨[(N "p", some (.str false x)), (N "sep", none), (N "empty", none)], [], [], 0⟩ k =
     (x.length ≤ sizeLine ∧ (
       ((Txt.slice x none (some 1) != N "/") = true → k (.ret (.loc 0)) ⟨[(N "p", some (.str false x)), (N "sep", some (.str true (N "/"))), (N "empty", some (.str true (N "")))], [], [(0, .tup [.str true (N ""), .str true (N ""), .str false x])], 1⟩) ∧
       ((Txt.slice x none (some 1) != N "/") = false →
         (x.length ≤ sizeLine ∧
         (((Txt.slice x (some 1) (some 2) != N "/") = true →
            x.length ≤ sizeLine ∧ k (.ret (.loc 0)) ⟨[(N "p", some (.str false x)), (N "sep", some (.str true (N "/"))), (N "empty", some (.str true (N "")))], [], [(0, .tup [.str true (N ""), .str true (N "/"), .str false (Txt.slice x (some 1) none)])], 1⟩) ∧
          ((Txt.slice x (some 1) (some 2) != N "/") = false →
             x.length ≤ sizeLine ∧ (((Txt.slice x (some 2) (some 3) == N "/") = true →
              x.length ≤ sizeLine ∧ k (.ret (.loc 0)) ⟨[(N "p", some (.str false x)), (N "sep", some (.str true (N "/"))), (N "empty", some (.str true (N "")))], [], [(0, .tup [.str true (N ""), .str true (N "/"), .str false (Txt.slice x (some 1) none)])], 1⟩) ∧
             ((Txt.slice x (some 2) (some 3) == N "/") = false →
              x.length ≤ sizeLine ∧ (x.length ≤ sizeLine ∧ k (.ret (.loc 0)) ⟨[(N "p", some (.str false x)), (N "sep", some (.str true (N "/"))), (N "empty", some (.str true (N "")))], [], [(0, .tup [.str true (N ""), .str false (Txt.slice x none (some 2)), .str false (Txt.slice x (some 2) none)])], 1⟩))))))))) := by
    intro k; kernel_rfl
  have one : ∀ (m : List (Str × Option V)) (f1 f2 f3 : Bool) (a b : Str), splitrootP x = (a, b) → Kret 0 (.loc 0) (splitrootO x) (.loc 0) ⟨m, [], [(0, .tup [.str f1 (N ""), .str f2 a, .str f3 b])], 1⟩ := by
    intro m f1 f2 f3 a b e
    refine ⟨[0], _, _, rfl, rfl, fun _ => rfl, fun ρ => ?_⟩
    unfold splitrootO; rw [e]; rfl
  refine go _ (Eq.mpr (vc _) ⟨hx, fun h => one _ _ _ _ _ _ ?_, fun h => ⟨hx, fun h1 => ⟨hx, one _ _ _ _ _ _ ?_⟩, fun h1 => ⟨hx, fun h2 => ⟨hx, one _ _ _ _ _ _ ?_⟩, fun h2 => ⟨hx, hx, one _ _ _ _ _ _ ?_⟩⟩⟩⟩)
  · unfold splitrootP; rw [if_pos h]
  · unfold splitrootP; rw [if_neg (by rw [h]; decide), if_pos (by rw [h1]; rfl)]
  · unfold splitrootP; rw [if_neg (by rw [h]; decide), if_pos (by rw [h2, Bool.or_true])]
  · unfold splitrootP; rw [if_neg (by rw [h]; decide), if_neg (by rw [h1, h2]; decide)]
noncomputable def inner : Stmt → List Stmt
  | .For _ _ b _ _ => b
  | .While _ b _ _ => b
  | .If _ b _ _ => b
  | _ => []
noncomputable def seqK (P : Pm) (r : Ev) (rest : List Stmt) (k : Fl → St → Prop) : Fl → St → Prop := fun f st1 => match f with
  | .next => evSs P r rest st1 k
  | .brk => k .brk st1
  | .cont => k .cont st1
  | .ret v => k (.ret v) st1
theorem bindN_mono {P : Pm} {x : Str} {v : V} {st : St} {k k' : St → Prop} (h : bindN P x v st k) (m : ∀ st, k st → k' st) : bindN P x v st k' := by
  unfold bindN at h ⊢
  split at h
  · split at h
    · next e => exact m _ h
    · exact h.elim
  · obtain ⟨h1, h⟩ := chk_ok h
    rw [h1]
    show (match setl st.c x v with | some c' => k' { st with c := c' } | none => False)
    split at h
    · next e => first | (rw [e]; exact m _ h) | exact m _ h
    · exact h.elim
  · exact h.elim
theorem ForVC.intro {P : Pm} {r : Ev} {x : Str} {i : Nat} {b : List Stmt} {st : St} {k : Fl → St → Prop} {o : O} {h' : List (Nat × O)} {n : Nat} {at_ : Nat → V} (e1 : htake st.h i = some (o, h')) (e2 : items o = some (n, at_)) (J : Nat → St → Prop) (h0 : Ordered P { st with h := h' } (J 0))
    (turn : ∀ j st, j < n → J j st → bindN P x (at_ j) st fun st1 => evSs P r b st1 (rangeK P J j k)) (done : ∀ st, J n st → k .next st) : ForVC P r x i b st k := by
  unfold ForVC
  rw [e1]
  dsimp only
  rw [e2]
  exact ⟨J, h0, fun j st hj h => bindN_mono (turn j st hj h) fun _ h => .all h, done⟩
theorem RangeVC.intro {P : Pm} {r : Ev} {x : Str} {n : Nat} {b : List Stmt} {st : St} {k : Fl → St → Prop} (hn : n ≤ sizeLine) (J : Nat → St → Prop) (h0 : Ordered P st (J 0))
    (turn : ∀ j st, j < n → J j st → bindN P x (.int false j) st fun st1 => evSs P r b st1 (rangeK P J j k)) (done : ∀ st, J n st → k .next st) : RangeVC P r x n b st k :=
  ⟨hn, J, h0, fun j st hj h => bindN_mono (turn j st hj h) fun _ h => .all h, done⟩
noncomputable def c2 : CT := cAdd 145 (fun vs st k => match vs with | [.str _ x] => x.length ≤ sizeLine ∧ giveH (.loc 0) (splitrootO x) 1 st k | _ => False) c1
theorem c2_ok (w : World) (os : OsState) : CTok w os 4 c2 := by
  refine cAdd_ok ((c1_ok w os).le (by decide)) ?_
  intro vs st k h c e1 e2 ok ρ us ht
  split at h
  · exact give_ok (splitroot_r w os _ h.1) e1 e2 ok (Nat.le_refl _) h.2 ht
  · exact h.elim
theorem split_cases (x y : Str) : Txt.split x y = [x] ∨ ∃ cuts : List Nat, cuts.length ≤ x.length + 1 ∧ Txt.split x y = Builtin.Str.partsBetween x cuts y.length := by
  unfold Txt.split
  split
  · exact .inl rfl
  · split
    · exact .inl rfl
    · exact .inr ⟨_, StrLaws.occ_length_le .., rfl⟩
theorem split_count (x y : Str) : (Txt.split x y).length ≤ x.length + 2 := by
  rcases split_cases x y with h | ⟨cuts, h1, h2⟩
  · rw [h]; simp
  · rw [h2, length_partsBetween]; exact Nat.lt_succ_of_le (by assumption)
theorem split_each (x y : Str) : ∀ z ∈ Txt.split x y, z.length ≤ x.length := by
  intro z hz
  rcases split_cases x y with h | ⟨cuts, h1, h2⟩
  · rw [h] at hz; simp at hz; rw [hz]; exact Nat.le_refl _
  · rw [h2] at hz
    unfold Builtin.Str.partsBetween at hz
    obtain ⟨p, _, rfl⟩ := List.mem_map.mp hz
    exact len_strSub ..
noncomputable def normStep (root : Str) (acc : List Str) (comp : Str) : List Str :=
  if comp.length == 0 || comp == N "." then acc
  else if comp != N ".." || (root.length == 0 && acc.isEmpty) || acc.getLast? == some (N "..") then acc ++ [comp]
  else acc.dropLast
noncomputable def normComps (root : Str) (comps : List Str) : List Str := comps.foldl (normStep root) []
noncomputable def normpathP (p : Str) : Str :=
  if p.length == 0 then N "." else
    let path := (splitrootP p).1 ++ Txt.join (N "/") (normComps (splitrootP p).1 (Txt.split (splitrootP p).2 (N "/")))
    if path.length == 0 then N "." else path
theorem normStep_sub (root : Str) (acc : List Str) (comp : Str) : ∀ z ∈ normStep root acc comp, z ∈ acc ∨ z = comp := by
  intro z hz
  unfold normStep at hz
  split at hz
  · exact .inl hz
  · split at hz
    · simpa using hz
    · exact .inl (List.dropLast_subset _ hz)
theorem normStep_len (root : Str) (acc : List Str) (comp : Str) : (normStep root acc comp).length ≤ acc.length + 1 := by
  unfold normStep
  split
  · exact Nat.le_add_right _ _
  · split
    · simp
    · simp; omega
theorem normComps_sub (root : Str) (comps : List Str) : ∀ acc, ∀ z ∈ comps.foldl (normStep root) acc, z ∈ acc ∨ z ∈ comps := by
  induction comps with
  | nil => intro acc z hz; exact .inl hz
  | cons a r ih =>
    intro acc z hz
    rcases ih _ z hz with h | h
    · rcases normStep_sub _ _ _ z h with h | h
      · exact .inl h
      · exact .inr (by simp [h])
    · exact .inr (by simp [h])
theorem normComps_len (root : Str) (comps : List Str) : ∀ acc, (comps.foldl (normStep root) acc).length ≤ acc.length + comps.length := by
  induction comps with
  | nil => intro acc; simp
  | cons a r ih =>
    intro acc
    have h1 := ih (normStep root acc a)
    have h2 := normStep_len root acc a
    simp only [List.foldl_cons, List.length_cons]
    omega
noncomputable def nS (r rest : Str) (oc : Option V) (acc : List Str) : St := ⟨[((N "path"), (some (.str false rest))), ((N "sep"), (some (.str true (N "/")))), ((N "dot"), (some (.str true (N ".")))), ((N "dotdot"), (some (.str true (N "..")))), ((N "_"), (some (.str true (N "")))), ((N "initial_slashes"), (some (.str false r))), ((N "comps"), none), ((N "new_comps"), (some (.loc 0))), ((N "comp"), oc)], [], [(0, (.strs acc))], 1⟩
theorem norm_vc (r rest c : Str) (acc : List Str) (k : Fl → St → Prop) : (bindN (pm c2 (topSt 20) 0) (N "comp") (.str false c) (nS r rest none acc) fun st1 => evSs (pm c2 (topSt 20) 0) (evN (pm c2 (topSt 20) 0) 39) (inner (nth (bodyOf (topSt 20)) 6)) st1 k) =
((c.length ≤ sizeLine) ∧ ((((c.length != 0) = true) → ((((c == (N ".")) = true) → k .cont (nS r rest (some (.str false c)) acc)) ∧ (((c == (N ".")) = false) → ((((c != (N "..")) = true) → (((List.length acc) ≤ sizeLine) ∧ k .next (nS r rest (some (.str false c)) (acc ++ [c])))) ∧ (((c != (N "..")) = false) → ((r.length ≤ sizeLine) ∧ ((((r.length != 0) = true) → (((List.length acc) ≤ sizeLine) ∧ ((((!(List.isEmpty acc)) = true) → ((((Neg.neg ((List.length acc) : Int)) ≤ (-1)) ∧ (((-1) < ((List.length acc) : Int)) ∧ ((List.length acc) ≤ sizeLine))) ∧ (((((List.getD acc (Mine.idx (List.length acc) (-1)) (N "")) == (N "..")) = true) → (((List.length acc) ≤ sizeLine) ∧ k .next (nS r rest (some (.str false c)) (acc ++ [c])))) ∧ ((((List.getD acc (Mine.idx (List.length acc) (-1)) (N "")) == (N "..")) = false) → (((List.length acc) ≤ sizeLine) ∧ ((((!(List.isEmpty acc)) = true) → (((acc ≠ []) ∧ ((List.length acc) ≤ sizeLine)) ∧ k .next (nS r rest (some (.str false c)) (List.dropLast acc)))) ∧ (((!(List.isEmpty acc)) = false) → k .next (nS r rest (some (.str false c)) acc)))))))) ∧ (((!(List.isEmpty acc)) = false) → (((List.length acc) ≤ sizeLine) ∧ ((((!(List.isEmpty acc)) = true) → (((acc ≠ []) ∧ ((List.length acc) ≤ sizeLine)) ∧ k .next (nS r rest (some (.str false c)) (List.dropLast acc)))) ∧ (((!(List.isEmpty acc)) = false) → k .next (nS r rest (some (.str false c)) acc)))))))) ∧ (((r.length != 0) = false) → (((List.length acc) ≤ sizeLine) ∧ ((((!(List.isEmpty acc)) = true) → (((List.length acc) ≤ sizeLine) ∧ ((((!(List.isEmpty acc)) = true) → ((((Neg.neg ((List.length acc) : Int)) ≤ (-1)) ∧ (((-1) < ((List.length acc) : Int)) ∧ ((List.length acc) ≤ sizeLine))) ∧ (((((List.getD acc (Mine.idx (List.length acc) (-1)) (N "")) == (N "..")) = true) → (((List.length acc) ≤ sizeLine) ∧ k .next (nS r rest (some (.str false c)) (acc ++ [c])))) ∧ ((((List.getD acc (Mine.idx (List.length acc) (-1)) (N "")) == (N "..")) = false) → (((List.length acc) ≤ sizeLine) ∧ ((((!(List.isEmpty acc)) = true) → (((acc ≠ []) ∧ ((List.length acc) ≤ sizeLine)) ∧ k .next (nS r rest (some (.str false c)) (List.dropLast acc)))) ∧ (((!(List.isEmpty acc)) = false) → k .next (nS r rest (some (.str false c)) acc)))))))) ∧ (((!(List.isEmpty acc)) = false) → (((List.length acc) ≤ sizeLine) ∧ ((((!(List.isEmpty acc)) = true) → (((acc ≠ []) ∧ ((List.length acc) ≤ sizeLine)) ∧ k .next (nS r rest (some (.str false c)) (List.dropLast acc)))) ∧ (((!(List.isEmpty acc)) = false) → k .next (nS r rest (some (.str false c)) acc)))))))) ∧ (((!(List.isEmpty acc)) = false) → (((List.length acc) ≤ sizeLine) ∧ k .next (nS r rest (some (.str false c)) (acc ++ [c])))))))))))))) ∧ (((c.length != 0) = false) → k .cont (nS r rest (some (.str false c)) acc)))) := by kernel_rfl
theorem norm_turn (r rest c : Str) (acc : List Str) (k : Fl → St → Prop) (hc : c.length ≤ sizeLine) (hr : r.length ≤ sizeLine) (ha : acc.length ≤ sizeLine) (L : ∀ f, f = .next ∨ f = .cont → k f (nS r rest (some (.str false c)) (normStep r acc c))) :
    bindN (pm c2 (topSt 20) 0) (N "comp") (.str false c) (nS r rest none acc) fun st1 => evSs (pm c2 (topSt 20) 0) (evN (pm c2 (topSt 20) 0) 39) (inner (nth (bodyOf (topSt 20)) 6)) st1 k := by
  refine Eq.mpr (norm_vc r rest c acc k) ?_
  have leaf : ∀ f acc', (f = .next ∨ f = .cont) → normStep r acc c = acc' → k f (nS r rest (some (.str false c)) acc') := fun f acc' h e => e ▸ L f h
  clear L
  have hl : acc ≠ [] → (acc.getLast? == some (N "..")) = (acc.getD (idx acc.length (-1)) (N "") == N "..") := by
    intro h
    rw [List.getLast?_eq_getElem?]
    have : idx acc.length (-1) = acc.length - 1 := by
      have : acc.length ≠ 0 := fun e => h (List.length_eq_zero_iff.mp e)
      unfold idx; rw [if_pos (by decide)]; omega
    rw [this, getD_some (d := N "") (by have : acc.length ≠ 0 := fun e => h (List.length_eq_zero_iff.mp e); omega)]
    rw [Bool.eq_iff_iff, beq_iff_eq, beq_iff_eq]
    exact ⟨fun h => Option.some.inj h, fun h => by rw [h]⟩
  have h0 : acc ≠ [] → acc.length ≠ 0 := fun h e => h (List.length_eq_zero_iff.mp e)
  by_cases hne : acc = []
  · subst hne
    repeat' first | assumption | apply And.intro | intro _
    all_goals first
      | (refine leaf _ _ (by simp) ?_; unfold normStep; simp_all; done)
      | (simp_all; done)
  · have hl := hl hne
    have h0 := h0 hne
    have he : acc.isEmpty = false := by simpa using hne
    repeat' first | assumption | apply And.intro | intro _
    all_goals first
      | (refine leaf _ _ (by simp) ?_; unfold normStep; simp_all; done)
      | (simp_all; done)
      | omega
theorem f_normpath (w : World) : FOk w 152 (topSt 20) := by constructor <;> kernel_rfl
theorem fold_take {α β : Type} (f : β → α → β) (b : β) (l : List α) (i : Nat) (d : α) (h : i < l.length) : (l.take (i + 1)).foldl f b = f ((l.take i).foldl f b) (l.getD i d) := by
  rw [List.take_add_one, getD_some (d := d) h]; simp
noncomputable def nE (r rest j : Str) (acc : List Str) : St := ⟨[((N "path"), (some (.str false (r ++ j)))), ((N "sep"), (some (.str true (N "/")))), ((N "dot"), (some (.str true (N ".")))), ((N "dotdot"), (some (.str true (N "..")))), ((N "_"), (some (.str true (N "")))), ((N "initial_slashes"), (some (.str false r))), ((N "comps"), (some (.loc 0))), ((N "new_comps"), (some (.loc 0))), ((N "comp"), none)], [], [(0, (.strs acc))], 1⟩
theorem norm_end (r rest : Str) (acc : List Str) (k : Fl → St → Prop) : evSs (pm c2 (topSt 20) 0) (evN (pm c2 (topSt 20) 0) J0) ((bodyOf (topSt 20)).drop 7) (nS r rest none acc) k =
  (((JoinOk (N "/") acc) = true) ∧ (((r.length + (Txt.join (N "/") acc).length) ≤ sizeLine) ∧ (((r ++ (Txt.join (N "/") acc)).length ≤ sizeLine) ∧
    (((((r ++ (Txt.join (N "/") acc)).length != 0) = true) → k (.ret (.str false (r ++ (Txt.join (N "/") acc)))) (nE r rest (Txt.join (N "/") acc) acc)) ∧
     ((((r ++ (Txt.join (N "/") acc)).length != 0) = false) → k (.ret (.str true (N "."))) (nE r rest (Txt.join (N "/") acc) acc)))))) := by kernel_rfl
noncomputable def nM (x : Str) : List (Str × Option V) := [(N "path", some (.str false x)), (N "sep", none), (N "dot", none), (N "dotdot", none), (N "_", none), (N "initial_slashes", none), (N "comps", none), (N "new_comps", none), (N "comp", none)]
noncomputable def nB (x : Str) : St := ⟨[((N "path"), (some (.str false x))), ((N "sep"), (some (.str true (N "/")))), ((N "dot"), (some (.str true (N ".")))), ((N "dotdot"), (some (.str true (N "..")))), ((N "_"), none), ((N "initial_slashes"), none), ((N "comps"), none), ((N "new_comps"), none), ((N "comp"), none)], [], [], 0⟩
noncomputable def nH (r rest : Str) : St := ⟨[((N "path"), (some (.str false rest))), ((N "sep"), (some (.str true (N "/")))), ((N "dot"), (some (.str true (N ".")))), ((N "dotdot"), (some (.str true (N "..")))), ((N "_"), (some (.str true (N "")))), ((N "initial_slashes"), (some (.str false r))), ((N "comps"), some (.loc 1)), ((N "new_comps"), (some (.loc 2))), ((N "comp"), none)], [],
  [(2, .strs []), (1, .strs (Txt.split rest (N "/"))), (0, .tup [.str true (N ""), .str false r, .str false rest])], 3⟩
theorem norm_start (x : Str) (k : Fl → St → Prop) : evSs (pm c2 (topSt 20) 0) (evN (pm c2 (topSt 20) 0) J0) (bodyOf (topSt 20)) ⟨nM x, [], [], 0⟩ k =
  (x.length ≤ sizeLine ∧ ((((x.length != 0) = true) → (x.length ≤ sizeLine ∧ ((splitrootP x).2.length + 2 ≤ sizeLine ∧
      ForVC (pm c2 (topSt 20) 0) (evN (pm c2 (topSt 20) 0) 39) (N "comp") 1 (inner (nth (bodyOf (topSt 20)) 6)) (nH (splitrootP x).1 (splitrootP x).2) (seqK (pm c2 (topSt 20) 0) (evN (pm c2 (topSt 20) 0) 40) ((bodyOf (topSt 20)).drop 7) k)))) ∧
    (((x.length != 0) = false) → k (.ret (.str true (N "."))) (nB x)))) := by kernel_rfl
theorem normpath_r (w : World) (os : OsState) (x : Str) (hx : x.length ≤ 1000) : RetF w os 5 (.ref 152) 0 [.str false x] [] (.str false (normpathP x)) [] := by
  have hz : x.length ≤ sizeLine := by exact sz (by assumption) rfl
  refine RetF.ev (j := J0) (nx := 0) (m0 := nM x) (f_normpath w) (c2_ok w os) (by decide) (by kernel_rfl) (fun ρ us h => ?_) ?_
  · obtain ⟨v1, rfl, t1⟩ := h.inv1
    exact ⟨[(N "path", v1)], by kernel_rfl, by kernel_rfl, .yes (by kernel_rfl) t1 (.no (.no (.no (.no (.no (.no (.no (.no .nil)))))))) ⟩
  refine Eq.mpr (norm_start x _) ?_
  have hr : (splitrootP x).2.length ≤ 1000 ∧ (splitrootP x).1.length ≤ 1000 := by
    unfold splitrootP
    have h0 := fun lo hi => Txt.slice_le x lo hi
    split
    · exact ⟨hx, show (N "").length ≤ 1000 by decide⟩
    · split
      · exact ⟨Nat.le_trans (h0 _ _) hx, show (N "/").length ≤ 1000 by decide⟩
      · exact ⟨Nat.le_trans (h0 _ _) hx, Nat.le_trans (h0 _ _) hx⟩
  obtain ⟨hr2, hr1⟩ := hr
  refine ⟨hz, fun h => ⟨hz, by rw [sizeLine_eq]; omega, ?_⟩, fun h => ?_⟩
  · have hpp : normpathP x = if ((splitrootP x).1 ++ Txt.join (N "/") (normComps (splitrootP x).1 (Txt.split (splitrootP x).2 (N "/")))).length == 0 then N "." else (splitrootP x).1 ++ Txt.join (N "/") (normComps (splitrootP x).1 (Txt.split (splitrootP x).2 (N "/"))) := by
      unfold normpathP
      rw [if_neg (by simpa using h)]
    rw [hpp]
    clear hpp h hx hz
    generalize (splitrootP x).1 = r at *
    generalize (splitrootP x).2 = rest at *
    have hn : ((Txt.split rest (N "/"))).length ≤ 1002 := Nat.le_trans (split_count ..) (by omega)
    have he : ∀ z ∈ Txt.split rest (N "/"), z.length ≤ 1000 := fun z hz => Nat.le_trans (split_each _ _ z hz) hr2
    have e1 : htake (nH r rest).h 1 = some (.strs (Txt.split rest (N "/")), [(2, .strs []), (0, .tup [.str true (N ""), .str false r, .str false rest])]) := rfl
    have e3 : St.canon [2] [N "comps"] { nH r rest with h := [(2, .strs []), (0, .tup [.str true (N ""), .str false r, .str false rest])] } = some (nS r rest none []) := by kernel_rfl
    generalize Txt.split rest (N "/") = comps at *
    refine ForVC.intro e1 rfl (fun j st => st = nS r rest none ((comps.take j).foldl (normStep r) [])) ⟨[2], [N "comps"], _, e3, rfl⟩ ?_ ?_
    · rintro j st hj rfl
      have hm : comps.getD j (N "") ∈ comps := by rw [List.getD_eq_getElem?_getD, List.getElem?_eq_getElem hj]; exact List.getElem_mem hj
      have hal : ((comps.take j).foldl (normStep r) []).length ≤ 1002 := Nat.le_trans (normComps_len r (comps.take j) []) (by simp; omega)
      refine norm_turn r rest _ _ _ (Nat.le_trans (he _ hm) (by rw [sizeLine_eq]; decide)) (by exact sz (by assumption) rfl) (by exact sz (by assumption) rfl) ?_
      have key : Ordered (pm c2 (topSt 20) 0) (nS r rest (some (.str false (comps.getD j (N "")))) (normStep r ((comps.take j).foldl (normStep r) []) (comps.getD j (N "")))) (fun st => st = nS r rest none ((comps.take (j + 1)).foldl (normStep r) [])) :=
        ⟨[0], [N "comp"], nS r rest none (normStep r ((comps.take j).foldl (normStep r) []) (comps.getD j (N ""))), by kernel_rfl, by rw [fold_take _ _ _ _ (N "") hj]⟩
      rintro f (rfl | rfl) <;> exact key
    · rintro st rfl
      rw [List.take_length]
      have ha : ((comps.foldl (normStep r) [])).length ≤ 1002 := Nat.le_trans (normComps_len r comps []) (by simp; exact sz (by assumption) rfl)
      have hs : ∀ y ∈ comps.foldl (normStep r) [], y.length ≤ 1000 := by
        intro y hy
        rcases normComps_sub r comps [] y hy with q | q
        · cases q
        · exact he y q
      refine Eq.mpr (norm_end r rest _ _) ?_
      show _ ∧ _
      unfold normComps
      generalize comps.foldl (normStep r) [] = acc at *
      have hj : (Txt.join (N "/") acc).length ≤ acc.length * 1000 + acc.length * 1 := join_le hs
      have one : (r ++ Txt.join (N "/") acc).length ≤ sizeLine := by rw [Str.length_append, sizeLine_eq]; omega
      refine ⟨joinOk_of hs (by show acc.length * 1000 + acc.length * 1 ≤ _; omega), by rw [← Str.length_append]; exact one, one, fun h => ?_, fun h => ?_⟩
      · rw [if_neg (by simpa using h)]
        exact ⟨[], _, _, rfl, rfl, fun _ => rfl, fun _ => rfl⟩
      · rw [if_pos (by simpa using h)]
        exact ⟨[], _, _, rfl, rfl, fun _ => rfl, fun _ => rfl⟩
  · have e : normpathP x = N "." := by unfold normpathP; rw [if_pos]; simpa using h
    rw [e]
    exact ⟨[], _, _, rfl, rfl, fun _ => rfl, fun _ => rfl⟩
theorem f_join (w : World) : FOk w 138 (topSt 17) := by constructor <;> kernel_rfl
theorem join_bind (w : World) (v1 : Value) (rest : List Value) : bindArgs (fdAt w 138) ⟨v1 :: rest, []⟩ = (do let t ← newTuple rest; pure [(N "a", v1), (N "p", t)]) := by
  cases rest with
  | nil => kernel_rfl
  | cons x r => kernel_rfl
noncomputable def joinStep (path b : Str) : Str := if Txt.startswith b (N "/") || path.length == 0 then b else if Txt.endswith path (N "/") then path ++ b else path ++ (N "/" ++ b)
noncomputable def joinP (a : Str) (ps : List Str) : Str := ps.foldl joinStep a
noncomputable def jS (a path : Str) (ob : Option V) : St := ⟨[(N "a", some (.str false a)), (N "p", none), (N "sep", some (.str true (N "/"))), (N "path", some (.str false path)), (N "b", ob)], [], [], 0⟩
noncomputable def tryBody : Stmt → List Stmt
  | .Try b _ _ _ _ => b
  | _ => []
theorem join_vc (a path b : Str) (k : Fl → St → Prop) : (bindN (pm c2 (topSt 17) 0) (N "b") (.str false b) (jS a path none) fun st1 => evSs (pm c2 (topSt 17) 0) (evN (pm c2 (topSt 17) 0) 38) (inner (nth (tryBody (nth (bodyOf (topSt 17)) 3)) 0)) st1 k) =
  ((((Txt.startswith b (N "/")) = true) → k .next (jS a b (some (.str false b)))) ∧
  (((Txt.startswith b (N "/")) = false) →
    ((path.length ≤ sizeLine) ∧
    ((((path.length != 0) = true) →
       ((((Txt.endswith path (N "/")) = true) → (((path.length + b.length) ≤ sizeLine) ∧ k .next (jS a (path ++ b) (some (.str false b))))) ∧
       (((Txt.endswith path (N "/")) = false) →
         ((((N "/").length + b.length) ≤ sizeLine) ∧ (((path.length + ((N "/") ++ b).length) ≤ sizeLine) ∧ k .next (jS a (path ++ ((N "/") ++ b)) (some (.str false b)))))))) ∧
     (((path.length != 0) = false) → k .next (jS a b (some (.str false b)))))))) := by kernel_rfl
theorem joinStep_len (path b : Str) : (joinStep path b).length ≤ path.length + b.length + 1 := by
  unfold joinStep
  split
  · omega
  · split
    · rw [Str.length_append]; exact Nat.le_add_right _ _
    · rw [Str.length_append, Str.length_append, show (N "/").length = 1 from rfl]; omega
theorem joinP_len {B : Nat} : ∀ (ps : List Str) (a : Str), (∀ b ∈ ps, b.length ≤ B) → (ps.foldl joinStep a).length ≤ a.length + ps.length * (B + 1)
  | [], a, _ => by simp
  | b :: r, a, h => by
    have h1 := joinP_len r (joinStep a b) fun z hz => h z (.tail _ hz)
    have h2 := joinStep_len a b
    have h3 := h b (.head _)
    simp only [List.foldl_cons, List.length_cons]
    rw [Nat.add_mul, Nat.one_mul]
    omega
noncomputable def jA (a : Str) : St := ⟨[(N "a", some (.str false a)), (N "p", some (.loc 0)), (N "sep", some (.str true (N "/"))), (N "path", some (.str false a)), (N "b", none)], [], [], 1⟩
theorem join_start (a : Str) (ps : List Str) (k : Fl → St → Prop) : evSs (pm c2 (topSt 17) 0) (evN (pm c2 (topSt 17) 0) J0) (bodyOf (topSt 17)) ⟨(N "a", some (.str false a)) :: (N "p", some (.loc 0)) :: [N "sep", N "path", N "b"].map (fun z => (z, none)), [], [(0, .tups ps)], 1⟩ k =
  ForVC (pm c2 (topSt 17) 0) (evN (pm c2 (topSt 17) 0) 38) (N "b") 0 (inner (nth (tryBody (nth (bodyOf (topSt 17)) 3)) 0)) { jA a with h := [(0, .tups ps)] }
    (seqK (pm c2 (topSt 17) 0) (evN (pm c2 (topSt 17) 0) 39) [] (seqK (pm c2 (topSt 17) 0) (evN (pm c2 (topSt 17) 0) 40) ((bodyOf (topSt 17)).drop 4) k)) := by kernel_rfl
theorem join_end (a path : Str) (k : Fl → St → Prop) : seqK (pm c2 (topSt 17) 0) (evN (pm c2 (topSt 17) 0) 39) [] (seqK (pm c2 (topSt 17) 0) (evN (pm c2 (topSt 17) 0) 40) ((bodyOf (topSt 17)).drop 4) k) .next (jS a path none) = k (.ret (.str false path)) (jS a path none) := by kernel_rfl
theorem join_r (w : World) (os : OsState) (a : Str) (ps : List Str) (ha : a.length ≤ 1000) (hps : ∀ b ∈ ps, b.length ≤ 1000) (hl : ps.length ≤ 100) : Fn w os 5 (.ref 138) (S a :: ps.map S) [] [] (fun v σ => v = S (joinP a ps) ∧ σ = []) := by
  refine (Fn.star (j := J0) (K := fun v st => v = .str false (joinP a ps)) (lc := [N "sep", N "path", N "b"]) (f_join w) (join_bind w) ⟨by kernel_rfl, by kernel_rfl, by kernel_rfl⟩ (c2_ok w os) (by decide) (by exact sz (by assumption) rfl) (by kernel_rfl) ?_).picks ?_
  · refine Eq.mpr (join_start a ps _) ?_
    have e3 : St.canon [] [N "p"] { jA a with h := [] } = some (jS a a none) := by kernel_rfl
    refine ForVC.intro (o := .tups ps) (h' := []) rfl rfl (fun j st => st = jS a ((ps.take j).foldl joinStep a) none) ⟨[], [N "p"], _, e3, rfl⟩ ?_ ?_
    · rintro j st hj rfl
      have hm : ps.getD j (N "") ∈ ps := by rw [List.getD_eq_getElem?_getD, List.getElem?_eq_getElem hj]; exact List.getElem_mem hj
      have hb := hps _ hm
      have hp := joinP_len (B := 1000) (ps.take j) a fun z hz => hps z (List.mem_of_mem_take hz)
      have hjl : (ps.take j).length ≤ 100 := by rw [List.length_take]; omega
      have hp2 : ((ps.take j).foldl joinStep a).length ≤ 200000 := by
        have : (ps.take j).length * (1000 + 1) ≤ 100 * 1001 := Nat.mul_le_mul_right _ hjl
        omega
      refine Eq.mpr (join_vc _ _ _ _) ?_
      have key : ∀ p', joinStep ((ps.take j).foldl joinStep a) (ps.getD j (N "")) = p' → rangeK (pm c2 (topSt 17) 0) (fun j st => st = jS a ((ps.take j).foldl joinStep a) none) j (seqK (pm c2 (topSt 17) 0) (evN (pm c2 (topSt 17) 0) 39) [] (seqK (pm c2 (topSt 17) 0) (evN (pm c2 (topSt 17) 0) 40) ((bodyOf (topSt 17)).drop 4) (fun f st => retV f = .str false (joinP a ps)))) .next (jS a p' (some (.str false (ps.getD j (N ""))))) := by
        intro p' e
        refine ⟨[], [N "b"], jS a p' none, by kernel_rfl, ?_⟩
        show jS a p' none = jS a _ none
        rw [fold_take _ _ _ _ (N "") hj, e]
      generalize (ps.take j).foldl joinStep a = path at *
      generalize ps.getD j (N "") = b at *
      refine ⟨fun h => key _ ?_, fun h => ⟨by exact sz (by assumption) rfl, fun h1 => ⟨fun h2 => ⟨by rw [sizeLine_eq]; omega, key _ ?_⟩, fun h2 => ⟨?_, ?_, key _ ?_⟩⟩, fun h1 => key _ ?_⟩⟩
      · unfold joinStep; rw [h]; rfl
      · unfold joinStep; rw [h, if_neg (by simpa using h1), if_pos h2]
      · rw [show (N "/").length = 1 from rfl, sizeLine_eq]; omega
      · rw [Str.length_append, show (N "/").length = 1 from rfl, sizeLine_eq]; omega
      · unfold joinStep; rw [h, if_neg (by simpa using h1), if_neg (by rw [h2]; decide)]
      · unfold joinStep; rw [h, if_pos (by simpa using h1)]
    · rintro st rfl
      rw [List.take_length]
      have e : V.str false (List.foldl joinStep a ps) = .str false (joinP a ps) := rfl
      exact Eq.mpr (join_end a (List.foldl joinStep a ps) fun f st => retV f = .str false (joinP a ps)) e
  · rintro v σ ⟨v', st', ρ', rfl, rfl, rfl⟩
    exact ⟨[], Picks.nil, rfl, rfl⟩
noncomputable def reWords : Array Nat := #[14, 17, 4, 1, 1, 21, 9, 0, 604043296, 1, 0, 0, 0, 0, 0, 8, 4, 0, 13, 14, 21, 9, 0, 604043296, 1, 0, 0, 0, 0, 0, 8, 4, 0, 1]
noncomputable def charset (c : Nat) : Bool := c < 256 && (reWords.getD (6 + (1 + c / 32)) 0).testBit (c % 32)
noncomputable def unsafeC (c : Nat) : Bool := !(charset c || Sre.isWord c)
theorem charset2 (c : Nat) : (c < 256 && (reWords.getD (21 + (1 + c / 32)) 0).testBit (c % 32)) = charset c := by
  unfold charset
  by_cases h : c < 256
  · have : c / 32 < 8 := by omega
    have key : ∀ k, k < 8 → reWords.getD (21 + (1 + k)) 0 = reWords.getD (6 + (1 + k)) 0 := by decide
    rw [key _ this]
  · simp [h]
theorem inSet_a (c : Nat) (seen : Sre.Seen) : ∃ seen', Sre.inSet reWords c reWords.size 5 true seen = .ok (unsafeC c, seen') := by
  have h : ∃ a b d, Sre.inSet reWords c 34 5 true seen = if (c < 256 && (reWords.getD (6 + (1 + c / 32)) 0).testBit (c % 32)) = true then .ok (false, a) else if (Sre.isWord c != (4 % 2 == 1)) = true then .ok (false, b) else .ok (true, d) := ⟨_, _, _, by with_unfolding_all rfl⟩
  obtain ⟨a, b, d, h⟩ := h
  show ∃ seen', Sre.inSet reWords c 34 5 true seen = _
  rw [h]
  unfold unsafeC
  by_cases h1 : charset c = true
  · rw [h1]; exact ⟨a, if_pos h1⟩
  · have h1' : charset c = false := by simpa using h1
    rw [h1', if_neg (by rw [show (c < 256 && (reWords.getD (6 + (1 + c / 32)) 0).testBit (c % 32)) = charset c from rfl, h1']; decide)]
    by_cases h2 : Sre.isWord c = true
    · rw [h2]; exact ⟨b, rfl⟩
    · have h2' : Sre.isWord c = false := by simpa using h2
      rw [h2']; exact ⟨d, rfl⟩
theorem inSet_b (c : Nat) (seen : Sre.Seen) : ∃ seen', Sre.inSet reWords c reWords.size 20 true seen = .ok (unsafeC c, seen') := by
  have h : ∃ a b d, Sre.inSet reWords c 34 20 true seen = if (c < 256 && (reWords.getD (21 + (1 + c / 32)) 0).testBit (c % 32)) = true then .ok (false, a) else if (Sre.isWord c != (4 % 2 == 1)) = true then .ok (false, b) else .ok (true, d) := ⟨_, _, _, by with_unfolding_all rfl⟩
  obtain ⟨a, b, d, h⟩ := h
  show ∃ seen', Sre.inSet reWords c 34 20 true seen = _
  rw [h, charset2]
  unfold unsafeC
  by_cases h1 : charset c = true
  · rw [h1]; exact ⟨a, rfl⟩
  · have h1' : charset c = false := by simpa using h1
    rw [h1']
    by_cases h2 : Sre.isWord c = true
    · rw [h2]; exact ⟨b, rfl⟩
    · have h2' : Sre.isWord c = false := by simpa using h2
      rw [h2']; exact ⟨d, rfl⟩
noncomputable def unsafeP (x : Str) : Bool := x.cps.toList.any unsafeC
theorem admitted_ok (m : Sre.M) (hc : m.code = reWords) : ∀ (fuel s : Nat) (seen : Sre.Seen), m.lim < s + fuel → ∃ r seen', Sre.M.admitted m fuel s seen = .ok (r, seen') ∧
    (match r with | some p => s ≤ p ∧ p < m.lim ∧ unsafeC (m.text.getD p 0) = true | none => ∀ p, s ≤ p → p < m.lim → unsafeC (m.text.getD p 0) = false) := by
  intro fuel
  induction fuel with
  | zero => intro s seen h; exact ⟨none, seen, rfl, fun p h1 h2 => by omega⟩
  | succ f ih =>
    intro s seen h
    unfold Sre.M.admitted
    by_cases hs : s ≥ m.lim
    · exact ⟨none, seen, if_pos hs, fun p h1 h2 => by omega⟩
    · rw [if_neg hs, hc]
      obtain ⟨seen', e⟩ := inSet_a (m.text.getD s 0) seen
      rw [e]
      cases hu : unsafeC (m.text.getD s 0) with
      | true => exact ⟨some s, seen', rfl, Nat.le_refl _, by omega, hu⟩
      | false =>
        obtain ⟨r, seen'', e2, h2⟩ := ih (s + 1) seen' (by omega)
        refine ⟨r, seen'', e2, ?_⟩
        cases r with
        | some p => exact ⟨by omega, h2.2.1, h2.2.2⟩
        | none =>
          intro p h3 h4
          rcases Nat.eq_or_lt_of_le h3 with q | q
          · rw [← q]; exact hu
          · exact h2 p q h4
noncomputable def reM0 (text : Array Nat) : Sre.M := { code := reWords, text := text, lim := text.size, start := 0, pc := 18, pos := 0, handed := 0, marks := #[], mustAdvance := false, seen := ({} : Sre.Seen).add 14 }
theorem forSearch_eq (text : Array Nat) : Sre.forSearch reWords text 0 0 text.size false = if (decide (0 > text.size) || decide (text.size - 0 < 1)) = true then (reM0 text).say false else ({ reM0 text with lastStart := text.size }).attemptFrom 0 true := by with_unfolding_all rfl
noncomputable def reF (p : Nat) : Sre.Frame := { wait := .nextStart, pc := 18, pos := p, outermost := true }
noncomputable def reMA (text : Array Nat) (p : Nat) (seen : Sre.Seen) : Sre.M := { reM0 text with lastStart := text.size, start := p, frames := [reF p], weight := 1, pc := 18, pos := p, handed := p, outermost := true, seen := seen }
noncomputable def reMB (text : Array Nat) (p : Nat) (seen : Sre.Seen) : Sre.M := { reMA text p seen with pc := 33, pos := p + 1 }
theorem reStep1 (text : Array Nat) (p : Nat) (seen : Sre.Seen) (h1 : p < text.size) (h2 : unsafeC (text.getD p 0) = true) : ∃ seen', (reMA text p seen).step = reMB text p seen' := by
  obtain ⟨seen', e⟩ := inSet_b (text.getD p 0) (seen.add 13)
  refine ⟨seen', ?_⟩
  have hx : (reMA text p seen).step = (if p ≥ text.size then ({ reMA text p seen with seen := seen.add 13 }).say false else match Sre.inSet reWords (text.getD p 0) reWords.size 20 true (seen.add 13) with
      | .error why => ({ reMA text p seen with seen := seen.add 13 }).stick why
      | .ok (false, seen') => ({ reMA text p seen with seen := seen' }).say false
      | .ok (true, seen') => { reMA text p seen with seen := seen', pc := 18 + 15, pos := p + 1 }) := by with_unfolding_all rfl
  rw [hx, if_neg (by omega), e, h2]
  rfl
theorem reStep2 (text : Array Nat) (p : Nat) (seen : Sre.Seen) : ∃ m : Sre.M, ((reMB text p seen).step).step = m ∧ m.outcome = none ∧ m.answer = some true ∧ m.frames = [] ∧ m.marks = #[] ∧ m.lastmark = -1 := by
  have h : (reMB text p seen).step = ({ reMB text p seen with seen := seen.add 1, handed := p + 1 }).say true := by with_unfolding_all rfl
  rw [h]
  refine ⟨_, rfl, ?_, ?_, ?_, ?_, ?_⟩ <;> with_unfolding_all rfl
theorem search_run (text : Array Nat) : ∃ m, (Sre.forSearch reWords text 0 0 text.size false).runFor 4 = m ∧ m.outcome = some (if text.toList.any unsafeC then .matched else .failed) ∧ (m.marks = #[] ∧ m.lastmark = -1) := by
  rw [forSearch_eq]
  by_cases h0 : text.size = 0
  · have e : text = #[] := Array.eq_empty_of_size_eq_zero h0
    subst e
    exact ⟨_, rfl, by with_unfolding_all rfl, by with_unfolding_all rfl, by with_unfolding_all rfl⟩
  · rw [if_neg (by rw [Bool.or_eq_true, decide_eq_true_eq, decide_eq_true_eq]; omega)]
    have hf : Sre.M.attemptFrom { reM0 text with lastStart := text.size } 0 true = match Sre.M.admitted { reM0 text with lastStart := text.size } (text.size + 1 - 0) 0 (({} : Sre.Seen).add 14) with
      | .ok (some s, seen) => ({ reM0 text with lastStart := text.size, mustAdvance := false, seen := seen }).attemptAt s true
      | .ok (none, seen) => ({ reM0 text with lastStart := text.size, seen := seen }).say false
      | .error why => Sre.M.stick { reM0 text with lastStart := text.size } why := by with_unfolding_all rfl
    rw [hf]
    obtain ⟨r, seen', e, hr⟩ := admitted_ok { reM0 text with lastStart := text.size } rfl (text.size + 1 - 0) 0 (({} : Sre.Seen).add 14) (by show text.size < _; omega)
    rw [e]
    cases r with
    | none =>
      have ha : text.toList.any unsafeC = false := by
        rw [List.any_eq_false]
        intro c hc
        obtain ⟨i, hi, rfl⟩ := List.mem_iff_getElem.mp hc
        have hi' : i < text.size := by simpa using hi
        have := hr i (Nat.zero_le _) hi'
        have e2 : text.getD i 0 = text.toList[i] := by simp [Array.getD, hi']
        rw [show ({ reM0 text with lastStart := text.size } : Sre.M).text = text from rfl, e2] at this
        simpa using this
      rw [ha]
      exact ⟨_, rfl, by with_unfolding_all rfl, by with_unfolding_all rfl, by with_unfolding_all rfl⟩
    | some p =>
      obtain ⟨_, h1, h2⟩ := hr
      have h1 : p < text.size := h1
      have h2 : unsafeC (text.getD p 0) = true := h2
      have ha : text.toList.any unsafeC = true := by
        rw [List.any_eq_true]
        exact ⟨text[p], Array.getElem_mem_toList h1, by rw [show text.getD p 0 = text[p] by simp [Array.getD, h1]] at h2; exact h2⟩
      rw [ha]
      have e3 : ({ reM0 text with lastStart := text.size, mustAdvance := false, seen := seen' } : Sre.M).attemptAt p true = reMA text p seen' := by with_unfolding_all rfl
      show ∃ m, (({ reM0 text with lastStart := text.size, mustAdvance := false, seen := seen' } : Sre.M).attemptAt p true).runFor 4 = m ∧ _
      rw [e3]
      obtain ⟨s1, q1⟩ := reStep1 text p seen' h1 h2
      have r1 : (reMA text p seen').runFor 4 = ((reMA text p seen').step).runFor 3 := by with_unfolding_all rfl
      rw [r1, q1]
      have r2 : (reMB text p s1).runFor 3 = ((reMB text p s1).step).runFor 2 := by with_unfolding_all rfl
      have r3 : ((reMB text p s1).step).runFor 2 = ((reMB text p s1).step.step).runFor 1 := by with_unfolding_all rfl
      rw [r2, r3]
      obtain ⟨m, q2, o1, o2, o3, o4, o5⟩ := reStep2 text p s1
      rw [q2]
      have r4 : m.runFor 1 = if m.outcome.isSome then m else m.step := by with_unfolding_all rfl
      rw [r4, o1]
      refine ⟨_, rfl, ?_, ?_⟩
      · show (m.step).outcome = _
        unfold Sre.M.step
        rw [o1, o2, o3]; rfl
      · show (m.step).marks = _ ∧ (m.step).lastmark = _
        unfold Sre.M.step
        rw [o1, o2, o3]
        exact ⟨o4, o5⟩
section
open PySem.Builtin PySem.Builtin.Re
theorem re_named (v : Value) : reNamed "re.Pattern.search" "search" ["string", "pos", "endpos"] 1 [v] [] = pure [some v, none, none] := by kernel_rfl
theorem re_pat (w : World) : (KK w).lookup 157 = some ⟨.type "re.Pattern", none, .fields #[.str (Str.ofString "[^\\w@%+=:,./-]") 490, .int 256 527, .int 0 0, .none, .none, .ref 156, .int 0 0], #[]⟩ := by kernel_rfl
theorem re_words (w : World) : (KK w).lookup 156 = some ⟨.type "tuple", none, .seq (reWords.map fun (k : Nat) => Value.int k 0) 0, #[]⟩ := by kernel_rfl
theorem re_target {w : World} {A : Around} {E : Value → Shared → Prop} {s : Shared} {x : Str} {t : Tok} {Q : ReTarget → Shared → Prop} (X : (KK w).In s.heap) (hx : x.length ≤ sizeLine)
    (h : Q { pattern := .ref 157, string := .str x t, code := reWords, text := x.cps, kind := 0, groups := 0, pos := 0, lim := x.cps.size } s) :
    wpAny (MM w) A (reTarget "re.Pattern.search" "search" ⟨[.ref 157, .str x t], []⟩) Q E s := by
  have h1 := re_pat w
  have h2 := re_words w
  have g1 := X _ _ h1
  have g2 := X _ _ h2
  unfold reTarget
  dsimp only
  rw [re_named]
  refine wpAny_bind (wpAny_pure ?_)
  dsimp only
  refine wpAny_bind (wpAny_pure ?_)
  refine wpAny_bind (wpAny_pure ?_)
  refine wpAny_bind ?_
  unfold fieldsOf
  refine wpAny_bind (wpAny_load g1 (wpAny_pure ?_))
  refine wpAny_bind ?_
  unfold reTextOf asStr?
  refine wpAny_bind (wpAny_pure (wpAny_pure ?_))
  have w0 : reRawNat (((#[.str (Str.ofString "[^\\w@%+=:,./-]") 490, .int 256 527, .int 0 0, .none, .none, .ref 156, .int 0 0] : Array Value)).getD 6 .none) = 0 := rfl
  dsimp only
  rw [w0]
  refine wpAny_bind (wpAny_pure ?_)
  show wpAny _ _ (reRawItems (.ref 156) >>= _) _ _ _
  refine wpAny_bind ?_
  unfold reRawItems seqItems?
  refine wpAny_bind (wpAny_bind (wpAny_load g2 (wpAny_pure (wpAny_pure (wpAny_pure ?_)))))
  have e1 : Array.map (fun x => x.toNat) (Array.map reRawOf ((some (reWords.map fun (k : Nat) => Value.int k 0)).getD #[])) = reWords := by kernel_rfl
  have e2 : Min.min (2 ^ 63 - 1 : Int).toNat x.cps.size = x.cps.size := Nat.min_eq_right (by
    have : x.cps.size ≤ sizeLine := hx
    rw [sizeLine_eq] at this
    have : ((2 ^ 63 - 1 : Int)).toNat = 9223372036854775807 := rfl
    exact sz (by assumption) rfl)
  show Q { pattern := .ref 157, string := .str x t, code := _, text := x.cps, kind := 0, groups := 0, pos := Min.min (Int.toNat 0) x.cps.size, lim := Min.min (2 ^ 63 - 1 : Int).toNat x.cps.size } s
  rw [e1, e2, show Min.min (Int.toNat 0) x.cps.size = 0 from Nat.zero_min _]
  exact h
theorem rules_ok {w : World} {A : Around} {E : Value → Shared → Prop} {s : Shared} {b : Nat → Bool} {g : Nat → String} {Q : PUnit → Shared → Prop} (h : Q ⟨⟩ s) : ∀ l : List Nat, wpAny (MM w) A (forIn l PUnit.unit (fun i (_ : PUnit) => do if b i = true then rule (g i); pure (ForInStep.yield PUnit.unit) else pure (ForInStep.yield PUnit.unit))) Q E s
  | [] => wpAny_pure h
  | i :: r => by
    rw [List.forIn_cons]
    refine wpAny_bind ?_
    split
    · exact wpAny_bind (wpAny_rule (wpAny_pure (rules_ok h r)))
    · exact wpAny_pure (rules_ok h r)
theorem re_run {w : World} {A : Around} {E : Value → Shared → Prop} {s : Shared} {m : Sre.M} {Q : Option Sre.M → Shared → Prop} {b : Bool} (ho : (m.runFor 4).outcome = some (if b then .matched else .failed)) (h : Q (if b then some (m.runFor 4) else none) s) :
    wpAny (MM w) A (reRunToEnd m) Q E s := by
  unfold reRunToEnd
  rw [show (2 : Nat) ^ 64 = 18446744073709551615 + 1 from rfl]
  unfold reDrive
  dsimp only
  rw [show reTurnSteps = 4 from rfl, ho]
  refine wpAny_bind (wpAny_pure (wpAny_bind (rules_ok ?_ _)))
  rw [ho]
  cases b with
  | true => exact wpAny_pure h
  | false => exact wpAny_pure h
theorem re_match {w : World} {A : Around} {E : Value → Shared → Prop} {s : Shared} {m : Sre.M} {p q : Value} {n1 n2 : Nat} {Q : Value → Shared → Prop} (h : ∀ (h' : Heap) (o : Obj), (∃ o', h' = s.heap.push o' ∧ o'.isFreed = false) → o.isFreed = false → Q (.ref h'.objs.size) { s with heap := h'.push o }) :
    wpAny (MM w) A (reNewMatch p q 0 n1 n2 m) Q E s := by
  unfold reNewMatch
  show wpAny _ _ (newTuple [rawInt m.start, rawInt m.handed] >>= fun t => newFields "re.Match" [q, p, rawInt n1, rawInt n2, rawInt m.lastindex, t]) _ _ _
  refine wpAny_bind (wpAny_newTuple ?_ (by show 2 ≤ sizeLine; rw [sizeLine_eq]; decide))
  unfold newFields
  exact wpAny_newObj_type (h _ _ ⟨_, rfl, rfl⟩ rfl) (by show 6 ≤ sizeLine + 2; rw [sizeLine_eq]; decide)
theorem entry_search : entryFor table "re.Pattern.search" = some Builtin.«re.Pattern.search» := entryFor_of_tree (by kernel_rfl)
theorem plain_search : plainId "re.Pattern.search" = true := by decide +kernel
theorem kind_search : builtinKind "re.Pattern.search" = some .method := by decide +kernel
noncomputable def sigSearch : Manifest.Signature := { machinery := .keywords, full := "Pattern.search", short := "search", receiver := .self, params := [{ name := "string", kind := .posOrKw, required := true }, { name := "pos", kind := .posOrKw, required := false }, { name := "endpos", kind := .posOrKw, required := false }] }
theorem sig_search : Manifest.signature? "re.Pattern.search" = some sigSearch := by kernel_rfl
theorem var_search : Manifest.varargsMethods.contains "re.Pattern.search" = false := by kernel_rfl
theorem args_search (x : Str) (t : Tok) : Bind.checkArgs "re.Pattern.search" { sigSearch with full := s!"{Bind.lastOf "re.Pattern"}.{Bind.lastOf "re.Pattern.search"}" } ⟨[.ref 157, .str x t], []⟩ = pure () := by kernel_rfl
theorem sub_pat_module : isSubtype (.type "re.Pattern") (.type "module") = pure false := by rw [isSubtype_type]; kernel_rfl
theorem re_check {w : World} {A : Around} {E : Value → Shared → Prop} {s : Shared} {x : Str} {t : Tok} {Q : Unit → Shared → Prop} (X : (KK w).In s.heap) (h : Q () s) : wpAny (MM w) A (checkBoundCall "re.Pattern.search" ⟨[.ref 157, .str x t], []⟩) Q E s := by
  have g1 := X _ _ (re_pat w)
  have hT : s.TypeIs (.ref 157) "re.Pattern" := ⟨_, g1, rfl⟩
  unfold checkBoundCall
  rw [sig_search]
  dsimp only
  rw [kind_search]
  dsimp only
  refine wpAny_bind (wpAny_isInstance (T := "re.Pattern") (b := false) hT sub_pat_module ?_)
  rw [var_search, if_neg (by decide)]
  have ht : wpAny (MM w) A (isType (.ref 157)) (fun b s' => b = false ∧ s' = s) E s := by
    unfold isType
    exact wpAny_bind (wpAny_load g1 (wpAny_pure ⟨rfl, rfl⟩))
  refine wpAny_bind (wpAny_mono ht (fun b s' z => ?_) fun _ _ e => e)
  obtain ⟨e1, e2⟩ := z
  subst e1 e2
  refine wpAny_bind (wpAny_typeOf hT ?_)
  show wpAny _ _ (Bind.checkArgs "re.Pattern.search" { sigSearch with full := s!"{Bind.lastOf "re.Pattern"}.{Bind.lastOf "re.Pattern.search"}" } ⟨[.ref 157, .str x t], []⟩) _ _ _
  rw [args_search]
  exact wpAny_pure h
theorem re_obj (w : World) : (KK w).lookup 853 = some ⟨.type "builtin_function_or_method", none, .fields #[.builtin "re.Pattern.search", .ref 157], #[]⟩ := by kernel_rfl
theorem search_ok (w : World) (os : OsState) (n : Nat) (x : Str) (hx : x.length ≤ sizeLine) : Fn w os n (.ref 853) [S x] [] [] (fun v σ => if unsafeP x = true then ∃ a, v = .ref a ∧ σ = [(a, .pred fun _ => True)] else v = .none ∧ σ = []) := by
  intro A g E s vs ks b r hh ht hkw hs
  obtain ⟨v1, rfl, t1⟩ := ht.inv1
  obtain ⟨t, rfl⟩ := t1.str_inv
  have hks : ks = [] := hkw.inv0
  subst hks
  have X := (hs.bg b).kk
  refine codeAny_of_tree ?_
  show wpAny _ _ (callAny (.ref 853) ⟨[.str x t], []⟩) _ _ s
  simp only [callAny]
  refine wpAny_bind (wpAny_load (X _ _ (re_obj w)) ?_)
  show wpAny _ _ (do
      checkBoundCall "re.Pattern.search" ⟨[.ref 157, .str x t], []⟩
      again (.builtin "re.Pattern.search" ⟨[.ref 157, .str x t], []⟩)) _ _ s
  refine wpAny_bind (re_check X ?_)
  refine wpAny_pure ⟨Code.quiet_builtin _ (by decide +kernel), codeAny_builtin entry_search ?_⟩
  unfold Builtin.«re.Pattern.search»
  refine wpAny_bind (re_target X hx ?_)
  unfold reAnswer
  dsimp only
  obtain ⟨m, e1, e2, _⟩ := search_run x.cps
  refine wpAny_bind (re_run (b := unsafeP x) (by rw [e1]; exact e2) ?_)
  cases hu : unsafeP x with
  | false => exact wpAny_pure ⟨.none, [], .same _, by simp, hs.toSr0⟩
  | true =>
    refine wpAny_bind (re_match fun h' o ⟨o', e3, e4⟩ ho => ?_)
    subst e3
    refine wpAny_pure ⟨.ref (s.heap.push o').objs.size, [((s.heap.push o').objs.size, .pred fun _ => True)], .same _, by simp, ?_⟩
    have z1 : Sr0 w os g [(s.heap.objs.size, .pred fun _ => True)] { s with heap := s.heap.push o', toks := s.toks } := hs.toSr0.new (x := .pred fun _ => True) e4 trivial s.toks
    have z2 := z1.new (o := o) (x := .pred fun _ => True) ho trivial s.toks
    exact z2.sub (List.Sublist.cons_cons _ (List.sublist_cons_self _ _))
end
noncomputable def c3 : CT := cAdd 853 (fun vs st k => match vs with | [.str _ x] => x.length ≤ sizeLine ∧ (unsafeP x = true → alloc .any st k) ∧ (unsafeP x = false → k .none st) | _ => False) c2
theorem c3_ok (w : World) (os : OsState) : CTok w os 4 c3 := by
  refine cAdd_ok (c2_ok w os) ?_
  intro vs st k h c e1 e2 ok ρ us ht
  split at h
  · next g x =>
    obtain ⟨hx, h1, h2⟩ := h
    subst e1 e2
    have key := search_ok c.w c.os 0 x hx
    have key2 : Fn c.w c.os 0 (.ref 853) [S x] [] (st.sto c.cl ρ ++ []) (fun v σ' => if unsafeP x = true then ∃ a, v = .ref a ∧ σ' = st.sto c.cl ρ ++ [(a, .pred fun _ => True)] else v = .none ∧ σ' = st.sto c.cl ρ) := Fn.beside (key.mono fun v σ' h => by
      split
      · next q => rw [if_pos q] at h; obtain ⟨a, q1, q2⟩ := h; exact ⟨a, q1, by rw [q2]⟩
      · next q => rw [if_neg q] at h; exact ⟨h.1, by rw [h.2]; exact List.append_nil _⟩)
    rw [List.append_nil] at key2
    refine WT.gc (WT.call (kw := []) (ks := []) (Q := fun u m σ' => m = mre ρ st.m ∧ if unsafeP x = true then ∃ a, u = .ref a ∧ σ' = st.sto c.cl ρ ++ [(a, .pred fun _ => True)] else u = .none ∧ σ' = st.sto c.cl ρ) ok (Nat.zero_le _) ht .nil (key2.mono fun u σ' x => ⟨rfl, x⟩)) ?_
    rintro u m σ' ⟨rfl, hq⟩
    cases hu : unsafeP x with
    | true =>
      rw [hu, if_pos rfl] at hq
      obtain ⟨a, rfl, rfl⟩ := hq
      obtain ⟨φ, p1, p2⟩ := alloc_ok (c := c) (ρ := ρ) (h1 hu) a
      exact ⟨φ, Picks.trans (Picks.of_perm (τ := []) (by rw [List.append_nil]; exact (List.perm_append_comm (l₁ := [_]) (l₂ := _)))) p1, p2⟩
    | false =>
      rw [hu, if_neg (by decide)] at hq
      obtain ⟨rfl, rfl⟩ := hq
      exact ⟨_, Picks.refl _, Post.here (b := V.none) (h2 hu)⟩
  · exact h.elim
theorem f_quote (w : World) : FOk w 860 (topSt 44) := by constructor <;> kernel_rfl
noncomputable def quoteP (x : Str) : Str := if x.length == 0 then N "''" else if unsafeP x then N "'" ++ Txt.replace x (N "'") (N "'\"'\"'") ++ N "'" else x
theorem glued_le {sep : Str} {ws : List Str} {B : Nat} (hB : ∀ y ∈ ws, y.length ≤ B) : (Str.join sep ws).length ≤ ws.length * B + ws.length * sep.length := by
  have := join_le (sep := sep) hB
  rw [← StrLaws.glued_eq_join]
  exact this
theorem replace_len (x z : Str) (c : Nat) (hx : x.length ≤ 300) (hz : z.length ≤ 10) : (Txt.replace x ⟨#[c]⟩ z).length ≤ 100000 := by
  rw [StrLaws.replace_one]
  have h1 := glued_le (sep := z) (split_each x ⟨#[c]⟩)
  have h2 := split_count x ⟨#[c]⟩
  have h3 : (Txt.split x ⟨#[c]⟩).length * x.length ≤ 302 * 300 := Nat.mul_le_mul (by omega) hx
  have h4 : (Txt.split x ⟨#[c]⟩).length * z.length ≤ 302 * 10 := Nat.mul_le_mul (by omega) hz
  omega
theorem quoteP_len (x : Str) (hx : x.length ≤ 300) : (quoteP x).length ≤ 100010 := by
  unfold quoteP
  have h := replace_len x (N "'\"'\"'") 39 hx (by decide)
  split
  · decide
  · split
    · rw [Str.length_append, Str.length_append, show (N "'").length = 1 from rfl]
      have e : N "'" = ⟨#[39]⟩ := by decide
      rw [e]; omega
    · exact sz (by assumption) rfl
theorem quote_vc (x : Str) (k : Fl → St → Prop) : evSs (pm c3 (topSt 44) 0) (evN (pm c3 (topSt 44) 0) J0) (bodyOf (topSt 44)) ⟨[(N "s", some (.str false x))], [], [], 0⟩ k =
  ((x.length ≤ sizeLine) ∧
  ((((x.length != 0) = true) →
     ((x.length ≤ sizeLine) ∧
     (((unsafeP x = true) →
        (((x.length + ((x.length + 1) * (N "'\"'\"'").length)) ≤ 16777216) ∧
        ((((N "'").length + (Txt.replace x (N "'") (N "'\"'\"'")).length) ≤ sizeLine) ∧
         (((((N "'") ++ (Txt.replace x (N "'") (N "'\"'\"'"))).length + (N "'").length) ≤ sizeLine) ∧
          k (.ret (.str false (((N "'") ++ (Txt.replace x (N "'") (N "'\"'\"'"))) ++ (N "'")))) ⟨[((N "s"), (some (.str false x)))], [], [(0, .any)], 1⟩)))) ∧
      ((unsafeP x = false) →
        k (.ret (.str false x)) ⟨[((N "s"), (some (.str false x)))], [], [], 0⟩)))) ∧
   (((x.length != 0) = false) →
     k (.ret (.str true (N "''"))) ⟨[((N "s"), (some (.str false x)))], [], [], 0⟩))) := by kernel_rfl
theorem quote_r (w : World) (os : OsState) (x : Str) (hx : x.length ≤ 300) : RetF w os 5 (.ref 860) 0 [.str false x] [] (.str false (quoteP x)) [] := by
  refine RetF.ev (j := J0) (nx := 0) (m0 := [(N "s", some (.str false x))]) (f_quote w) (c3_ok w os) (by decide) (by kernel_rfl) (fun ρ us h => ?_) ?_
  · obtain ⟨v1, rfl, t1⟩ := h.inv1
    exact ⟨[(N "s", v1)], by kernel_rfl, by kernel_rfl, .yes (by kernel_rfl) t1 .nil⟩
  refine Eq.mpr (quote_vc x _) ?_
  have hz : x.length ≤ sizeLine := by exact sz (by assumption) rfl
  have e39 : N "'" = ⟨#[39]⟩ := by decide
  have hr := replace_len x (N "'\"'\"'") 39 hx (by decide)
  rw [← e39] at hr
  have l1 : (N "'").length = 1 := rfl
  have l5 : (N "'\"'\"'").length = 5 := by decide
  refine ⟨hz, fun h1 => ⟨hz, fun h2 => ⟨?_, ?_, ?_, ?_⟩, fun h2 => ?_⟩, fun h1 => ?_⟩
  · rw [l5]; omega
  · rw [l1, sizeLine_eq]; omega
  · rw [Str.length_append, l1, sizeLine_eq]; omega
  · have e : quoteP x = N "'" ++ Txt.replace x (N "'") (N "'\"'\"'") ++ N "'" := by unfold quoteP; rw [if_neg (by simpa using h1), if_pos h2]
    rw [e]; exact ⟨[], _, _, rfl, rfl, fun _ => rfl, fun _ => rfl⟩
  · have e : quoteP x = x := by unfold quoteP; rw [if_neg (by simpa using h1), if_neg (by rw [h2]; decide)]
    rw [e]; exact ⟨[], _, _, rfl, rfl, fun _ => rfl, fun _ => rfl⟩
  · have e : quoteP x = N "''" := by unfold quoteP; rw [if_pos (by simpa using h1)]
    rw [e]; exact ⟨[], _, _, rfl, rfl, fun _ => rfl, fun _ => rfl⟩
noncomputable def c4 : CT := cAdd 860 (fun vs st k => match vs with | [.str _ x] => x.length ≤ 300 ∧ k (.str false (quoteP x)) st | _ => False) c3
theorem c4_ok (w : World) (os : OsState) : CTok w os 5 c4 := by
  refine cAdd_ok ((c3_ok w os).le (by decide)) ?_
  intro vs st k h c e1 e2 ok ρ us ht
  split at h
  · exact pure_ok (quote_r w os _ h.1) rfl e1 e2 ok (Nat.le_refl _) h.2 ht
  · exact h.elim
theorem f_spell (w : World) : FOk w 874 (topSt 47) := by constructor <;> kernel_rfl
noncomputable def spM (x : Str) (s : Int) : List (Str × Option V) := [(N "word", some (.str false x)), (N "style", some (.int true s)), (N "text", none), (N "k", none), (N "half", none)]
noncomputable def spS (x t : Str) (kk : Option V) (h : List (Nat × O)) (nx : Nat) : St := ⟨[((N "word"), (some (.str false x))), ((N "style"), (some (.int true 2))), ((N "text"), (some (.str false t))), ((N "k"), kk), ((N "half"), none)], [], h, nx⟩
noncomputable def spT : List (Nat × O) := [(0, .tup [.str true (N ""), .str true (N "\""), .str true (N "\\")])]
noncomputable def spell1 (x : Str) : Str := N "'" ++ Txt.replace x (N "'") (N "'\\''") ++ N "'"
noncomputable def spTest (x : Str) (j : Nat) : Bool := Txt.item x (j : Int) == N "\"" || (Txt.item x (j : Int) == N "\\" && ([N "", N "\"", N "\\"].any fun y => y == Txt.slice x (some ((j : Int) + 1)) (some ((j : Int) + 2))))
noncomputable def spellStep (x t : Str) (j : Nat) : Str := if spTest x j then t ++ N "\\" ++ Txt.item x (j : Int) else t ++ Txt.item x (j : Int)
noncomputable def spellText (x : Str) : Nat → Str
  | 0 => N ""
  | j + 1 => spellStep x (spellText x j) j
noncomputable def spell2 (x : Str) : Str := N "\"" ++ spellText x x.length ++ N "\""
noncomputable def half (x : Str) : Int := (x.length : Int).fdiv 2
noncomputable def spell3 (x : Str) : Str := spell2 (Txt.slice x none (some (half x))) ++ spell1 (Txt.slice x (some (half x)) none)
noncomputable def spellP (x : Str) (s : Int) : Str := if s = 0 then quoteP x else if s = 1 then spell1 x else if s = 2 then spell2 x else spell3 x
theorem spell1_len (x : Str) (hx : x.length ≤ 300) : (spell1 x).length ≤ 100010 := by
  unfold spell1
  have h := replace_len x (N "'\\''") 39 hx (by decide)
  have e : N "'" = ⟨#[39]⟩ := by decide
  rw [Str.length_append, Str.length_append, show (N "'").length = 1 from rfl]
  rw [← e] at h; omega
theorem spell0_vc (x : Str) (k : Fl → St → Prop) : evSs (pm c4 (topSt 47) 0) (evN (pm c4 (topSt 47) 0) J0) (bodyOf (topSt 47)) ⟨spM x 0, [], [], 0⟩ k = (x.length ≤ 300 ∧ k (.ret (.str false (quoteP x))) ⟨spM x 0, [], [], 0⟩) := by kernel_rfl
theorem spell1_vc (x : Str) (k : Fl → St → Prop) : evSs (pm c4 (topSt 47) 0) (evN (pm c4 (topSt 47) 0) J0) (bodyOf (topSt 47)) ⟨spM x 1, [], [], 0⟩ k =
  (((x.length + ((x.length + 1) * (N "'\\''").length)) ≤ 16777216) ∧ ((((N "'").length + (Txt.replace x (N "'") (N "'\\''")).length) ≤ sizeLine) ∧
   (((((N "'") ++ (Txt.replace x (N "'") (N "'\\''"))).length + (N "'").length) ≤ sizeLine) ∧ k (.ret (.str false (spell1 x))) ⟨spM x 1, [], [], 0⟩))) := by kernel_rfl
theorem spell2_start (x : Str) (k : Fl → St → Prop) : evSs (pm c4 (topSt 47) 0) (evN (pm c4 (topSt 47) 0) J0) (bodyOf (topSt 47)) ⟨spM x 2, [], [], 0⟩ k =
  (x.length ≤ sizeLine ∧ (0 ≤ (x.length : Int) ∧ RangeVC (pm c4 (topSt 47) 0) (evN (pm c4 (topSt 47) 0) 38) (N "k") x.length (inner (nth (inner (nth (bodyOf (topSt 47)) 2)) 1)) ⟨[((N "word"), (some (.str false x))), ((N "style"), (some (.int true 2))), ((N "text"), (some (.str true (N "")))), ((N "k"), none), ((N "half"), none)], [], [], 0⟩
    (seqK (pm c4 (topSt 47) 0) (evN (pm c4 (topSt 47) 0) 39) ((inner (nth (bodyOf (topSt 47)) 2)).drop 2) (seqK (pm c4 (topSt 47) 0) (evN (pm c4 (topSt 47) 0) 40) ((bodyOf (topSt 47)).drop 3) k)))) := by kernel_rfl
theorem spell2_turn (x t : Str) (j : Nat) (k : Fl → St → Prop) : (bindN (pm c4 (topSt 47) 0) (N "k") (.int false j) (spS x t none [] 0) fun st1 => evSs (pm c4 (topSt 47) 0) (evN (pm c4 (topSt 47) 0) 38) (inner (nth (inner (nth (bodyOf (topSt 47)) 2)) 1)) st1 k) =
 ((((Neg.neg (x.length : Int)) ≤ (j : Int)) ∧ (((j : Int) < (x.length : Int)) ∧ (x.length ≤ sizeLine))) ∧
  (((((Txt.item x (j : Int)) == (N "\"")) = true) →
     (((t.length + (N "\\").length) ≤ sizeLine) ∧
     ((((Neg.neg (x.length : Int)) ≤ (j : Int)) ∧ (((j : Int) < (x.length : Int)) ∧ (x.length ≤ sizeLine))) ∧
      ((((t ++ (N "\\")).length + (Txt.item x (j : Int)).length) ≤ sizeLine) ∧ k .next (spS x (t ++ N "\\" ++ Txt.item x (j : Int)) (some (.int false j)) [] 0))))) ∧
   ((((Txt.item x (j : Int)) == (N "\"")) = false) →
     ((((Neg.neg (x.length : Int)) ≤ (j : Int)) ∧ (((j : Int) < (x.length : Int)) ∧ (x.length ≤ sizeLine))) ∧
     (((((Txt.item x (j : Int)) == (N "\\")) = true) →
        ((x.length ≤ sizeLine) ∧
        ((([N "", N "\"", N "\\"].any fun y => y == Txt.slice x (some ((j : Int) + 1)) (some ((j : Int) + 2))) = true →
           (((t.length + (N "\\").length) ≤ sizeLine) ∧
           ((((Neg.neg (x.length : Int)) ≤ (j : Int)) ∧ (((j : Int) < (x.length : Int)) ∧ (x.length ≤ sizeLine))) ∧
            ((((t ++ (N "\\")).length + (Txt.item x (j : Int)).length) ≤ sizeLine) ∧ k .next (spS x (t ++ N "\\" ++ Txt.item x (j : Int)) (some (.int false j)) spT 1))))) ∧
         (([N "", N "\"", N "\\"].any fun y => y == Txt.slice x (some ((j : Int) + 1)) (some ((j : Int) + 2))) = false →
           ((((Neg.neg (x.length : Int)) ≤ (j : Int)) ∧ (((j : Int) < (x.length : Int)) ∧ (x.length ≤ sizeLine))) ∧
           (((t.length + (Txt.item x (j : Int)).length) ≤ sizeLine) ∧ k .next (spS x (t ++ Txt.item x (j : Int)) (some (.int false j)) spT 1))))))) ∧
      ((((Txt.item x (j : Int)) == (N "\\")) = false) →
        ((((Neg.neg (x.length : Int)) ≤ (j : Int)) ∧ (((j : Int) < (x.length : Int)) ∧ (x.length ≤ sizeLine))) ∧
        (((t.length + (Txt.item x (j : Int)).length) ≤ sizeLine) ∧ k .next (spS x (t ++ Txt.item x (j : Int)) (some (.int false j)) [] 0))))))))) := by kernel_rfl
theorem spell2_end (x t : Str) (k : Fl → St → Prop) : (seqK (pm c4 (topSt 47) 0) (evN (pm c4 (topSt 47) 0) 39) ((inner (nth (bodyOf (topSt 47)) 2)).drop 2) (seqK (pm c4 (topSt 47) 0) (evN (pm c4 (topSt 47) 0) 40) ((bodyOf (topSt 47)).drop 3) k)) .next (spS x t none [] 0) =
  ((N "\"").length + t.length ≤ sizeLine ∧ ((N "\"" ++ t).length + (N "\"").length ≤ sizeLine ∧ k (.ret (.str false (N "\"" ++ t ++ N "\""))) (spS x t none [] 0))) := by kernel_rfl
theorem spellText_len (x : Str) : ∀ j, (spellText x j).length ≤ 2 * j
  | 0 => by show (N "").length ≤ 0; decide
  | j + 1 => by
    have ih := spellText_len x j
    have h1 : (Txt.item x (j : Int)).length = 1 := rfl
    show (spellStep x (spellText x j) j).length ≤ _
    unfold spellStep
    split
    · rw [Str.length_append, Str.length_append, show (N "\\").length = 1 from rfl]; omega
    · rw [Str.length_append]; omega
theorem spell2_len (x : Str) (hx : x.length ≤ 300) : (spell2 x).length ≤ 602 := by
  unfold spell2
  have := spellText_len x x.length
  rw [Str.length_append, Str.length_append, show (N "\"").length = 1 from rfl]
  omega
theorem spell_bind (w : World) (x : Str) (s : Int) : ∀ ρ us, TeqL ([V.str false x, V.int true s].map (V.re ρ)) us → ∃ binds, bindArgs (fdAt w 874) ⟨us, []⟩ = pure binds ∧ (binds.all (fun y => (scopeOf (topSt 47)).names.lookup y.1 == some .local)) = true ∧ BLoc binds (mre ρ (spM x s)) := by
  intro ρ us h
  obtain ⟨v1, v2, rfl, t1, t2⟩ := h.inv2
  exact ⟨[(N "word", v1), (N "style", v2)], by kernel_rfl, by kernel_rfl, .yes (by kernel_rfl) t1 (.yes (by kernel_rfl) t2 (.no (.no (.no .nil))))⟩
theorem spell0_r (w : World) (os : OsState) (x : Str) (hx : x.length ≤ 300) : RetF w os 6 (.ref 874) 0 [.str false x, .int true 0] [] (.str false (spellP x 0)) [] := by
  refine RetF.ev (j := J0) (nx := 0) (m0 := spM x 0) (f_spell w) (c4_ok w os) (by decide) (by kernel_rfl) (spell_bind w x 0) ?_
  exact Eq.mpr (spell0_vc x _) ⟨hx, [], _, _, rfl, rfl, fun _ => rfl, fun _ => rfl⟩
theorem spell1_r (w : World) (os : OsState) (x : Str) (hx : x.length ≤ 300) : RetF w os 6 (.ref 874) 0 [.str false x, .int true 1] [] (.str false (spellP x 1)) [] := by
  refine RetF.ev (j := J0) (nx := 0) (m0 := spM x 1) (f_spell w) (c4_ok w os) (by decide) (by kernel_rfl) (spell_bind w x 1) ?_
  have hr := replace_len x (N "'\\''") 39 hx (by decide)
  have e39 : N "'" = ⟨#[39]⟩ := by decide
  rw [← e39] at hr
  have l1 : (N "'").length = 1 := rfl
  have l4 : (N "'\\''").length = 4 := by decide
  refine Eq.mpr (spell1_vc x _) ⟨?_, ?_, ?_, [], _, _, rfl, rfl, fun _ => rfl, fun _ => rfl⟩
  · rw [l4]; omega
  · rw [l1, sizeLine_eq]; omega
  · rw [Str.length_append, l1, sizeLine_eq]; omega
theorem spell2_r (w : World) (os : OsState) (x : Str) (hx : x.length ≤ 300) : RetF w os 6 (.ref 874) 0 [.str false x, .int true 2] [] (.str false (spellP x 2)) [] := by
  refine RetF.ev (j := J0) (nx := 0) (m0 := spM x 2) (f_spell w) (c4_ok w os) (by decide) (by kernel_rfl) (spell_bind w x 2) ?_
  have hz : x.length ≤ sizeLine := by exact sz (by assumption) rfl
  refine Eq.mpr (spell2_start x _) ⟨hz, by exact Int.natCast_nonneg _, RangeVC.intro hz (fun j st => st = spS x (spellText x j) none [] 0) ⟨[], [N "!text"], spS x (N "") none [] 0, by kernel_rfl, rfl⟩ ?_ ?_⟩
  · rintro j st hj rfl
    have hl := spellText_len x j
    have h1 : (Txt.item x (j : Int)).length = 1 := rfl
    have lb : (N "\\").length = 1 := rfl
    refine Eq.mpr (spell2_turn x _ j _) ?_
    have hr : ((Neg.neg (x.length : Int)) ≤ (j : Int)) ∧ (((j : Int) < (x.length : Int)) ∧ (x.length ≤ sizeLine)) := ⟨by omega, by exact Int.ofNat_le.2 (by assumption), hz⟩
    have key : ∀ (t' : Str) (h : List (Nat × O)) (nx : Nat), h = [] ∧ nx = 0 ∨ h = spT ∧ nx = 1 → spellText x (j + 1) = t' → Ordered (pm c4 (topSt 47) 0) (spS x t' (some (.int false j)) h nx) (fun st => st = spS x (spellText x (j + 1)) none [] 0) := by
      rintro t' h nx (⟨rfl, rfl⟩ | ⟨rfl, rfl⟩) e
      · exact ⟨[], [N "k"], spS x t' none [] 0, by kernel_rfl, by rw [e]⟩
      · exact ⟨[], [N "k"], spS x t' none [] 0, by kernel_rfl, by rw [e]⟩
    have st : spellText x (j + 1) = spellStep x (spellText x j) j := rfl
    refine ⟨hr, fun h2 => ⟨?_, hr, ?_, key _ _ _ (.inl ⟨rfl, rfl⟩) ?_⟩, fun h2 => ⟨hr, fun h3 => ⟨hz, fun h4 => ⟨?_, hr, ?_, key _ _ _ (.inr ⟨rfl, rfl⟩) ?_⟩, fun h4 => ⟨hr, ?_, key _ _ _ (.inr ⟨rfl, rfl⟩) ?_⟩⟩, fun h3 => ⟨hr, ?_, key _ _ _ (.inl ⟨rfl, rfl⟩) ?_⟩⟩⟩
    · rw [lb, sizeLine_eq]; omega
    · rw [Str.length_append, lb, h1, sizeLine_eq]; omega
    · rw [st]; unfold spellStep spTest; rw [h2]; rfl
    · rw [lb, sizeLine_eq]; omega
    · rw [Str.length_append, lb, h1, sizeLine_eq]; omega
    · rw [st]; unfold spellStep spTest; rw [h2, h3, h4]; rfl
    · rw [h1, sizeLine_eq]; omega
    · rw [st]; unfold spellStep spTest; rw [h2, h3, h4]; rfl
    · rw [h1, sizeLine_eq]; omega
    · rw [st]; unfold spellStep spTest; rw [h2, h3]; rfl
  · rintro st rfl
    have hl := spellText_len x x.length
    have lq : (N "\"").length = 1 := rfl
    refine Eq.mpr (spell2_end x _ _) ⟨?_, ?_, [], _, _, rfl, rfl, fun _ => rfl, fun _ => rfl⟩
    · rw [lq, sizeLine_eq]; omega
    · rw [Str.length_append, lq, sizeLine_eq]; omega
noncomputable def c5 : CT := cAdd 874 (fun vs st k => match vs with
  | [.str _ x, .int _ s] => (x.length ≤ 300 ∧ 0 ≤ s ∧ s ≤ 2) ∧ k (.str false (spellP x s)) st
  | _ => False) c4
theorem c5_ok (w : World) (os : OsState) : CTok w os 6 c5 := by
  refine cAdd_ok ((c4_ok w os).le (by decide)) ?_
  intro vs st k h c e1 e2 ok ρ us ht
  split at h
  · next g x f s =>
    obtain ⟨⟨h1, h2, h3⟩, h⟩ := h
    have : s = 0 ∨ s = 1 ∨ s = 2 := by omega
    rcases this with rfl | rfl | rfl
    · exact pure_ok (spell0_r w os x h1) rfl e1 e2 ok (Nat.le_refl _) h ht
    · exact pure_ok (spell1_r w os x h1) rfl e1 e2 ok (Nat.le_refl _) h ht
    · exact pure_ok (spell2_r w os x h1) rfl e1 e2 ok (Nat.le_refl _) h ht
  · exact h.elim
theorem spell3_vc (x : Str) (k : Fl → St → Prop) : evSs (pm c5 (topSt 47) 0) (evN (pm c5 (topSt 47) 0) J0) (bodyOf (topSt 47)) ⟨spM x 3, [], [], 0⟩ k =
  ((x.length ≤ sizeLine) ∧ ((x.length ≤ sizeLine) ∧
   ((((Txt.slice x none (some (half x))).length ≤ 300) ∧ (((0 : Int) ≤ 2) ∧ ((2 : Int) ≤ 2))) ∧
    ((x.length ≤ sizeLine) ∧
     ((((Txt.slice x (some (half x)) none).length ≤ 300) ∧ (((0 : Int) ≤ 1) ∧ ((1 : Int) ≤ 2))) ∧
      (((spellP (Txt.slice x none (some (half x))) 2).length + (spellP (Txt.slice x (some (half x)) none) 1).length ≤ sizeLine) ∧
       k (.ret (.str false (spellP (Txt.slice x none (some (half x))) 2 ++ spellP (Txt.slice x (some (half x)) none) 1))) ⟨[((N "word"), (some (.str false x))), ((N "style"), (some (.int true 3))), ((N "text"), none), ((N "k"), none), ((N "half"), (some (.int false (half x))))], [], [], 0⟩)))))) := by kernel_rfl
theorem spell3_r (w : World) (os : OsState) (x : Str) (hx : x.length ≤ 300) : RetF w os 7 (.ref 874) 0 [.str false x, .int true 3] [] (.str false (spellP x 3)) [] := by
  refine RetF.ev (j := J0) (nx := 0) (m0 := spM x 3) (f_spell w) (c5_ok w os) (by decide) (by kernel_rfl) (spell_bind w x 3) ?_
  have hz : x.length ≤ sizeLine := by rw [sizeLine_eq]; omega
  have h1 := Nat.le_trans (Txt.slice_le x none (some (half x))) hx
  have h2 := Nat.le_trans (Txt.slice_le x (some (half x)) none) hx
  have l1 := spell2_len _ h1
  have l2 := spell1_len _ h2
  refine Eq.mpr (spell3_vc x _) ⟨hz, hz, ⟨h1, by decide, by decide⟩, hz, ⟨h2, by decide, by decide⟩, ?_, ?_⟩
  · show (spell2 _).length + (spell1 _).length ≤ _
    rw [sizeLine_eq]; omega
  · exact ⟨[], _, _, rfl, rfl, fun _ => rfl, fun _ => rfl⟩
noncomputable def c6 : CT := cAdd 874 (fun vs st k => match vs with
  | [.str _ x, .int _ s] => (x.length ≤ 300 ∧ 0 ≤ s ∧ s ≤ 3) ∧ k (.str false (spellP x s)) st
  | _ => False) c5
theorem c6_ok (w : World) (os : OsState) : CTok w os 7 c6 := by
  refine cAdd_ok ((c5_ok w os).le (by decide)) ?_
  intro vs st k h c e1 e2 ok ρ us ht
  split at h
  · next g x f s =>
    obtain ⟨⟨h1, h2, h3⟩, h⟩ := h
    have : s = 0 ∨ s = 1 ∨ s = 2 ∨ s = 3 := by omega
    rcases this with rfl | rfl | rfl | rfl
    · exact pure_ok (spell0_r w os x h1) rfl e1 e2 ok (by decide) h ht
    · exact pure_ok (spell1_r w os x h1) rfl e1 e2 ok (by decide) h ht
    · exact pure_ok (spell2_r w os x h1) rfl e1 e2 ok (by decide) h ht
    · exact pure_ok (spell3_r w os x h1) rfl e1 e2 ok (Nat.le_refl _) h ht
  · exact h.elim
theorem spellP_len (x : Str) (s : Int) (hx : x.length ≤ 300) : (spellP x s).length ≤ 101000 := by
  unfold spellP
  split
  · have := quoteP_len x hx; omega
  · split
    · have := spell1_len x hx; omega
    · split
      · have := spell2_len x hx; omega
      · unfold spell3
        have h1 := spell2_len _ (Nat.le_trans (Txt.slice_le x none (some (half x))) hx)
        have h2 := spell1_len _ (Nat.le_trans (Txt.slice_le x (some (half x)) none) hx)
        rw [Str.length_append]; omega
theorem f_line (w : World) : FOk w 881 (topSt 48) := by constructor <;> kernel_rfl
noncomputable def whiteP (x : Int) (j : Nat) : Str := [(N " "), (N "\t\n"), (N "\x0d")].getD (idx 3 (Int.fmod ((Int.fdiv x 1344) + (j : Int)) 3)) (N "")
noncomputable def styleP (x : Int) (j : Nat) : Int := Int.fmod ((Int.fdiv x 336) + (j : Int)) 4
noncomputable def lineStep (ws : List Str) (sc : List Int) (line : Str) (j : Nat) : Str := line ++ (whiteP (sc.getD j 0) j ++ spellP (ws.getD (j + 1) (N "")) (styleP (sc.getD j 0) j))
noncomputable def lineAcc (ws : List Str) (sc : List Int) : Nat → Str
  | 0 => spellP (ws.getD 0 (N "")) 0
  | j + 1 => lineStep ws sc (lineAcc ws sc j) j
noncomputable def lineP (ws : List Str) (sc : List Int) : Str := lineAcc ws sc (sc.take 6).length
noncomputable def lnS (ws : List Str) (sc : Obj × List Int) (line : Str) (ok ox ow : Option V) (h : List (Nat × O)) (nx : Nat) : St := ⟨[(N "words", some (.loc 0)), (N "script", some (.loc 1)), (N "line", some (.str false line)), (N "k", ok), (N "x", ox), (N "white", ow)], [], h ++ [(0, .strs ws), (1, .read sc.1 sc.2)], nx⟩
noncomputable def lnM : List (Str × Option V) := [(N "words", some (.loc 0)), (N "script", some (.loc 1)), (N "line", none), (N "k", none), (N "x", none), (N "white", none)]
theorem line_start (ws : List Str) (sc : Obj × List Int) (k : Fl → St → Prop) : evSs (pm c6 (topSt 48) 2) (evN (pm c6 (topSt 48) 2) J0) (bodyOf (topSt 48)) ⟨lnM, [], [(0, .strs ws), (1, .read sc.1 sc.2)], 2⟩ k =
  ((((Neg.neg ((List.length ws) : Int)) ≤ 0) ∧ (((0 : Int) < ((List.length ws) : Int)) ∧ ((List.length ws) ≤ sizeLine))) ∧
   ((((List.getD ws (idx ws.length 0) (N "")).length ≤ 300) ∧ (((0 : Int) ≤ 0) ∧ ((0 : Int) ≤ 3))) ∧
   ((IntsOf sc.1 sc.2 ∧ sc.2.length ≤ sizeLine) ∧ EnumVC (pm c6 (topSt 48) 2) (evN (pm c6 (topSt 48) 2) 39) (N "k") (N "x") 2 (inner (nth (bodyOf (topSt 48)) 1)) (lnS ws sc (spellP (List.getD ws (idx ws.length 0) (N "")) 0) none none none [(2, .ints (sc.2.take 6))] 3)
     (seqK (pm c6 (topSt 48) 2) (evN (pm c6 (topSt 48) 2) 40) ((bodyOf (topSt 48)).drop 2) k)))) := by kernel_rfl
theorem line_turn (ws : List Str) (sc : Obj × List Int) (line : Str) (x : Int) (j : Nat) (k : Fl → St → Prop) : (bindN (pm c6 (topSt 48) 2) (N "k") (.int false j) (lnS ws sc line none none none [] 2) fun st1 => bindN (pm c6 (topSt 48) 2) (N "x") (.int false x) st1 fun st1 => evSs (pm c6 (topSt 48) 2) (evN (pm c6 (topSt 48) 2) 39) (inner (nth (bodyOf (topSt 48)) 1)) st1 k) =
  ((((-3 : Int) ≤ (Int.fmod ((Int.fdiv x 1344) + (j : Int)) 3)) ∧ (((Int.fmod ((Int.fdiv x 1344) + (j : Int)) 3) < 3) ∧ (3 ≤ sizeLine))) ∧
  ((((Neg.neg ((List.length ws) : Int)) ≤ ((j : Int) + 1)) ∧ ((((j : Int) + 1) < ((List.length ws) : Int)) ∧ ((List.length ws) ≤ sizeLine))) ∧
   ((((List.getD ws (idx (List.length ws) ((j : Int) + 1)) (N "")).length ≤ 300) ∧ ((0 ≤ (styleP x j)) ∧ ((styleP x j) ≤ 3))) ∧
    (((whiteP x j).length + (spellP (ws.getD (idx ws.length (j + 1)) (N "")) (styleP x j)).length ≤ sizeLine) ∧
     ((line.length + (whiteP x j ++ spellP (ws.getD (idx ws.length (j + 1)) (N "")) (styleP x j)).length ≤ sizeLine) ∧
      k .next (lnS ws sc (line ++ (whiteP x j ++ spellP (ws.getD (idx ws.length (j + 1)) (N "")) (styleP x j))) (some (.int false j)) (some (.int false x)) (some (.str false (whiteP x j))) [(2, (.strs [(N " "), (N "\t\n"), (N "\x0d")]))] 3)))))) := by kernel_rfl
theorem line_end (ws : List Str) (sc : Obj × List Int) (line : Str) (k : Fl → St → Prop) : (seqK (pm c6 (topSt 48) 2) (evN (pm c6 (topSt 48) 2) 40) ((bodyOf (topSt 48)).drop 2) k) .next (lnS ws sc line none none none [] 2) = k (.ret (.str false line)) (lnS ws sc line none none none [] 2) := by kernel_rfl
theorem EnumVC.intro {P : Pm} {r : Ev} {x y : Str} {i : Nat} {b : List Stmt} {st : St} {k : Fl → St → Prop} {o : O} {h' : List (Nat × O)} {n : Nat} {at_ : Nat → V} (e1 : htake st.h i = some (o, h')) (e2 : itemsL o = some (n, at_)) (J : Nat → St → Prop) (h0 : Ordered P { st with h := h' } (J 0))
    (turn : ∀ j st, j < n → J j st → bindN P x (.int false j) st fun st1 => bindN P y (at_ j) st1 fun st2 => evSs P r b st2 (rangeK P J j k)) (done : ∀ st, J n st → k .next st) : EnumVC P r x y i b st k := by
  unfold EnumVC
  rw [e1]
  dsimp only
  rw [e2]
  exact ⟨J, h0, fun j st hj h => bindN_mono (turn j st hj h) fun _ h => bindN_mono h fun _ h => .all h, done⟩
theorem EnumVC.intro' {P : Pm} {r : Ev} {x y : Str} {i : Nat} {b : List Stmt} {st : St} {k : Fl → St → Prop} {o : O} {h' : List (Nat × O)} {n : Nat} {at_ : Nat → V} (e1 : htake st.h i = some (o, h')) (e2 : itemsL o = some (n, at_)) (J : Nat → St → Prop) (h0 : Ordered P { st with h := h' } (J 0))
    (turn : ∀ j st, j < n → J j st → bindN P x (.int false j) st fun st1 => bindN P y (at_ j) st1 fun st2 => Seg P r (rangeK P J j k) b st2) (done : ∀ st, J n st → k .next st) : EnumVC P r x y i b st k := by
  unfold EnumVC
  rw [e1]
  dsimp only
  rw [e2]
  exact ⟨J, h0, turn, done⟩
theorem whiteP_len (x : Int) (j : Nat) : (whiteP x j).length ≤ 2 := by
  unfold whiteP
  generalize idx 3 _ = i
  match i with
  | 0 => decide
  | 1 => decide
  | 2 => decide
  | i + 3 => show (N "").length ≤ 2; decide
theorem lineAcc_len (ws : List Str) (sc : List Int) (hw : ∀ j, (ws.getD j (N "")).length ≤ 300) : ∀ j, (lineAcc ws sc j).length ≤ (j + 1) * 101010
  | 0 => by have := spellP_len (ws.getD 0 (N "")) 0 (hw 0); show (spellP _ 0).length ≤ _; omega
  | j + 1 => by
    have ih := lineAcc_len ws sc hw j
    have h1 := spellP_len (ws.getD (j + 1) (N "")) (styleP (sc.getD j 0) j) (hw _)
    have h2 := whiteP_len (sc.getD j 0) j
    show (lineStep ws sc _ j).length ≤ _
    unfold lineStep
    rw [Str.length_append, Str.length_append]
    omega
theorem line_r (w : World) (os : OsState) (ws : List Str) (ob : Obj) (sc : List Int) (hob : IntsOf ob sc) (hl : ws.length = (sc.take 6).length + 1) (hsc : sc.length ≤ 63) (hw : ∀ j, (ws.getD j (N "")).length ≤ 300) :
    RetF w os 8 (.ref 881) 2 [.loc 0, .loc 1] [(0, .strs ws), (1, .read ob sc)] (.str false (lineP ws sc)) [(0, .strs ws), (1, .read ob sc)] := by
  refine RetF.ev (j := J0) (nx := 2) (m0 := lnM) (f_line w) (c6_ok w os) (by decide) (by kernel_rfl) (fun ρ us h => ?_) ?_
  · obtain ⟨v1, v2, rfl, t1, t2⟩ := h.inv2
    exact ⟨[(N "words", v1), (N "script", v2)], by kernel_rfl, by kernel_rfl, .yes (by kernel_rfl) t1 (.yes (by kernel_rfl) t2 (.no (.no (.no (.no .nil)))))⟩
  have h6 : (sc.take 6).length ≤ 6 := by rw [List.length_take]; omega
  have hwz : ws.length ≤ sizeLine := by rw [sizeLine_eq]; omega
  have i0 : idx ws.length 0 = 0 := rfl
  refine Eq.mpr (line_start ws (ob, sc) _) ⟨⟨by omega, by omega, hwz⟩, ⟨by rw [i0]; exact hw 0, by decide, by decide⟩, ⟨hob, by rw [sizeLine_eq]; show sc.length ≤ _; omega⟩, ?_⟩
  rw [i0]
  refine EnumVC.intro (o := .ints (sc.take 6)) (h' := [(0, .strs ws), (1, .read ob sc)]) rfl rfl (fun j st => st = lnS ws (ob, sc) (lineAcc ws sc j) none none none [] 2) ⟨[], [], lnS ws (ob, sc) (lineAcc ws sc 0) none none none [] 2, by kernel_rfl, rfl⟩ ?_ ?_
  · rintro j st hj rfl
    have ix : idx ws.length ((j : Int) + 1) = j + 1 := by unfold idx; rw [if_neg (by omega)]; omega
    have hx : (sc.take 6).getD j 0 = sc.getD j 0 := by
      rw [List.getD_eq_getElem?_getD, List.getD_eq_getElem?_getD, List.getElem?_take_of_lt (by omega)]
    rw [hx]
    refine Eq.mpr (line_turn ws (ob, sc) _ _ j _) ?_
    have m3 := Int.fmod_nonneg_of_pos ((sc.getD j 0).fdiv 1344 + (j : Int)) (b := 3) (by decide)
    have m3' := Int.fmod_lt_of_pos ((sc.getD j 0).fdiv 1344 + (j : Int)) (b := 3) (by decide)
    have m4 : 0 ≤ styleP (sc.getD j 0) j := Int.fmod_nonneg_of_pos _ (by decide)
    have m4' : styleP (sc.getD j 0) j < 4 := Int.fmod_lt_of_pos _ (by decide)
    have l1 := lineAcc_len ws sc hw j
    have l2 := whiteP_len (sc.getD j 0) j
    have l3 := spellP_len (ws.getD (j + 1) (N "")) (styleP (sc.getD j 0) j) (hw _)
    have hjj : (j + 1) * 101010 ≤ 7 * 101010 := Nat.mul_le_mul_right _ (by omega)
    rw [ix]
    refine ⟨⟨by omega, m3', by rw [sizeLine_eq]; decide⟩, ⟨by omega, by omega, hwz⟩, ⟨hw _, m4, by omega⟩, by rw [sizeLine_eq]; omega, by rw [Str.length_append, sizeLine_eq]; omega, ?_⟩
    exact ⟨[], [N "k", N "x", N "white"], lnS ws (ob, sc) (lineAcc ws sc (j + 1)) none none none [] 2, by kernel_rfl, rfl⟩
  · rintro st rfl
    exact Eq.mpr (line_end ws (ob, sc) _ _) ⟨[], _, _, rfl, rfl, fun _ => rfl, fun _ => rfl⟩
noncomputable def nameTab : List Str := [N "a", N "", N "b c", N "it's", N "\\\"", N "...", N "\\b"]
noncomputable def nameP (x : Int) : Str := nameTab.getD (idx 7 (Int.fmod x 7)) (N "")
noncomputable def keepP (x : Int) (j : Nat) : Nat := Int.toNat (Int.fmod (Int.fdiv x 7 + (j : Int)) 3)
noncomputable def wayP (x : Int) (j : Nat) : Int := Int.fmod (Int.fdiv x 21 + Int.fdiv (j : Int) 2) 4
noncomputable def detP (x : Int) (j : Nat) : Int := Int.fmod (Int.fdiv x 84 + (j : Int)) 4
noncomputable def dots (n : Int) : List Str := List.flatten (List.replicate n.toNat [N ".."])
noncomputable def moreP (name : Str) : List Str := match name != N "" with | true => [name] | false => []
noncomputable def wayStep (root : Str) (ups : Int) (names kept more : List Str) (way : Int) (j : Nat) : Str × Int × Str × List Str :=
  match decide (way < 2) with
  | true => let over : Int := match kept == [] with | true => way | false => 0
    (root, (match root == N "" with | true => ups + over | false => ups), N "", dots ((names.length : Int) - (kept.length : Int) + over) ++ more)
  | false => let root' := match way == 2 with | true => N "/" | false => N "//"
    (root', 0, (match way == 2 with | true => (match Int.fmod (j : Int) 2 == 1 with | true => N "///" | false => root') | false => root'), kept ++ more)
noncomputable def detStep (d : Int) (pieces : List Str) : List Str :=
  match d == 1 with
  | true => [N "b c", N ".."] ++ pieces
  | false => match d == 2 with
    | true => pieces.take 1 ++ [N "."] ++ pieces.drop 1
    | false => match d == 3 with
      | true => pieces ++ [N "a", N "", N "..", N ""]
      | false => pieces
noncomputable def placeP (root : Str) (ups : Int) (names : List Str) : Str :=
  match root == N "" with
  | true => (let t := Txt.join (N "/") (dots ups ++ names); match t.length != 0 with | true => t | false => N ".")
  | false => root ++ Txt.join (N "/") names
noncomputable abbrev P46 : Pm := pm c6 (topSt 46) 1
noncomputable def tB : List Stmt := inner (nth (bodyOf (topSt 46)) 5)
noncomputable def tS (root ups names k x name more kept way front over pieces detour : Option V) (h : List (Nat × O)) (nx : Nat) : St := ⟨[(N "script", some (.loc 0)), (N "root", root), (N "ups", ups), (N "names", names), (N "words", some (.loc 2)), (N "places", some (.loc 3)), (N "k", k), (N "x", x), (N "name", name), (N "more", more), (N "kept", kept), (N "way", way), (N "front", front), (N "over", over), (N "pieces", pieces), (N "detour", detour)], [], h, nx⟩
noncomputable def tH (sc : Obj × List Int) (names words places : List Str) : List (Nat × O) := [(0, .read sc.1 sc.2), (1, .strs names), (2, .strs words), (3, .strs places)]
noncomputable def t0 (root : Str) (ups : Int) (names words places : List Str) (sc : Obj × List Int) (h : List (Nat × O)) (nx : Nat) : St := tS (some (.str false root)) (some (.int false ups)) (some (.loc 1)) none none none none none none none none none none (h ++ tH sc names words places) nx
noncomputable def t1 (root : Str) (ups : Int) (names words places : List Str) (sc : Obj × List Int) (x : Int) (j : Nat) (more kept : List Str) (way : Int) : St := tS (some (.str false root)) (some (.int false ups)) (some (.loc 1)) (some (.int false j)) (some (.int false x)) none (some (.loc 4)) (some (.loc 5)) (some (.int false way)) (some (.str false (N ""))) none none none (tH sc names words places ++ [(4, .strs more), (5, .strs kept)]) 6
noncomputable def t2 (root : Str) (ups : Int) (names words places : List Str) (sc : Obj × List Int) (x : Int) (j : Nat) (more kept : List Str) (front : Str) (pieces : List Str) : St := tS (some (.str false root)) (some (.int false ups)) (some (.loc 1)) (some (.int false j)) (some (.int false x)) none (some (.loc 4)) (some (.loc 5)) none (some (.str false front)) none (some (.loc 6)) none (tH sc names words places ++ [(4, .strs more), (5, .strs kept), (6, .strs pieces)]) 7
noncomputable def t3 (root : Str) (ups : Int) (names words places : List Str) (sc : Obj × List Int) (front : Str) (pieces : List Str) : St := tS (some (.str false root)) (some (.int false ups)) (some (.loc 1)) none none none none none none (some (.str false front)) none (some (.loc 4)) none (tH sc names words places ++ [(4, .strs pieces)]) 5
noncomputable def tS0 (sc : Obj × List Int) : St := ⟨[(N "script", some (.loc 0)), (N "root", none), (N "ups", none), (N "names", none), (N "words", none), (N "places", none), (N "k", none), (N "x", none), (N "name", none), (N "more", none), (N "kept", none), (N "way", none), (N "front", none), (N "over", none), (N "pieces", none), (N "detour", none)], [], [(0, .read sc.1 sc.2)], 1⟩
theorem tour_start (sc : Obj × List Int) (k : Fl → St → Prop) : evSs P46 (evN P46 J0) (bodyOf (topSt 46)) (tS0 sc) k =
  ((IntsOf sc.1 sc.2 ∧ sc.2.length ≤ sizeLine) ∧ EnumVC P46 (evN P46 39) (N "k") (N "x") 4 tB (tS (some (.str true (N ""))) (some (.int true 0)) (some (.loc 1)) none none none none none none none none none none [(4, .ints (sc.2.take 6)), (3, .strs [N "."]), (2, .strs [N ""]), (1, .strs []), (0, .read sc.1 sc.2)] 5) (seqK P46 (evN P46 40) ((bodyOf (topSt 46)).drop 6) k)) := by kernel_rfl
theorem tour1 (root : Str) (ups : Int) (names words places : List Str) (sc : Obj × List Int) (x : Int) (j : Nat) (k : Fl → St → Prop) : (bindN P46 (N "k") (.int false j) (t0 root ups names words places sc [] 4) fun st1 => bindN P46 (N "x") (.int false x) st1 fun st1 => evSs P46 (evN P46 39) (tB.take 5) st1 k) =
  (((((-7) ≤ (Int.fmod x 7)) ∧ (((Int.fmod x 7) < 7) ∧ (7 ≤ sizeLine))) ∧ (((((nameP x) != (N "")) = true) → ((0 ≤ (Int.fmod ((Int.fdiv x 7) + (j : Int)) 3)) ∧ (((List.length names) ≤ sizeLine) ∧ k .next (tS (some (.str false root)) (some (.int false ups)) (some (.loc 1)) (some (.int false (j : Int))) (some (.int false x)) (some (.str false (nameP x))) (some (.loc 5)) (some (.loc 6)) (some (.int false (wayP x j))) (some (.str true (N ""))) none none none [(6, (.strs (List.take (keepP x j) names))), (5, (.strs [(nameP x)])), (4, (.strs [(N "a"), (N ""), (N "b c"), (N "it's"), (N "\\\""), (N "..."), (N "\\b")])), (0, (.read sc.1 sc.2)), (1, (.strs names)), (2, (.strs words)), (3, (.strs places))] 7)))) ∧ ((((nameP x) != (N "")) = false) → ((0 ≤ (Int.fmod ((Int.fdiv x 7) + (j : Int)) 3)) ∧ (((List.length names) ≤ sizeLine) ∧ k .next (tS (some (.str false root)) (some (.int false ups)) (some (.loc 1)) (some (.int false (j : Int))) (some (.int false x)) (some (.str false (nameP x))) (some (.loc 5)) (some (.loc 6)) (some (.int false (wayP x j))) (some (.str true (N ""))) none none none [(6, (.strs (List.take (keepP x j) names))), (5, (.strs [])), (4, (.strs [(N "a"), (N ""), (N "b c"), (N "it's"), (N "\\\""), (N "..."), (N "\\b")])), (0, (.read sc.1 sc.2)), (1, (.strs names)), (2, (.strs words)), (3, (.strs places))] 7))))))) := by kernel_rfl
theorem tour2 (root : Str) (ups : Int) (names words places : List Str) (sc : Obj × List Int) (x : Int) (j : Nat) (more kept : List Str) (way : Int) (k : Fl → St → Prop) : evSs P46 (evN P46 39) ((tB.drop 5).take 1) (t1 root ups names words places sc x j more kept way) k =
  (((((Decidable.decide (way < 2)) = true) → ((((kept == []) = true) → (((List.length names) ≤ sizeLine) ∧ (((List.length kept) ≤ sizeLine) ∧ ((((-9223372036854775808) ≤ ((((List.length names) : Int) - ((List.length kept) : Int)) + way)) ∧ ((((((List.length names) : Int) - ((List.length kept) : Int)) + way) < 9223372036854775808) ∧ ((1 * (Int.toNat ((((List.length names) : Int) - ((List.length kept) : Int)) + way))) ≤ sizeLine))) ∧ ((((List.length (dots ((((List.length names) : Int) - ((List.length kept) : Int)) + way))) + (List.length more)) ≤ sizeLine) ∧ ((((root == (N "")) = true) → k .next (tS (some (.str false root)) (some (.int false (ups + way))) (some (.loc 1)) (some (.int false (j : Int))) (some (.int false x)) none (some (.loc 4)) (some (.loc 5)) (some (.int false way)) (some (.str false (N ""))) (some (.int false way)) (some (.loc 9)) none [(9, (.strs ((dots ((((List.length names) : Int) - ((List.length kept) : Int)) + way)) ++ more))), (8, (.strs (dots ((((List.length names) : Int) - ((List.length kept) : Int)) + way)))), (7, (.strs [(N "..")])), (6, (.strs [])), (0, (.read sc.1 sc.2)), (1, (.strs names)), (2, (.strs words)), (3, (.strs places)), (4, (.strs more)), (5, (.strs kept))] 10)) ∧ (((root == (N "")) = false) → k .next (tS (some (.str false root)) (some (.int false ups)) (some (.loc 1)) (some (.int false (j : Int))) (some (.int false x)) none (some (.loc 4)) (some (.loc 5)) (some (.int false way)) (some (.str false (N ""))) (some (.int false way)) (some (.loc 9)) none [(9, (.strs ((dots ((((List.length names) : Int) - ((List.length kept) : Int)) + way)) ++ more))), (8, (.strs (dots ((((List.length names) : Int) - ((List.length kept) : Int)) + way)))), (7, (.strs [(N "..")])), (6, (.strs [])), (0, (.read sc.1 sc.2)), (1, (.strs names)), (2, (.strs words)), (3, (.strs places)), (4, (.strs more)), (5, (.strs kept))] 10)))))))) ∧ (((kept == []) = false) → (((List.length names) ≤ sizeLine) ∧ (((List.length kept) ≤ sizeLine) ∧ ((((-9223372036854775808) ≤ ((((List.length names) : Int) - ((List.length kept) : Int)) + 0)) ∧ ((((((List.length names) : Int) - ((List.length kept) : Int)) + 0) < 9223372036854775808) ∧ ((1 * (Int.toNat ((((List.length names) : Int) - ((List.length kept) : Int)) + 0))) ≤ sizeLine))) ∧ ((((List.length (dots ((((List.length names) : Int) - ((List.length kept) : Int)) + 0))) + (List.length more)) ≤ sizeLine) ∧ ((((root == (N "")) = true) → k .next (tS (some (.str false root)) (some (.int false (ups + 0))) (some (.loc 1)) (some (.int false (j : Int))) (some (.int false x)) none (some (.loc 4)) (some (.loc 5)) (some (.int false way)) (some (.str false (N ""))) (some (.int true 0)) (some (.loc 9)) none [(9, (.strs ((dots ((((List.length names) : Int) - ((List.length kept) : Int)) + 0)) ++ more))), (8, (.strs (dots ((((List.length names) : Int) - ((List.length kept) : Int)) + 0)))), (7, (.strs [(N "..")])), (6, (.strs [])), (0, (.read sc.1 sc.2)), (1, (.strs names)), (2, (.strs words)), (3, (.strs places)), (4, (.strs more)), (5, (.strs kept))] 10)) ∧ (((root == (N "")) = false) → k .next (tS (some (.str false root)) (some (.int false ups)) (some (.loc 1)) (some (.int false (j : Int))) (some (.int false x)) none (some (.loc 4)) (some (.loc 5)) (some (.int false way)) (some (.str false (N ""))) (some (.int true 0)) (some (.loc 9)) none [(9, (.strs ((dots ((((List.length names) : Int) - ((List.length kept) : Int)) + 0)) ++ more))), (8, (.strs (dots ((((List.length names) : Int) - ((List.length kept) : Int)) + 0)))), (7, (.strs [(N "..")])), (6, (.strs [])), (0, (.read sc.1 sc.2)), (1, (.strs names)), (2, (.strs words)), (3, (.strs places)), (4, (.strs more)), (5, (.strs kept))] 10)))))))))) ∧ (((Decidable.decide (way < 2)) = false) → ((((List.length kept) + (List.length more)) ≤ sizeLine) ∧ ((((way == 2) = true) → ((((way == 2) = true) → (((((Int.fmod (j : Int) 2) == 1) = true) → k .next (tS (some (.str true (N "/"))) (some (.int true 0)) (some (.loc 1)) (some (.int false (j : Int))) (some (.int false x)) none (some (.loc 4)) (some (.loc 5)) (some (.int false way)) (some (.str true (N "///"))) none (some (.loc 6)) none [(6, (.strs (kept ++ more))), (0, (.read sc.1 sc.2)), (1, (.strs names)), (2, (.strs words)), (3, (.strs places)), (4, (.strs more)), (5, (.strs kept))] 7)) ∧ ((((Int.fmod (j : Int) 2) == 1) = false) → k .next (tS (some (.str true (N "/"))) (some (.int true 0)) (some (.loc 1)) (some (.int false (j : Int))) (some (.int false x)) none (some (.loc 4)) (some (.loc 5)) (some (.int false way)) (some (.str true (N "/"))) none (some (.loc 6)) none [(6, (.strs (kept ++ more))), (0, (.read sc.1 sc.2)), (1, (.strs names)), (2, (.strs words)), (3, (.strs places)), (4, (.strs more)), (5, (.strs kept))] 7)))) ∧ (((way == 2) = false) → k .next (tS (some (.str true (N "/"))) (some (.int true 0)) (some (.loc 1)) (some (.int false (j : Int))) (some (.int false x)) none (some (.loc 4)) (some (.loc 5)) (some (.int false way)) (some (.str true (N "/"))) none (some (.loc 6)) none [(6, (.strs (kept ++ more))), (0, (.read sc.1 sc.2)), (1, (.strs names)), (2, (.strs words)), (3, (.strs places)), (4, (.strs more)), (5, (.strs kept))] 7)))) ∧ (((way == 2) = false) → ((((way == 2) = true) → (((((Int.fmod (j : Int) 2) == 1) = true) → k .next (tS (some (.str true (N "//"))) (some (.int true 0)) (some (.loc 1)) (some (.int false (j : Int))) (some (.int false x)) none (some (.loc 4)) (some (.loc 5)) (some (.int false way)) (some (.str true (N "///"))) none (some (.loc 6)) none [(6, (.strs (kept ++ more))), (0, (.read sc.1 sc.2)), (1, (.strs names)), (2, (.strs words)), (3, (.strs places)), (4, (.strs more)), (5, (.strs kept))] 7)) ∧ ((((Int.fmod (j : Int) 2) == 1) = false) → k .next (tS (some (.str true (N "//"))) (some (.int true 0)) (some (.loc 1)) (some (.int false (j : Int))) (some (.int false x)) none (some (.loc 4)) (some (.loc 5)) (some (.int false way)) (some (.str true (N "//"))) none (some (.loc 6)) none [(6, (.strs (kept ++ more))), (0, (.read sc.1 sc.2)), (1, (.strs names)), (2, (.strs words)), (3, (.strs places)), (4, (.strs more)), (5, (.strs kept))] 7)))) ∧ (((way == 2) = false) → k .next (tS (some (.str true (N "//"))) (some (.int true 0)) (some (.loc 1)) (some (.int false (j : Int))) (some (.int false x)) none (some (.loc 4)) (some (.loc 5)) (some (.int false way)) (some (.str true (N "//"))) none (some (.loc 6)) none [(6, (.strs (kept ++ more))), (0, (.read sc.1 sc.2)), (1, (.strs names)), (2, (.strs words)), (3, (.strs places)), (4, (.strs more)), (5, (.strs kept))] 7))))))))) := by kernel_rfl
theorem tour3 (root : Str) (ups : Int) (names words places : List Str) (sc : Obj × List Int) (x : Int) (j : Nat) (more kept : List Str) (front : Str) (pieces : List Str) (k : Fl → St → Prop) : evSs P46 (evN P46 39) ((tB.drop 6).take 3) (t2 root ups names words places sc x j more kept front pieces) k =
  (((((List.length kept) + (List.length more)) ≤ sizeLine) ∧ (((((detP x j) == 1) = true) → (((2 + (List.length pieces)) ≤ sizeLine) ∧ k .next (tS (some (.str false root)) (some (.int false ups)) (some (.loc 7)) (some (.int false (j : Int))) (some (.int false x)) none (some (.loc 4)) (some (.loc 5)) none (some (.str false front)) none (some (.loc 9)) (some (.int false (detP x j))) [(9, (.strs ([(N "b c"), (N "..")] ++ pieces))), (8, (.strs [(N "b c"), (N "..")])), (7, (.strs (kept ++ more))), (0, (.read sc.1 sc.2)), (1, (.strs names)), (2, (.strs words)), (3, (.strs places)), (4, (.strs more)), (5, (.strs kept)), (6, (.strs pieces))] 10))) ∧ ((((detP x j) == 1) = false) → (((((detP x j) == 2) = true) → (((List.length pieces) ≤ sizeLine) ∧ ((((List.length (List.take 1 pieces)) + 1) ≤ sizeLine) ∧ (((List.length pieces) ≤ sizeLine) ∧ ((((List.length ((List.take 1 pieces) ++ [(N ".")])) + (List.length (List.drop 1 pieces))) ≤ sizeLine) ∧ k .next (tS (some (.str false root)) (some (.int false ups)) (some (.loc 7)) (some (.int false (j : Int))) (some (.int false x)) none (some (.loc 4)) (some (.loc 5)) none (some (.str false front)) none (some (.loc 12)) (some (.int false (detP x j))) [(12, (.strs (((List.take 1 pieces) ++ [(N ".")]) ++ (List.drop 1 pieces)))), (11, (.strs (List.drop 1 pieces))), (10, (.strs ((List.take 1 pieces) ++ [(N ".")]))), (9, (.strs [(N ".")])), (8, (.strs (List.take 1 pieces))), (7, (.strs (kept ++ more))), (0, (.read sc.1 sc.2)), (1, (.strs names)), (2, (.strs words)), (3, (.strs places)), (4, (.strs more)), (5, (.strs kept)), (6, (.strs pieces))] 13)))))) ∧ ((((detP x j) == 2) = false) → (((((detP x j) == 3) = true) → ((((List.length pieces) + 4) ≤ sizeLine) ∧ k .next (tS (some (.str false root)) (some (.int false ups)) (some (.loc 7)) (some (.int false (j : Int))) (some (.int false x)) none (some (.loc 4)) (some (.loc 5)) none (some (.str false front)) none (some (.loc 9)) (some (.int false (detP x j))) [(9, (.strs (pieces ++ [(N "a"), (N ""), (N ".."), (N "")]))), (8, (.strs [(N "a"), (N ""), (N ".."), (N "")])), (7, (.strs (kept ++ more))), (0, (.read sc.1 sc.2)), (1, (.strs names)), (2, (.strs words)), (3, (.strs places)), (4, (.strs more)), (5, (.strs kept)), (6, (.strs pieces))] 10))) ∧ ((((detP x j) == 3) = false) → k .next (tS (some (.str false root)) (some (.int false ups)) (some (.loc 7)) (some (.int false (j : Int))) (some (.int false x)) none (some (.loc 4)) (some (.loc 5)) none (some (.str false front)) none (some (.loc 6)) (some (.int false (detP x j))) [(7, (.strs (kept ++ more))), (0, (.read sc.1 sc.2)), (1, (.strs names)), (2, (.strs words)), (3, (.strs places)), (4, (.strs more)), (5, (.strs kept)), (6, (.strs pieces))] 8))))))))) := by kernel_rfl
theorem tour4 (root : Str) (ups : Int) (names words places : List Str) (sc : Obj × List Int) (front : Str) (pieces : List Str) (k : Fl → St → Prop) : evSs P46 (evN P46 39) (tB.drop 9) (t3 root ups names words places sc front pieces) k =
  ((((JoinOk (N "/") pieces) = true) ∧ (((front.length + (Txt.join (N "/") pieces).length) ≤ sizeLine) ∧ (((List.length words) ≤ sizeLine) ∧ ((((root == (N "")) = true) → ((((-9223372036854775808) ≤ ups) ∧ ((ups < 9223372036854775808) ∧ ((1 * (Int.toNat ups)) ≤ sizeLine))) ∧ ((((List.length (dots ups)) + (List.length names)) ≤ sizeLine) ∧ (((JoinOk (N "/") ((dots ups) ++ names)) = true) ∧ (((Txt.join (N "/") ((dots ups) ++ names)).length ≤ sizeLine) ∧ (((((Txt.join (N "/") ((dots ups) ++ names)).length != 0) = true) → (((List.length places) ≤ sizeLine) ∧ k .next (tS (some (.str false root)) (some (.int false ups)) (some (.loc 1)) none none none none none none (some (.str false front)) none (some (.loc 4)) none [(7, (.strs ((dots ups) ++ names))), (6, (.strs (dots ups))), (5, (.strs [(N "..")])), (0, (.read sc.1 sc.2)), (1, (.strs names)), (2, (.strs (words ++ [(front ++ (Txt.join (N "/") pieces))]))), (3, (.strs (places ++ [(Txt.join (N "/") ((dots ups) ++ names))]))), (4, (.strs pieces))] 8))) ∧ ((((Txt.join (N "/") ((dots ups) ++ names)).length != 0) = false) → (((List.length places) ≤ sizeLine) ∧ k .next (tS (some (.str false root)) (some (.int false ups)) (some (.loc 1)) none none none none none none (some (.str false front)) none (some (.loc 4)) none [(7, (.strs ((dots ups) ++ names))), (6, (.strs (dots ups))), (5, (.strs [(N "..")])), (0, (.read sc.1 sc.2)), (1, (.strs names)), (2, (.strs (words ++ [(front ++ (Txt.join (N "/") pieces))]))), (3, (.strs (places ++ [(N ".")]))), (4, (.strs pieces))] 8))))))))) ∧ (((root == (N "")) = false) → (((JoinOk (N "/") names) = true) ∧ (((root.length + (Txt.join (N "/") names).length) ≤ sizeLine) ∧ (((List.length places) ≤ sizeLine) ∧ k .next (tS (some (.str false root)) (some (.int false ups)) (some (.loc 1)) none none none none none none (some (.str false front)) none (some (.loc 4)) none [(0, (.read sc.1 sc.2)), (1, (.strs names)), (2, (.strs (words ++ [(front ++ (Txt.join (N "/") pieces))]))), (3, (.strs (places ++ [(root ++ (Txt.join (N "/") names))]))), (4, (.strs pieces))] 5)))))))))) := by kernel_rfl
theorem tour_end (root : Str) (ups : Int) (names words places : List Str) (sc : Obj × List Int) (k : Fl → St → Prop) : (seqK P46 (evN P46 40) ((bodyOf (topSt 46)).drop 6) k) .next (t0 root ups names words places sc [] 4) =
  (k (.ret (.loc 4)) (tS (some (.str false root)) (some (.int false ups)) (some (.loc 1)) none none none none none none none none none none [(4, (.tup [(.loc 2), (.loc 3)])), (0, (.read sc.1 sc.2)), (1, (.strs names)), (2, (.strs words)), (3, (.strs places))] 5)) := by kernel_rfl
structure TS where
  root : Str
  ups : Int
  names : List Str
  words : List Str
  places : List Str
noncomputable def tourStep (s : TS) (x : Int) (j : Nat) : TS :=
  let more := moreP (nameP x)
  let kept := s.names.take (keepP x j)
  let p := wayStep s.root s.ups s.names kept more (wayP x j) j
  ⟨p.1, p.2.1, kept ++ more, s.words ++ [p.2.2.1 ++ Txt.join (N "/") (detStep (detP x j) p.2.2.2)], s.places ++ [placeP p.1 p.2.1 (kept ++ more)]⟩
noncomputable def tourAcc (sc : List Int) : Nat → TS
  | 0 => ⟨N "", 0, [], [N ""], [N "."]⟩
  | j + 1 => tourStep (tourAcc sc j) (sc.getD j 0) j
noncomputable def Few (n : Nat) (l : List Str) : Prop := l.length ≤ n ∧ ∀ s ∈ l, s.length ≤ 4
theorem Few.app {n k : Nat} {l r : List Str} (h : Few n l) (g : Few k r) : Few (n + k) (l ++ r) := ⟨by rw [List.length_append]; exact Nat.add_le_add h.1 g.1, fun s m => (List.mem_append.mp m).elim (h.2 s) (g.2 s)⟩
theorem Few.le {n k : Nat} {l : List Str} (h : Few n l) (g : n ≤ k) : Few k l := ⟨Nat.le_trans h.1 g, h.2⟩
theorem Few.take {n k : Nat} {l : List Str} (h : Few n l) : Few n (l.take k) := ⟨by rw [List.length_take]; have := h.1; omega, fun s m => h.2 s (List.mem_of_mem_take m)⟩
theorem Few.drop {n k : Nat} {l : List Str} (h : Few n l) : Few n (l.drop k) := ⟨by rw [List.length_drop]; have := h.1; omega, fun s m => h.2 s (List.mem_of_mem_drop m)⟩
theorem dots_eq (n : Int) : dots n = List.replicate n.toNat (N "..") := by
  unfold dots
  induction n.toNat with
  | zero => rfl
  | succ k ih => rw [List.replicate_succ, List.flatten_cons, ih, List.replicate_succ]; rfl
theorem dots_len (n : Int) : (dots n).length = n.toNat := by rw [dots_eq, List.length_replicate]
theorem dots_few (n : Int) : Few n.toNat (dots n) := by
  refine ⟨by rw [dots_len]; exact Nat.le_refl _, fun s m => ?_⟩
  rw [dots_eq] at m
  rw [(List.mem_replicate.mp m).2]
  decide
theorem nameP_len (x : Int) : (nameP x).length ≤ 4 := by
  unfold nameP
  generalize idx 7 _ = i
  match i with
  | 0 => decide
  | 1 => decide
  | 2 => decide
  | 3 => decide
  | 4 => decide
  | 5 => decide
  | 6 => decide
  | i + 7 => show (N "").length ≤ 4; decide
theorem moreP_few (x : Int) : Few 1 (moreP (nameP x)) := by
  unfold moreP
  split
  · exact ⟨Nat.le_refl _, fun s m => by cases List.mem_singleton.mp m; exact nameP_len x⟩
  · exact ⟨by decide, fun s m => by cases m⟩
theorem Few.joinOk {n : Nat} {l : List Str} (h : Few n l) (g : n ≤ 1000) : JoinOk (N "/") l = true := by
  refine joinOk_of h.2 ?_
  have := h.1
  have e : (N "/").length = 1 := rfl
  rw [e]; omega
theorem Few.joinLen {n : Nat} {l : List Str} (h : Few n l) : (Txt.join (N "/") l).length ≤ n * 5 := by
  have h1 := join_le (sep := N "/") h.2
  have h2 := h.1
  have e : (N "/").length = 1 := rfl
  rw [e] at h1; omega
theorem keepP_le (x : Int) (j : Nat) : keepP x j ≤ 2 := by
  unfold keepP
  have h1 := Int.fmod_nonneg_of_pos (x.fdiv 7 + (j : Int)) (b := 3) (by decide)
  have h2 := Int.fmod_lt_of_pos (x.fdiv 7 + (j : Int)) (b := 3) (by decide)
  omega
theorem wayP_le (x : Int) (j : Nat) : 0 ≤ wayP x j ∧ wayP x j ≤ 3 := by
  unfold wayP
  have h1 := Int.fmod_nonneg_of_pos (x.fdiv 21 + Int.fdiv (j : Int) 2) (b := 4) (by decide)
  have h2 := Int.fmod_lt_of_pos (x.fdiv 21 + Int.fdiv (j : Int) 2) (b := 4) (by decide)
  omega
structure WayOk (ups : Int) (p : Str × Int × Str × List Str) : Prop where
  root : p.1.length ≤ 2
  ups0 : 0 ≤ p.2.1
  ups : p.2.1 ≤ ups + 1
  front : p.2.2.1.length ≤ 3
  pieces : Few 7 p.2.2.2
theorem wayStep_ok {root : Str} {ups : Int} {names kept more : List Str} {way : Int} {j : Nat} (hr : root.length ≤ 2) (h0 : 0 ≤ ups) (hn : Few 3 names) (hk : Few 2 kept) (hm : Few 1 more) (hw : 0 ≤ way) : WayOk ups (wayStep root ups names kept more way j) := by
  have n3 := hn.1
  unfold wayStep
  split
  · next e =>
    have hw2 : way < 2 := of_decide_eq_true e
    have ho : (0 : Int) ≤ (match kept == [] with | true => way | false => (0 : Int)) ∧ (match kept == [] with | true => way | false => (0 : Int)) ≤ 1 := by split <;> omega
    revert ho
    generalize (match kept == [] with | true => way | false => (0 : Int)) = over
    rintro ⟨o1, o2⟩
    refine ⟨hr, ?_, ?_, show (N "").length ≤ 3 by decide, ?_⟩
    · dsimp only; split <;> omega
    · dsimp only; split <;> omega
    · exact ((dots_few _).app hm).le (by omega)
  · refine ⟨?_, show (0 : Int) ≤ 0 by exact Int.natCast_nonneg _, show (0 : Int) ≤ ups + 1 by omega, ?_, (hk.app hm).le (by decide)⟩
    · dsimp only; split <;> decide
    · dsimp only; split
      · split
        · decide
        · decide
      · decide
theorem detStep_few {d : Int} {l : List Str} (h : Few 7 l) : Few 15 (detStep d l) := by
  unfold detStep
  have f2 : Few 2 [N "b c", N ".."] := ⟨by decide, by decide⟩
  have f1 : Few 1 [N "."] := ⟨by decide, by decide⟩
  have f4 : Few 4 [N "a", N "", N "..", N ""] := ⟨by decide, by decide⟩
  split
  · exact (f2.app h).le (by decide)
  · split
    · exact ((h.take.app f1).app h.drop).le (by decide)
    · split
      · exact (h.app f4).le (by decide)
      · exact h.le (by decide)
structure TourOk (j : Nat) (s : TS) : Prop where
  root : s.root.length ≤ 2
  ups0 : 0 ≤ s.ups
  ups : s.ups ≤ j
  names : Few 3 s.names
  words : s.words.length = j + 1
  wlen : ∀ t ∈ s.words, t.length ≤ 100
  places : s.places.length = j + 1
theorem tourStep_ok {s : TS} {x : Int} {j : Nat} (h : TourOk j s) : TourOk (j + 1) (tourStep s x j) := by
  have hk : Few 2 (s.names.take (keepP x j)) := ⟨by rw [List.length_take]; have := keepP_le x j; omega, (h.names.take (k := keepP x j)).2⟩
  have w := wayStep_ok (j := j) h.root h.ups0 h.names hk (moreP_few x) (wayP_le x j).1
  have d := detStep_few (d := detP x j) w.pieces
  refine ⟨w.root, w.ups0, by have := w.ups; have := h.ups; show (wayStep _ _ _ _ _ _ _).2.1 ≤ _; omega, (hk.app (moreP_few x)).le (by decide), ?_, ?_, ?_⟩
  · show (s.words ++ [_]).length = _
    rw [List.length_append, h.words]; rfl
  · intro t m
    rcases List.mem_append.mp m with m | m
    · exact h.wlen t m
    · cases List.mem_singleton.mp m
      rw [Str.length_append]
      have := w.front
      have := d.joinLen
      omega
  · show (s.places ++ [_]).length = _
    rw [List.length_append, h.places]; rfl
theorem tourAcc_ok (sc : List Int) : ∀ j, TourOk j (tourAcc sc j)
  | 0 => ⟨show (N "").length ≤ 2 by decide, show (0 : Int) ≤ 0 by decide, show (0 : Int) ≤ 0 by decide, ⟨show 0 ≤ 3 by decide, fun s m => by cases m⟩, rfl, fun t m => by cases List.mem_singleton.mp m; decide, rfl⟩
  | j + 1 => tourStep_ok (tourAcc_ok sc j)
theorem tB_cut : tB = tB.take 5 ++ ((tB.drop 5).take 1 ++ ((tB.drop 6).take 3 ++ tB.drop 9)) := by kernel_rfl
theorem f_tour (w : World) : FOk w 867 (topSt 46) := by constructor <;> kernel_rfl
noncomputable def tEnd (s : TS) (sc : Obj × List Int) (st : St) : Prop := st = t0 s.root s.ups s.names s.words s.places sc [] 4
theorem over_lo {n k : Nat} {w : Int} (hk : k ≤ 2) (h0 : 0 ≤ w) : -9223372036854775808 ≤ (n : Int) - k + w := by omega
theorem over_sz {n k m : Nat} {w : Int} (hn : n ≤ 3) (hm : m ≤ 1) (h : w ≤ 3) : (n : Int) - k + w < 9223372036854775808 ∧ 1 * ((n : Int) - k + w).toNat ≤ sizeLine ∧ (dots ((n : Int) - k + w)).length + m ≤ sizeLine := by
  rw [dots_len, sizeLine_eq]; omega
theorem ups_sz {u : Int} {j : Nat} (hj : j < 6) (h0 : 0 ≤ u) (h : u ≤ (j : Int) + 1) : -9223372036854775808 ≤ u ∧ u < 9223372036854775808 ∧ 1 * u.toNat ≤ sizeLine ∧ u.toNat ≤ 6 := by
  rw [sizeLine_eq]; omega
theorem sz2 {a b m n c : Nat} (h : a ≤ m) (k : b ≤ n) (e : Nat.ble (m + n) c = true) : a + b ≤ c := sz (Nat.add_le_add h k) e
theorem tour_turn (sc : Obj × List Int) (s : TS) (x : Int) (j : Nat) (hj : j < 6) (ok : TourOk j s) (K : Fl → St → Prop) (hK : ∀ st, Ordered P46 st (tEnd (tourStep s x j) sc) → K .next st) :
    bindN P46 (N "k") (.int false j) (t0 s.root s.ups s.names s.words s.places sc [] 4) fun st1 => bindN P46 (N "x") (.int false x) st1 fun st1 => Seg P46 (evN P46 39) K tB st1 := by
  have hk : Few 2 (s.names.take (keepP x j)) := ⟨Nat.le_trans (List.length_take_le _ _) (keepP_le x j), (ok.names.take (k := keepP x j)).2⟩
  have hm := moreP_few x
  have hway := wayP_le x j
  have w := wayStep_ok (j := j) ok.root ok.ups0 ok.names hk hm hway.1
  have d := detStep_few (d := detP x j) w.pieces
  have n3 := ok.names.1
  have hsz := sizeLine_eq
  obtain ⟨kept, ekept⟩ : ∃ kept, kept = s.names.take (keepP x j) := ⟨_, rfl⟩
  obtain ⟨more, emore⟩ : ∃ more, more = moreP (nameP x) := ⟨_, rfl⟩
  obtain ⟨way, eway⟩ : ∃ way, way = wayP x j := ⟨_, rfl⟩
  have est : tourStep s x j = (let p := wayStep s.root s.ups s.names kept more way j; ⟨p.1, p.2.1, kept ++ more, s.words ++ [p.2.2.1 ++ Txt.join (N "/") (detStep (detP x j) p.2.2.2)], s.places ++ [placeP p.1 p.2.1 (kept ++ more)]⟩) := by rw [ekept, emore, eway]; rfl
  have seg1 : ∀ K, bindN P46 (N "k") (.int false j) (t0 s.root s.ups s.names s.words s.places sc [] 4) fun st1 => bindN P46 (N "x") (.int false x) st1 fun st1 => evSs P46 (evN P46 39) (tB.take 5) st1 (cutK P46 (fun st => st = t1 s.root s.ups s.names s.words s.places sc x j more kept way) K) := by
    intro K
    have m3 := Int.fmod_nonneg_of_pos (x.fdiv 7 + (j : Int)) (b := 3) (by decide)
    have m7 := Int.fmod_nonneg_of_pos x (b := 7) (by decide)
    have m7' := Int.fmod_lt_of_pos x (b := 7) (by decide)
    rw [ekept, eway]
    refine Eq.mpr (tour1 _ _ _ _ _ sc x j _) ⟨⟨Int.le_trans (by decide) m7, m7', sz (Nat.le_refl 7) (by kernel_rfl)⟩, fun h => ⟨m3, sz n3 (by kernel_rfl), [1, 2, 3, 5, 6], [N "name", N "!front"], t1 s.root s.ups s.names s.words s.places sc x j [nameP x] (s.names.take (keepP x j)) (wayP x j), by kernel_rfl, ?_⟩, fun h => ⟨m3, sz n3 (by kernel_rfl), [1, 2, 3, 5, 6], [N "name", N "!front"], t1 s.root s.ups s.names s.words s.places sc x j [] (s.names.take (keepP x j)) (wayP x j), by kernel_rfl, ?_⟩⟩
    · show t1 _ _ _ _ _ _ _ _ _ _ _ = t1 _ _ _ _ _ _ _ _ _ _ _
      rw [show more = [nameP x] by rw [emore]; unfold moreP; rw [h]]
    · show t1 _ _ _ _ _ _ _ _ _ _ _ = t1 _ _ _ _ _ _ _ _ _ _ _
      rw [show more = [] by rw [emore]; unfold moreP; rw [h]]
  rw [← ekept, ← emore, ← eway] at w d
  rw [← ekept] at hk
  rw [← emore] at hm
  rw [← eway] at hway
  rw [est] at hK
  clear est eway emore ekept
  have k2 := hk.1
  have m1 := hm.1
  have u6 := ok.ups
  have u0 := ok.ups0
  have seg2 : ∀ K, evSs P46 (evN P46 39) ((tB.drop 5).take 1) (t1 s.root s.ups s.names s.words s.places sc x j more kept way) (cutK P46 (fun st => ∃ p, p = wayStep s.root s.ups s.names kept more way j ∧ st = t2 p.1 p.2.1 s.names s.words s.places sc x j more kept p.2.2.1 p.2.2.2) K) := by
    intro K
    have sn : s.names.length ≤ sizeLine := sz n3 (by kernel_rfl)
    have sk : kept.length ≤ sizeLine := sz k2 (by kernel_rfl)
    have sk2 : kept.length + more.length ≤ sizeLine := sz2 k2 m1 (by kernel_rfl)
    have q1 := over_sz (n := s.names.length) (k := kept.length) n3 m1 hway.2
    have q0 := over_sz (n := s.names.length) (k := kept.length) (w := 0) n3 m1 (by decide)
    refine Eq.mpr (tour2 _ _ _ _ _ sc x j more kept way _) ⟨fun h1 => ⟨fun h2 => ⟨sn, sk, ⟨over_lo k2 hway.1, q1.1, q1.2.1⟩, q1.2.2, fun h3 => ?_, fun h3 => ?_⟩, fun h2 => ⟨sn, sk, ⟨over_lo k2 (by decide), q0.1, q0.2.1⟩, q0.2.2, fun h3 => ?_, fun h3 => ?_⟩⟩, fun h1 => ⟨sk2, fun h2 => ⟨fun h3 => ⟨fun h4 => ?_, fun h4 => ?_⟩, fun h3 => ?_⟩, fun h2 => ⟨fun h3 => ⟨fun h4 => ?_, fun h4 => ?_⟩, fun h3 => ?_⟩⟩⟩
    · refine ⟨[1, 2, 3, 4, 5, 9], [N "name", N "way", N "over", N "!front", N "!ups", N "!root"], t2 s.root (s.ups + way) s.names s.words s.places sc x j more kept (N "") (dots ((s.names.length : Int) - (kept.length : Int) + way) ++ more), by kernel_rfl, (s.root, s.ups + way, N "", (dots ((s.names.length : Int) - (kept.length : Int) + way) ++ more)), ?_, rfl⟩
      unfold wayStep; simp only [h1, h2, h3]
    · refine ⟨[1, 2, 3, 4, 5, 9], [N "name", N "way", N "over", N "!front", N "!ups", N "!root"], t2 s.root s.ups s.names s.words s.places sc x j more kept (N "") (dots ((s.names.length : Int) - (kept.length : Int) + way) ++ more), by kernel_rfl, (s.root, s.ups, N "", (dots ((s.names.length : Int) - (kept.length : Int) + way) ++ more)), ?_, rfl⟩
      unfold wayStep; simp only [h1, h2, h3]
    · refine ⟨[1, 2, 3, 4, 5, 9], [N "name", N "way", N "over", N "!front", N "!ups", N "!root"], t2 s.root (s.ups + 0) s.names s.words s.places sc x j more kept (N "") (dots ((s.names.length : Int) - (kept.length : Int) + 0) ++ more), by kernel_rfl, (s.root, s.ups + 0, N "", (dots ((s.names.length : Int) - (kept.length : Int) + 0) ++ more)), ?_, rfl⟩
      unfold wayStep; simp only [h1, h2, h3]
    · refine ⟨[1, 2, 3, 4, 5, 9], [N "name", N "way", N "over", N "!front", N "!ups", N "!root"], t2 s.root s.ups s.names s.words s.places sc x j more kept (N "") (dots ((s.names.length : Int) - (kept.length : Int) + 0) ++ more), by kernel_rfl, (s.root, s.ups, N "", (dots ((s.names.length : Int) - (kept.length : Int) + 0) ++ more)), ?_, rfl⟩
      unfold wayStep; simp only [h1, h2, h3]
    · refine ⟨[1, 2, 3, 4, 5, 6], [N "name", N "way", N "over", N "!front", N "!ups", N "!root"], t2 (N "/") 0 s.names s.words s.places sc x j more kept (N "///") (kept ++ more), by kernel_rfl, (N "/", 0, N "///", kept ++ more), ?_, rfl⟩
      unfold wayStep; simp only [h1, h2, h4]
    · refine ⟨[1, 2, 3, 4, 5, 6], [N "name", N "way", N "over", N "!front", N "!ups", N "!root"], t2 (N "/") 0 s.names s.words s.places sc x j more kept (N "/") (kept ++ more), by kernel_rfl, (N "/", 0, N "/", kept ++ more), ?_, rfl⟩
      unfold wayStep; simp only [h1, h2, h4]
    · rw [h2] at h3; cases h3
    · rw [h2] at h3; cases h3
    · rw [h2] at h3; cases h3
    · refine ⟨[1, 2, 3, 4, 5, 6], [N "name", N "way", N "over", N "!front", N "!ups", N "!root"], t2 (N "//") 0 s.names s.words s.places sc x j more kept (N "//") (kept ++ more), by kernel_rfl, (N "//", 0, N "//", kept ++ more), ?_, rfl⟩
      unfold wayStep; simp only [h1, h2]
  have seg3 : ∀ K p, p = wayStep s.root s.ups s.names kept more way j → evSs P46 (evN P46 39) ((tB.drop 6).take 3) (t2 p.1 p.2.1 s.names s.words s.places sc x j more kept p.2.2.1 p.2.2.2) (cutK P46 (fun st => st = t3 p.1 p.2.1 (kept ++ more) s.words s.places sc p.2.2.1 (detStep (detP x j) p.2.2.2)) K) := by
    rintro K p e
    have wp := w.pieces.1
    rw [← e] at wp
    obtain ⟨root', ups', front, pieces⟩ := p
    dsimp only at wp ⊢
    have ht : (pieces.take 1 ++ [N "."]).length ≤ 1 + 1 := by rw [List.length_append]; exact Nat.add_le_add (List.length_take_le 1 pieces) (Nat.le_refl 1)
    have hd : (pieces.drop 1).length ≤ 7 := by rw [List.length_drop]; exact Nat.le_trans (Nat.sub_le _ _) wp
    refine Eq.mpr (tour3 _ _ _ _ _ sc x j more kept front pieces _) ⟨sz2 k2 m1 (by kernel_rfl), fun h1 => ⟨sz2 (Nat.le_refl 2) wp (by kernel_rfl), ?_⟩, fun h1 => ⟨fun h2 => ⟨sz wp (by kernel_rfl), sz2 (List.length_take_le 1 pieces) (Nat.le_refl 1) (by kernel_rfl), sz wp (by kernel_rfl), sz2 ht hd (by kernel_rfl), ?_⟩, fun h2 => ⟨fun h3 => ⟨sz2 wp (Nat.le_refl 4) (by kernel_rfl), ?_⟩, fun h3 => ?_⟩⟩⟩
    · refine ⟨[7, 2, 3, 9], [N "k", N "x", N "more", N "kept", N "detour"], t3 root' ups' (kept ++ more) s.words s.places sc front ([N "b c", N ".."] ++ pieces), by kernel_rfl, ?_⟩
      rw [show detStep (detP x j) pieces = [N "b c", N ".."] ++ pieces by unfold detStep; simp only [h1]]
    · refine ⟨[7, 2, 3, 12], [N "k", N "x", N "more", N "kept", N "detour"], t3 root' ups' (kept ++ more) s.words s.places sc front (pieces.take 1 ++ [N "."] ++ pieces.drop 1), by kernel_rfl, ?_⟩
      rw [show detStep (detP x j) pieces = pieces.take 1 ++ [N "."] ++ pieces.drop 1 by unfold detStep; simp only [h1, h2]]
    · refine ⟨[7, 2, 3, 9], [N "k", N "x", N "more", N "kept", N "detour"], t3 root' ups' (kept ++ more) s.words s.places sc front (pieces ++ [N "a", N "", N "..", N ""]), by kernel_rfl, ?_⟩
      rw [show detStep (detP x j) pieces = pieces ++ [N "a", N "", N "..", N ""] by unfold detStep; simp only [h1, h2, h3]]
    · refine ⟨[7, 2, 3, 6], [N "k", N "x", N "more", N "kept", N "detour"], t3 root' ups' (kept ++ more) s.words s.places sc front (pieces), by kernel_rfl, ?_⟩
      rw [show detStep (detP x j) pieces = pieces by unfold detStep; simp only [h1, h2, h3]]
  have seg4 : ∀ p, p = wayStep s.root s.ups s.names kept more way j → evSs P46 (evN P46 39) (tB.drop 9) (t3 p.1 p.2.1 (kept ++ more) s.words s.places sc p.2.2.1 (detStep (detP x j) p.2.2.2)) K := by
    rintro p e
    rw [← e] at w d hK
    obtain ⟨root', ups', front, pieces⟩ := p
    obtain ⟨w1, w2, w3, w4, w5⟩ := w
    dsimp only at w1 w2 w3 w4 w5 d hK ⊢
    generalize detStep (detP x j) pieces = pieces' at d hK ⊢
    have hn := hk.app hm
    generalize kept ++ more = names' at hK hn ⊢
    have n1 := hn.1
    have lw := ok.words
    have lp := ok.places
    have jl := d.joinLen
    have nl := hn.joinLen
    have hdn := (dots_few ups').app hn
    have hdl := hdn.joinLen
    have hd1 := dots_len ups'
    have q := ups_sz hj w2 (Int.le_trans w3 (Int.add_le_add_right u6 1))
    have sw : s.words.length ≤ sizeLine := sz (Nat.le_trans (Nat.le_of_eq lw) hj) (by kernel_rfl)
    have sp : s.places.length ≤ sizeLine := sz (Nat.le_trans (Nat.le_of_eq lp) hj) (by kernel_rfl)
    have jd : (Txt.join (N "/") (dots ups' ++ names')).length ≤ sizeLine := sz (Nat.le_trans hdl (Nat.mul_le_mul_right 5 (Nat.add_le_add_right q.2.2.2 3))) (by kernel_rfl)
    refine Eq.mpr (tour4 _ _ _ _ _ sc front pieces' _) ⟨d.joinOk (by decide), sz2 w4 jl (by kernel_rfl), sw, fun h1 => ⟨⟨q.1, q.2.1, q.2.2.1⟩, sz2 (Nat.le_trans (Nat.le_of_eq hd1) q.2.2.2) n1 (by kernel_rfl), hdn.joinOk (by omega), jd, fun h2 => ⟨sp, hK _ ?_⟩, fun h2 => ⟨sp, hK _ ?_⟩⟩, fun h1 => ⟨hn.joinOk (by decide), sz2 w1 nl (by kernel_rfl), sp, hK _ ?_⟩⟩
    · refine ⟨[1, 2, 3], [N "front", N "pieces"], t0 root' ups' names' (s.words ++ [front ++ Txt.join (N "/") pieces']) (s.places ++ [Txt.join (N "/") (dots ups' ++ names')]) sc [] 4, by kernel_rfl, ?_⟩
      unfold tEnd
      rw [show placeP root' ups' names' = Txt.join (N "/") (dots ups' ++ names') by unfold placeP; simp only [h1, h2]]
    · refine ⟨[1, 2, 3], [N "front", N "pieces"], t0 root' ups' names' (s.words ++ [front ++ Txt.join (N "/") pieces']) (s.places ++ [N "."]) sc [] 4, by kernel_rfl, ?_⟩
      unfold tEnd
      rw [show placeP root' ups' names' = N "." by unfold placeP; simp only [h1, h2]]
    · refine ⟨[1, 2, 3], [N "front", N "pieces"], t0 root' ups' names' (s.words ++ [front ++ Txt.join (N "/") pieces']) (s.places ++ [root' ++ Txt.join (N "/") names']) sc [] 4, by kernel_rfl, ?_⟩
      unfold tEnd
      rw [show placeP root' ups' names' = root' ++ Txt.join (N "/") names' by unfold placeP; simp only [h1]]
  exact bindN_mono (seg1 _) fun st1 h => bindN_mono h fun st1 h => .cut _ _ _ tB_cut h (fun st e => by
    subst e
    exact .cut _ _ _ rfl (seg2 _) (fun st h => by
      obtain ⟨p, e, rfl⟩ := h
      exact .cut _ _ _ rfl (seg3 _ p e) (fun st h => by subst h; exact .all (seg4 p e))))
noncomputable def tourP (sc : List Int) : TS := tourAcc sc (sc.take 6).length
theorem tour_r (w : World) (os : OsState) (ob : Obj) (sc : List Int) (hob : IntsOf ob sc) (hsc : sc.length ≤ 63) : RetF w os 8 (.ref 867) 1 [.loc 0] [(0, .read ob sc)] (.loc 1) [(0, .read ob sc), (1, .tup [.loc 2, .loc 3]), (2, .strs (tourP sc).words), (3, .strs (tourP sc).places)] := by
  refine RetF.ev (j := J0) (nx := 1) (m0 := (tS0 (ob, sc)).m) (f_tour w) (c6_ok w os) (by decide) (by kernel_rfl) (fun ρ us h => ?_) ?_
  · obtain ⟨v1, rfl, t1⟩ := h.inv1
    exact ⟨[(N "script", v1)], by kernel_rfl, by kernel_rfl, .yes (by kernel_rfl) t1 (.no (.no (.no (.no (.no (.no (.no (.no (.no (.no (.no (.no (.no (.no (.no .nil)))))))))))))))⟩
  have h6 : (sc.take 6).length ≤ 6 := by rw [List.length_take]; omega
  refine Eq.mpr (tour_start (ob, sc) _) ⟨⟨hob, by rw [sizeLine_eq]; show sc.length ≤ _; exact sz (by assumption) rfl⟩, ?_⟩
  refine EnumVC.intro' (o := .ints (sc.take 6)) (h' := [(3, .strs [N "."]), (2, .strs [N ""]), (1, .strs []), (0, .read ob sc)]) rfl rfl (fun j st => tEnd (tourAcc sc j) (ob, sc) st) ⟨[1, 2, 3], [N "!root", N "!ups"], t0 (N "") 0 [] [N ""] [N "."] (ob, sc) [] 4, by kernel_rfl, rfl⟩ ?_ ?_
  · rintro j st hj rfl
    have hx : (sc.take 6).getD j 0 = sc.getD j 0 := by
      rw [List.getD_eq_getElem?_getD, List.getD_eq_getElem?_getD, List.getElem?_take_of_lt (by exact Nat.le_trans (by assumption) (by assumption))]
    rw [hx]
    exact tour_turn (ob, sc) _ _ j (by exact Nat.le_trans (by assumption) (by assumption)) (tourAcc_ok sc j) _ fun st h => h
  · rintro st rfl
    exact Eq.mpr (tour_end _ _ _ _ _ (ob, sc) _) ⟨[4, 2, 3], _, _, rfl, rfl, fun _ => rfl, fun _ => rfl⟩
noncomputable def inl (C : CT) (j : Nat) (stmt : Stmt) (m0 : List (Str × Option V)) (st : St) (k : K1) : Prop :=
  chk st.ok (evSs ⟨C, scopeOf stmt, [], st.nx⟩ (evN ⟨C, scopeOf stmt, [], st.nx⟩ j) (bodyOf stmt) ⟨m0, [], st.h, st.nx⟩ fun f st' => chk (Nat.ble st.nx st'.nx) (k (retV f) { st with h := st'.h, nx := st'.nx }))
theorem hOk_of {st : St} (h : st.ok = true) : ({ st with h := [] } : St).ok = true := by
  unfold St.ok at *
  split at h
  · next e1 =>
    split at h
    · next e2 =>
      show (match ovOk st.nx st.m with | true => (match ovOk st.nx st.c with | true => hOk st.nx [] | false => false) | false => false) = true
      rw [e1, e2]; rfl
    · cases h
  · cases h
theorem Fn.evK {w : World} {os : OsState} {n j : Nat} {fa : Addr} {stmt : Stmt} (F : FOk w fa stmt) {P : Pm} (hsc : P.sc = scopeOf stmt) (hcn : P.cn = []) (hC : CTok w os n P.C) (hn : 2 ≤ n) {args : List Value} {kw : List (Str × Value)} {st0 : St} {ρ : Nat → Addr} (hc0 : st0.c = [])
    (hnd : decide ((st0.m.map (·.1)).Nodup) = true) (hb : ∀ vs ks, TeqL args vs → TeqL (kw.map (·.2)) ks → ∃ binds, (∀ S, peek (KK w) S (bindArgs (fdAt w fa) ⟨vs, (kw.map (·.1)).zip ks⟩) = some binds) ∧ (binds.all (fun x => (scopeOf stmt).names.lookup x.1 == some .local)) = true ∧ BLoc binds (mre ρ st0.m)) {K : V → St → Prop}
    (h : evSs P (evN P j) (bodyOf stmt) st0 (fun f st => K (retV f) st)) : Fn w os (n + 1) (.ref fa) args kw (hre ρ st0.h) (fun v σ => ∃ v' st' ρ', v = v'.re ρ' ∧ Agree P.pn ρ ρ' ∧ K v' st' ∧ σ = hre ρ' st'.h) := by
  refine Fn.top (m₀ := mre ρ st0.m) F (by unfold mre; rw [List.map_map]; exact hnd) (fun vs ks hv hk s hs => ?_) ?_
  · obtain ⟨binds, h1, h2, h3⟩ := hb vs ks hv hk
    exact ⟨binds, kp_binds hs h1, h2, h3.all⟩
  rintro c rfl rfl ecl ok
  have X : Cx c.w c.os n P.cn c := ⟨rfl, rfl, by rw [ecl, hcn]; rfl, ok⟩
  have hs := evSs_ok (ρ := ρ) (evN_ok hC (by rw [hsc]; exact F.hk) hn j) X h
  have e0 : st0.sto c.cl ρ = hre ρ st0.h := by unfold St.sto cre; rw [hc0]; rfl
  rw [e0, hsc] at hs
  refine WT.mono hs ?_
  rintro f m σ ⟨f', st', ρ', rfl, b, ag, hk⟩
  refine ⟨hre ρ' st'.h, ?_, retV f', st', ρ', retV_re, ag, hk, rfl⟩
  exact Picks.trans b.2.2 (Picks.of_perm (τ := cre ρ' c.cl st'.c) List.perm_append_comm)
theorem inl_ok {w : World} {os : OsState} {n n' j : Nat} {fa : Addr} {stmt : Stmt} (F : FOk w fa stmt) {C : CT} (hC : CTok w os n' C) (hn : 2 ≤ n') (hnn : n' + 1 ≤ n) {vs : List V} {kw : List (Str × V)} {m0 : List (Str × Option V)}
    (hnd : decide ((m0.map (·.1)).Nodup) = true) (hb : ∀ ρ us ks, TeqL (vs.map (V.re ρ)) us → TeqL (kw.map (fun p => p.2.re ρ)) ks → ∃ binds, (∀ S, peek (KK w) S (bindArgs (fdAt w fa) ⟨us, (kw.map (·.1)).zip ks⟩) = some binds) ∧ (binds.all (fun x => (scopeOf stmt).names.lookup x.1 == some .local)) = true ∧ BLoc binds (mre ρ m0))
    {st : St} {k : K1} (h : inl C j stmt m0 st k) {c : Fx} (e1 : c.w = w) (e2 : c.os = os) (ok : c.Ok n) {ρ : Nat → Addr} {us ks : List Value} (ht : TeqL (vs.map (V.re ρ)) us) (hk : TeqL (kw.map (fun p => p.2.re ρ)) ks) :
    WT c Teq (call (.ref fa) us ((kw.map (·.1)).zip ks)) (mre ρ st.m) (st.sto c.cl ρ) (Post c V.re st.nx ρ k) := by
  subst e1 e2
  obtain ⟨h0, h⟩ := chk_ok h
  have ek1 : (kw.map fun p => (p.1, p.2.re ρ)).map (·.1) = kw.map (·.1) := by rw [List.map_map]; rfl
  have ek2 : (kw.map fun p => (p.1, p.2.re ρ)).map (·.2) = kw.map (fun p => p.2.re ρ) := by rw [List.map_map]; rfl
  have key := Fn.evK (ρ := ρ) (P := ⟨C, scopeOf stmt, [], st.nx⟩) (args := vs.map (V.re ρ)) (kw := kw.map fun p => (p.1, p.2.re ρ)) F rfl rfl hC hn (st0 := ⟨m0, [], st.h, st.nx⟩) rfl hnd (by rw [ek1, ek2]; exact hb ρ) (K := fun v st' => chk (Nat.ble st.nx st'.nx) (k v { st with h := st'.h, nx := st'.nx })) h
  have key2 : Fn c.w c.os (n' + 1) (.ref fa) (vs.map (V.re ρ)) (kw.map fun p => (p.1, p.2.re ρ)) (cre ρ c.cl st.c ++ hre ρ st.h) (fun u σ' => ∃ (v' : V) (st' : St) (ρ' : Nat → Addr), u = v'.re ρ' ∧ Agree st.nx ρ ρ' ∧ chk (Nat.ble st.nx st'.nx) (k v' { st with h := st'.h, nx := st'.nx }) ∧ σ' = cre ρ c.cl st.c ++ hre ρ' st'.h) := Fn.beside (key.mono fun u σ' ⟨v', st', ρ', a, b, d, e⟩ => ⟨v', st', ρ', a, b, d, by rw [e]⟩)
  have hc := WT.call (m := mre ρ st.m) (Q := fun u m σ' => m = mre ρ st.m ∧ ∃ (v' : V) (st' : St) (ρ' : Nat → Addr), u = v'.re ρ' ∧ Agree st.nx ρ ρ' ∧ chk (Nat.ble st.nx st'.nx) (k v' { st with h := st'.h, nx := st'.nx }) ∧ σ' = cre ρ c.cl st.c ++ hre ρ' st'.h) ok hnn ht (by rw [ek2]; exact hk) (key2.mono fun u σ' x => ⟨rfl, x⟩)
  rw [ek1] at hc
  refine WT.mono hc ?_
  rintro u m σ' ⟨rfl, v', st', ρ', rfl, ag, hk, rfl⟩
  obtain ⟨hle, hk⟩ := chk_ok hk
  obtain ⟨q1, q2⟩ := St.ok_eq (st := { st with h := [] }) ag (hOk_of h0) c.cl
  have q2 : cre ρ' c.cl st.c ++ [] = cre ρ c.cl st.c ++ [] := q2
  rw [List.append_nil, List.append_nil] at q2
  exact ⟨v', { st with h := st'.h, nx := st'.nx }, ρ', rfl, q1.symm, by rw [← q2]; rfl, ag, Nat.le_of_ble_eq_true hle, hk⟩
section
variable {c : Fx} {n : Nat} {sc : Scope} {m m' : Loc} {σ : Sto} {Q : Value → Loc → Sto → Prop}
theorem c_int_int {i : Int} (h : Q (I i) m σ) : Wcall c (.type "int") [I i] m σ Q := by
  intro vs hv s hs
  cases hv with | cons t1 hv => cases hv with | nil =>
  obtain ⟨_, rfl⟩ := t1.int_inv
  exact call_int_int ⟨_, m, σ, t1, h, hs.toSr0⟩
namespace DQ
theorem mro : mroOf (.type "collections.deque") = pure [.type "collections.deque", .type "object"] := by rw [mroOf_type]; kernel_rfl
theorem new : typeLookup (.type "collections.deque") "__new__" = pure (some (.builtin "collections.deque.__new__")) := by rw [typeLookup_type, builtinLookup_eq_fast]; kernel_rfl
theorem sub : isSubtype (.type "collections.deque") (.type "collections.deque") = pure true := by rw [isSubtype_type]; kernel_rfl
theorem init : Slot "collections.deque" "__init__" "collections.deque.__init__" :=
  .of (owner := "collections.deque") (n := "__init__") (by rw [typeLookup_type, builtinLookup_eq_fast]; kernel_rfl) (by decide +kernel) (by decide +kernel) (by decide +kernel)
    (by first | exact .inl (by decide +kernel) | exact .inr (by decide +kernel)) (by rw [isSubtype_type]; kernel_rfl)
theorem called : TypeCalled "collections.deque" "collections.deque.__new__" "collections.deque.__init__" :=
  ⟨by decide +kernel, by decide +kernel, ⟨_, _, mro⟩, madeBy_type mro new (by decide +kernel), by decide +kernel, sub, init⟩
theorem typeCall : checkTypeCall "collections.deque" ⟨[], []⟩ = pure () := by kernel_rfl
theorem newCall : checkBuiltinCall "collections.deque.__new__" ⟨[.type "collections.deque"], []⟩ = pure () := by kernel_rfl
theorem entryN : entryFor table "collections.deque.__new__" = some Builtin.«collections.deque.__new__» := entryFor_of_tree (by kernel_rfl)
theorem entryI : entryFor table "collections.deque.__init__" = some Builtin.«collections.deque.__init__» := entryFor_of_tree (by kernel_rfl)
theorem argsI (o : Value) : argsOk "collections.deque.__init__" ⟨[o], []⟩ := by unfold argsOk; kernel_rfl
theorem hasDict : typeHasDict (.type "collections.deque") = false := by decide +kernel
theorem newArgs : Builtin.Deque.newArgs Builtin.Deque.ty ⟨[.type "collections.deque"], []⟩ = pure (.type "collections.deque", []) := by
  have e : isType (.type "collections.deque") = pure true := by kernel_rfl
  unfold Builtin.Deque.newArgs Builtin.Deque.ty
  simp only [e, DQ.sub, pure_bind]
  rfl
theorem make : Builtin.Deque.new (.type "collections.deque") #[] none = newObjAsIs (.type "collections.deque") (.fields #[.none, rawInt 0]) none := by kernel_rfl
theorem runN : Builtin.«collections.deque.__new__» ⟨[.type "collections.deque"], []⟩ = (do ret (← newObjAsIs (.type "collections.deque") (.fields #[.none, rawInt 0]) none)) := by
  unfold Builtin.«collections.deque.__new__»
  rw [newArgs, pure_bind]
  show (Builtin.Deque.new _ _ _ >>= _) = _
  rw [make]
noncomputable def fresh : Obj := { cls := .type "collections.deque", data := .fields #[.none, rawInt 0] }
theorem isNew : Meets (Builtin.«collections.deque.__new__» ⟨[.type "collections.deque"], []⟩) (fun _ R s => R (.ok (.ret (.ref s.heap.objs.size))) { s with heap := s.heap.push fresh }) := by
  refine Meets.of_wp fun prog w A R s h => ?_
  rw [runN]
  refine wpAny_bind ?_
  show wpAny _ _ (PySem.alloc fresh >>= fun a => pure (Value.ref a)) _ _ _
  exact wpAny_bind (wpAny_alloc (wpAny_pure (wpAny_pure ⟨_, rfl, h⟩)))
theorem isInit (a : Addr) : Meets (Builtin.«collections.deque.__init__» ⟨[.ref a], []⟩) (fun _ R s => s.heap.get? a = some fresh ∧ R (.ok (.ret .none)) { s with heap := s.heap.update a (Obj.mapFields (·.setIfInBounds 0 .none)) }) := by
  refine Meets.of_wp fun prog w A R s h => ?_
  obtain ⟨h1, h2⟩ := h
  show wpAny _ _ (setField (.ref a) 0 .none >>= fun _ => Builtin.Deque.clear (.ref a) >>= fun _ => pure (Fin.done (.ret .none))) _ _ _
  refine wpAny_bind (wpAny_setField (o := fresh) h1 rfl (by decide) (wpAny_bind ?_))
  have h3 : (s.heap.update a (Obj.mapFields (·.setIfInBounds 0 .none))).get? a = some fresh := Heap.get?_update_self _ h1 rfl
  unfold Builtin.Deque.clear Builtin.Deque.items
  refine wpAny_bind (wpAny_bind (wpAny_fieldsOf (o := fresh) h3 rfl (wpAny_pure ?_)))
  exact wpAny_pure (wpAny_pure ⟨_, rfl, h2⟩)
end DQ
theorem Sr0.add1 {w : World} {os : OsState} {g : Heap} {σ : Sto} {s : Shared} {p : Addr × AO} {b1 : AO} {o1 : Obj} (z : Sr0 w os g (p :: σ) s) {h' : Heap} (k : ∀ b o, s.heap.get? b = some o → h'.get? b = some o)
    (e1 : h'.get? s.heap.objs.size = some o1) (e2 : b1.Is w.params o1) (tk : Nat) : Sr0 w os g (p :: (s.heap.objs.size, b1) :: σ) { s with heap := h', toks := tk } := by
  have gn : ∀ a, s.heap.get? a = none → g.get? a = none := fun a h => by
    cases q : g.get? a with
    | none => rfl
    | some o => have := z.hr.keep a o q; rw [h] at this; cases this
  have ow := z.hr.own
  have lt : ∀ q ∈ p :: σ, q.1 < s.heap.objs.size := fun q hq => by
    obtain ⟨_, o, ho, _⟩ := ow q hq
    exact Heap.lt_size ho
  have nd := z.hr.nd
  simp only [List.map_cons, List.nodup_cons] at nd
  refine ⟨⟨fun b o q => k b o (z.hr.keep b o q), fun q hq => ?_, ?_⟩, z.gens, z.os⟩
  · rcases List.mem_cons.mp hq with rfl | hq
    · obtain ⟨h1, o, h2, h3⟩ := ow _ (.head _)
      exact ⟨h1, o, k _ _ h2, h3⟩
    · rcases List.mem_cons.mp hq with rfl | hq
      · exact ⟨gn _ (fresh_none (Nat.le_refl _)), o1, e1, e2⟩
      · obtain ⟨h1, o, h2, h3⟩ := ow _ (.tail _ hq)
        exact ⟨h1, o, k _ _ h2, h3⟩
  · simp only [List.map_cons, List.nodup_cons, List.mem_cons, not_or]
    have l0 := lt p (.head _)
    refine ⟨⟨fun r => ?_, nd.1⟩, fun r => ?_, nd.2⟩
    · rw [r] at l0; exact absurd l0 (Nat.lt_irrefl _)
    · obtain ⟨q, hq, r⟩ := List.mem_map.mp r
      have := lt q (.tail _ hq)
      rw [r] at this; exact absurd this (Nat.lt_irrefl _)
theorem c_deque (h : ∀ a, Q (.ref a) m ((a, emptyDeque) :: σ)) : Wcall c (.type "collections.deque") [] m σ Q := by
  intro vs hv s hs
  cases hv
  have hnew : (s.heap.push DQ.fresh).get? s.heap.objs.size = some DQ.fresh := by heap_get
  refine callType_meets (Q₁ := fun v s₁ => v = .ref s.heap.objs.size ∧ s₁ = { s with heap := s.heap.push DQ.fresh }) DQ.called DQ.typeCall DQ.newCall DQ.entryN DQ.entryI DQ.isNew ⟨rfl, rfl⟩ ?_
  rintro obj s₁ ⟨rfl, rfl⟩
  refine ⟨?_, DQ.argsI _, _, DQ.isInit _, hnew, rfl, _, m, _, .same _, h s.heap.objs.size, ?_⟩
  · exact ⟨_, hnew, rfl⟩
  · refine Sr0.add1 (b1 := emptyDeque) (o1 := DQ.fresh) hs.toSr0 (fun b o q => ?_) ?_ ⟨rfl, _, _, rfl⟩ _
    · rw [(Heap.SameBut.update ..).2 b (Nat.ne_of_lt (Heap.lt_size q))]
      exact Heap.get?_push_of_some _ q
    · exact Heap.get?_update_self _ hnew rfl
end
noncomputable def tyK (f : V) (p : TY → Prop) (q : Prop) : Prop := match f with
  | .typ t => p t
  | _ => q
theorem tyK_ok {f : V} {p : TY → Prop} {q : Prop} (h : tyK f p q) : (∃ t, f = .typ t ∧ p t) ∨ q := by
  cases f with
  | typ t => exact .inl ⟨t, rfl, h⟩
  | _ => exact .inr h
noncomputable def zeroK (vs : List V) (kw : List (Str × V)) (p q : Prop) : Prop := match kw with
  | [] => (match vs with
    | [] => p
    | _ :: _ => q)
  | _ :: _ => q
theorem zeroK_ok {vs : List V} {kw : List (Str × V)} {p q : Prop} (h : zeroK vs kw p q) : (vs = [] ∧ kw = [] ∧ p) ∨ q := by
  cases kw with
  | cons => exact .inr h
  | nil =>
    cases vs with
    | cons => exact .inr h
    | nil => exact .inl ⟨rfl, rfl, h⟩
noncomputable def oneK (vs : List V) (kw : List (Str × V)) (p : V → Prop) (q : Prop) : Prop := match vs with
  | [] => q
  | v :: r => zeroK r kw (p v) q
theorem oneK_ok {vs : List V} {kw : List (Str × V)} {p : V → Prop} {q : Prop} (h : oneK vs kw p q) : (∃ v, vs = [v] ∧ kw = [] ∧ p v) ∨ q := by
  cases vs with
  | nil => exact .inr h
  | cons v r =>
    rcases zeroK_ok h with ⟨rfl, rfl, h⟩ | h
    · exact .inl ⟨v, rfl, rfl, h⟩
    · exact .inr h
noncomputable def cTyp (C : CT) : CT := fun f vs kw st k => tyK f (fun t => match t with
    | .int => oneK vs kw (fun v => match v with | .int g i => k (.int g i) st | _ => C f vs kw st k) (C f vs kw st k)
    | .deque => zeroK vs kw (alloc .deq st k) (C f vs kw st k)
    | _ => C f vs kw st k) (C f vs kw st k)
theorem cTyp_ok {w : World} {os : OsState} {n : Nat} {C : CT} (hC : CTok w os n C) : CTok w os n (cTyp C) := by
  intro f vs kw st k h c e1 e2 ok ρ us ks ht hk
  have F := fun h => hC f vs kw st k h c e1 e2 ok ρ us ks ht hk
  rcases tyK_ok h with ⟨t, rfl, h⟩ | h
  · cases t with
    | int =>
      rcases oneK_ok h with ⟨v, rfl, rfl, h⟩ | h
      · cases v with
        | int g i => cases hk; exact c_int_int (Post.here (b := V.int _ _) h) us ht
        | _ => exact F h
      · exact F h
    | deque =>
      rcases zeroK_ok h with ⟨rfl, rfl, h⟩ | h
      · cases hk
        refine WT.gc (c_deque (Q := fun b m σ => ∃ φ, Picks σ φ ∧ Post c V.re st.nx ρ k b m φ) (fun a => ?_) us ht) fun _ _ _ p => p
        exact alloc_ok (c := c) (ρ := ρ) h a
      · exact F h
    | _ => exact F h
  · exact F h
theorem f_index (w : World) : FOk w 171 (topSt 24) := by constructor <;> kernel_rfl
theorem f_ioInit (w : World) : FOk w 475 (memSt 30 1) := by constructor <;> kernel_rfl
theorem f_trans (w : World) : FOk w 482 (memSt 30 2) := by constructor <;> kernel_rfl
theorem f_check (w : World) : FOk w 489 (memSt 30 3) := by constructor <;> kernel_rfl
theorem f_read (w : World) : FOk w 651 (memSt 30 25) := by constructor <;> kernel_rfl
theorem f_lexInit (w : World) : FOk w 764 (memSt 41 0) := by constructor <;> kernel_rfl
theorem f_getTok (w : World) : FOk w 801 (memSt 41 5) := by constructor <;> kernel_rfl
theorem f_readTok (w : World) : FOk w 808 (memSt 41 6) := by constructor <;> kernel_rfl
theorem f_split (w : World) : FOk w 852 (topSt 42) := by constructor <;> kernel_rfl
noncomputable def c7 : CT := cTyp c6
theorem c7_ok (w : World) (os : OsState) : CTok w os 7 c7 := cTyp_ok (c6_ok w os)
noncomputable def c8 : CT := cAdd 171 (fun vs st k => match vs with | [a, b] => inl c7 J0 (topSt 24) [(N "n", some a), (N "what", some b)] st k | _ => False) c7
theorem c8_ok (w : World) (os : OsState) : CTok w os 8 c8 := by
  refine cAdd_ok ((c7_ok w os).le (by decide)) ?_
  intro vs st k h c e1 e2 ok ρ us ht
  split at h
  · next a b =>
    refine inl_ok (kw := []) (f_index w) (c7_ok w os) (by decide) (Nat.le_refl _) (by kernel_rfl) (fun ρ us ks h hk => ?_) h e1 e2 ok ht .nil
    obtain ⟨v1, v2, rfl, t1, t2⟩ := h.inv2; have hk := hk.inv0; subst hk
    exact ⟨[(N "n", v1), (N "what", v2)], fun S => by kernel_rfl, by kernel_rfl, .yes (by kernel_rfl) t1 (.yes (by kernel_rfl) t2 .nil)⟩
  · exact h.elim
noncomputable def c9 : CT := cAdd 489 (fun vs st k => match vs with | [a] => inl c8 J0 (memSt 30 3) [(N "self", some a)] st k | _ => False)
  (cAdd 482 (fun vs st k => match vs with | [a, b] => inl c8 J0 (memSt 30 2) [(N "self", some a), (N "s", some b), (N "newline", none)] st k | _ => False) c8)
theorem c9_ok (w : World) (os : OsState) : CTok w os 9 c9 := by
  refine cAdd_ok (cAdd_ok ((c8_ok w os).le (by decide)) ?_) ?_
  · intro vs st k h c e1 e2 ok ρ us ht
    split at h
    · next a b =>
      refine inl_ok (kw := []) (f_trans w) (c8_ok w os) (by decide) (Nat.le_refl _) (by kernel_rfl) (fun ρ us ks h hk => ?_) h e1 e2 ok ht .nil
      obtain ⟨v1, v2, rfl, t1, t2⟩ := h.inv2; have hk := hk.inv0; subst hk
      exact ⟨[(N "self", v1), (N "s", v2)], fun S => by kernel_rfl, by kernel_rfl, .yes (by kernel_rfl) t1 (.yes (by kernel_rfl) t2 (.no .nil))⟩
    · exact h.elim
  · intro vs st k h c e1 e2 ok ρ us ht
    split at h
    · next a =>
      refine inl_ok (kw := []) (f_check w) (c8_ok w os) (by decide) (Nat.le_refl _) (by kernel_rfl) (fun ρ us ks h hk => ?_) h e1 e2 ok ht .nil
      obtain ⟨v1, rfl, t1⟩ := h.inv1; have hk := hk.inv0; subst hk
      exact ⟨[(N "self", v1)], fun S => by kernel_rfl, by kernel_rfl, .yes (by kernel_rfl) t1 .nil⟩
    · exact h.elim
noncomputable def c10 : CT := cAdd 651 (fun vs st k => match vs with | [a, b] => inl c9 J0 (memSt 30 25) [(N "self", some a), (N "size", some b), (N "start", none), (N "stop", none)] st k | _ => False) c9
theorem c10_ok (w : World) (os : OsState) : CTok w os 10 c10 := by
  refine cAdd_ok ((c9_ok w os).le (by decide)) ?_
  intro vs st k h c e1 e2 ok ρ us ht
  split at h
  · next a b =>
    refine inl_ok (kw := []) (f_read w) (c9_ok w os) (by decide) (Nat.le_refl _) (by kernel_rfl) (fun ρ us ks h hk => ?_) h e1 e2 ok ht .nil
    obtain ⟨v1, v2, rfl, t1, t2⟩ := h.inv2; have hk := hk.inv0; subst hk
    exact ⟨[(N "self", v1), (N "size", v2)], fun S => by kernel_rfl, by kernel_rfl, .yes (by kernel_rfl) t1 (.yes (by kernel_rfl) t2 (.no (.no .nil)))⟩
  · exact h.elim
noncomputable def lexD (wc : Str) (stv tok : V) (ln : Int) : List (Str × V) :=
  [(N "instream", .loc 2), (N "infile", .none), (N "posix", .bool true true), (N "eof", .none), (N "commenters", .str true (N "")), (N "wordchars", .str false wc), (N "whitespace", .str true (N " \t\x0d\n")), (N "whitespace_split", .bool true true), (N "quotes", .str true (N "'\"")), (N "escape", .str true (N "\\")), (N "escapedquotes", .str true (N "\"")), (N "state", stv), (N "pushback", .loc 4), (N "lineno", .int false ln), (N "debug", .int true 0), (N "token", tok), (N "filestack", .loc 5), (N "source", .none), (N "_punctuation_chars", .str true (N ""))]
noncomputable def lexB (buf : Str) (pos : Int) : List (Str × V) := [(N "_StringIO__newline", .str true (N "\n")), (N "_StringIO__buf", .str false buf), (N "_StringIO__pos", .int false pos)]
noncomputable def lexH (wc : Str) (stv tok : V) (ln : Int) (buf : Str) (pos : Int) : List (Nat × O) := [(0, .inst 840 1), (1, .dict (lexD wc stv tok ln)), (2, .inst 705 3), (3, .dict (lexB buf pos)), (4, .deq), (5, .deq)]
noncomputable abbrev P41 : Pm := pm c10 (memSt 41 6) 6
noncomputable def rtB : List Stmt := inner (nth (bodyOf (memSt 41 6)) 2)
noncomputable def rtS (q es nc res : Option V) (h : List (Nat × O)) (nx : Nat) : St := ⟨[(N "self", some (.loc 0)), (N "quoted", q), (N "escapedstate", es), (N "nextchar", nc), (N "result", res)], [], h, nx⟩
noncomputable def inS (y c : Str) : Bool := !(Builtin.Str.occurrences y c 0 y.length 1).isEmpty
theorem rt_rd (wc : Str) (q : Bool) (e s t : Str) (ln : Int) (buf : Str) (pos : Int) (k : Fl → St → Prop) : evSs P41 (evN P41 39) (rtB.take 2) (rtS (some (.bool false q)) (some (.str false e)) none none (lexH wc (.str false s) (.str false t) ln buf pos) 6) k =
  (((buf.length ≤ sizeLine) ∧ ((((Decidable.decide ((buf.length : Int) ≤ pos)) = true) → k .next (rtS (some (.bool false q)) (some (.str false e)) (some (.str true (N ""))) none (lexH wc (.str false s) (.str false t) (ln) buf (pos)) 6)) ∧ (((Decidable.decide ((buf.length : Int) ≤ pos)) = false) → ((((Decidable.decide ((pos + 1) < (buf.length : Int))) = true) → ((buf.length ≤ sizeLine) ∧ (((((Txt.slice buf (some pos) (some (pos + 1))) == (N "\n")) = true) → k .next (rtS (some (.bool false q)) (some (.str false e)) (some (.str false (Txt.slice buf (some pos) (some (pos + 1))))) none (lexH wc (.str false s) (.str false t) ((ln + 1)) buf ((pos + 1))) 6)) ∧ ((((Txt.slice buf (some pos) (some (pos + 1))) == (N "\n")) = false) → k .next (rtS (some (.bool false q)) (some (.str false e)) (some (.str false (Txt.slice buf (some pos) (some (pos + 1))))) none (lexH wc (.str false s) (.str false t) (ln) buf ((pos + 1))) 6))))) ∧ (((Decidable.decide ((pos + 1) < (buf.length : Int))) = false) → ((buf.length ≤ sizeLine) ∧ (((((Txt.slice buf (some pos) (some (buf.length : Int))) == (N "\n")) = true) → k .next (rtS (some (.bool false q)) (some (.str false e)) (some (.str false (Txt.slice buf (some pos) (some (buf.length : Int))))) none (lexH wc (.str false s) (.str false t) ((ln + 1)) buf ((buf.length : Int))) 6)) ∧ ((((Txt.slice buf (some pos) (some (buf.length : Int))) == (N "\n")) = false) → k .next (rtS (some (.bool false q)) (some (.str false e)) (some (.str false (Txt.slice buf (some pos) (some (buf.length : Int))))) none (lexH wc (.str false s) (.str false t) (ln) buf ((buf.length : Int))) 6)))))))))) := by kernel_rfl
theorem rt_ws (wc e c : Str) (ln : Int) (buf : Str) (pos : Int) (k : Fl → St → Prop) : evSs P41 (evN P41 39) (rtB.drop 2) (rtS (some (.bool true false)) (some (.str false e)) (some (.str false c)) none (lexH wc (.str true (N " ")) (.str true (N "")) ln buf pos) 6) k =
  (((c.length ≤ sizeLine) ∧ ((((c.length != 0) = true) → ((((inS (N " \t\x0d\n") c) = true) → k .cont (rtS (some (.bool true false)) (some (.str false e)) (some (.str false c)) none (lexH wc (.str true (N " ")) (.str true (N "")) (ln) buf (pos)) 6)) ∧ (((inS (N " \t\x0d\n") c) = false) → ((((inS (N "") c) = true) → False) ∧ (((inS (N "") c) = false) → ((((inS (N "\\") c) = true) → k .next (rtS (some (.bool true false)) (some (.str true (N "a"))) (some (.str false c)) none (lexH wc (.str false c) (.str true (N "")) (ln) buf (pos)) 6)) ∧ (((inS (N "\\") c) = false) → ((((inS wc c) = true) → k .next (rtS (some (.bool true false)) (some (.str false e)) (some (.str false c)) none (lexH wc (.str true (N "a")) (.str false c) (ln) buf (pos)) 6)) ∧ (((inS wc c) = false) → ((((inS (N "") c) = true) → k .next (rtS (some (.bool true false)) (some (.str false e)) (some (.str false c)) none (lexH wc (.str true (N "c")) (.str false c) (ln) buf (pos)) 6)) ∧ (((inS (N "") c) = false) → ((((inS (N "'\"") c) = true) → k .next (rtS (some (.bool true false)) (some (.str false e)) (some (.str false c)) none (lexH wc (.str false c) (.str true (N "")) (ln) buf (pos)) 6)) ∧ (((inS (N "'\"") c) = false) → k .next (rtS (some (.bool true false)) (some (.str false e)) (some (.str false c)) none (lexH wc (.str true (N "a")) (.str false c) (ln) buf (pos)) 6)))))))))))))) ∧ (((c.length != 0) = false) → k .brk (rtS (some (.bool true false)) (some (.str false e)) (some (.str false c)) none (lexH wc .none (.str true (N "")) (ln) buf (pos)) 6))))) := by kernel_rfl
theorem rt_wd (wc e : Str) (q : Bool) (c t : Str) (ln : Int) (buf : Str) (pos : Int) (k : Fl → St → Prop) : evSs P41 (evN P41 39) (rtB.drop 2) (rtS (some (.bool false q)) (some (.str false e)) (some (.str false c)) none (lexH wc (.str true (N "a")) (.str false t) ln buf pos) 6) k =
  (((c.length ≤ sizeLine) ∧ ((((c.length != 0) = true) → ((((inS (N " \t\x0d\n") c) = true) → ((t.length ≤ sizeLine) ∧ ((((t.length != 0) = true) → k .brk (rtS (some (.bool false q)) (some (.str false e)) (some (.str false c)) none ([(6, (.tup [(.str true (N "a")), (.str true (N "c"))]))] ++ lexH wc (.str true (N " ")) (.str false t) (ln) buf (pos)) 7)) ∧ (((t.length != 0) = false) → (((q = true) → k .brk (rtS (some (.bool false q)) (some (.str false e)) (some (.str false c)) none ([(6, (.tup [(.str true (N "a")), (.str true (N "c"))]))] ++ lexH wc (.str true (N " ")) (.str false t) (ln) buf (pos)) 7)) ∧ ((q = false) → k .cont (rtS (some (.bool false q)) (some (.str false e)) (some (.str false c)) none ([(6, (.tup [(.str true (N "a")), (.str true (N "c"))]))] ++ lexH wc (.str true (N " ")) (.str false t) (ln) buf (pos)) 7))))))) ∧ (((inS (N " \t\x0d\n") c) = false) → ((((inS (N "") c) = true) → False) ∧ (((inS (N "") c) = false) → ((((inS (N "'\"") c) = true) → k .next (rtS (some (.bool false q)) (some (.str false e)) (some (.str false c)) none ([(6, (.tup [(.str true (N "a")), (.str true (N "c"))]))] ++ lexH wc (.str false c) (.str false t) (ln) buf (pos)) 7)) ∧ (((inS (N "'\"") c) = false) → ((((inS (N "\\") c) = true) → k .next (rtS (some (.bool false q)) (some (.str true (N "a"))) (some (.str false c)) none ([(6, (.tup [(.str true (N "a")), (.str true (N "c"))]))] ++ lexH wc (.str false c) (.str false t) (ln) buf (pos)) 7)) ∧ (((inS (N "\\") c) = false) → ((((inS wc c) = true) → (((t.length + c.length) ≤ sizeLine) ∧ k .next (rtS (some (.bool false q)) (some (.str false e)) (some (.str false c)) none ([(6, (.tup [(.str true (N "a")), (.str true (N "c"))]))] ++ lexH wc (.str true (N "a")) (.str false (t ++ c)) (ln) buf (pos)) 7))) ∧ (((inS wc c) = false) → ((((inS (N "'\"") c) = true) → (((t.length + c.length) ≤ sizeLine) ∧ k .next (rtS (some (.bool false q)) (some (.str false e)) (some (.str false c)) none ([(6, (.tup [(.str true (N "a")), (.str true (N "c"))]))] ++ lexH wc (.str true (N "a")) (.str false (t ++ c)) (ln) buf (pos)) 7))) ∧ (((inS (N "'\"") c) = false) → ((((!(inS (N "") c)) = true) → (((t.length + c.length) ≤ sizeLine) ∧ k .next (rtS (some (.bool false q)) (some (.str false e)) (some (.str false c)) none ([(6, (.tup [(.str true (N "a")), (.str true (N "c"))]))] ++ lexH wc (.str true (N "a")) (.str false (t ++ c)) (ln) buf (pos)) 7))) ∧ (((!(inS (N "") c)) = false) → False))))))))))))))) ∧ (((c.length != 0) = false) → k .brk (rtS (some (.bool false q)) (some (.str false e)) (some (.str false c)) none ([(6, (.tup [(.str true (N "a")), (.str true (N "c"))]))] ++ lexH wc .none (.str false t) (ln) buf (pos)) 7))))) := by kernel_rfl
theorem rt_sq (wc e : Str) (q : Bool) (c t : Str) (ln : Int) (buf : Str) (pos : Int) (k : Fl → St → Prop) : evSs P41 (evN P41 39) (rtB.drop 2) (rtS (some (.bool false q)) (some (.str false e)) (some (.str false c)) none (lexH wc (.str true (N "'")) (.str false t) ln buf pos) 6) k =
  (((c.length ≤ sizeLine) ∧ ((((c.length != 0) = true) → ((((c == (N "'")) = true) → k .next (rtS (some (.bool true true)) (some (.str false e)) (some (.str false c)) none (lexH wc (.str true (N "a")) (.str false t) (ln) buf (pos)) 6)) ∧ (((c == (N "'")) = false) → ((((inS (N "\\") c) = true) → (((t.length + c.length) ≤ sizeLine) ∧ k .next (rtS (some (.bool true true)) (some (.str false e)) (some (.str false c)) none (lexH wc (.str true (N "'")) (.str false (t ++ c)) (ln) buf (pos)) 6))) ∧ (((inS (N "\\") c) = false) → (((t.length + c.length) ≤ sizeLine) ∧ k .next (rtS (some (.bool true true)) (some (.str false e)) (some (.str false c)) none (lexH wc (.str true (N "'")) (.str false (t ++ c)) (ln) buf (pos)) 6))))))) ∧ (((c.length != 0) = false) → False)))) := by kernel_rfl
theorem rt_dq (wc e : Str) (q : Bool) (c t : Str) (ln : Int) (buf : Str) (pos : Int) (k : Fl → St → Prop) : evSs P41 (evN P41 39) (rtB.drop 2) (rtS (some (.bool false q)) (some (.str false e)) (some (.str false c)) none (lexH wc (.str true (N "\"")) (.str false t) ln buf pos) 6) k =
  (((c.length ≤ sizeLine) ∧ ((((c.length != 0) = true) → ((((c == (N "\"")) = true) → k .next (rtS (some (.bool true true)) (some (.str false e)) (some (.str false c)) none (lexH wc (.str true (N "a")) (.str false t) (ln) buf (pos)) 6)) ∧ (((c == (N "\"")) = false) → ((((inS (N "\\") c) = true) → k .next (rtS (some (.bool true true)) (some (.str true (N "\""))) (some (.str false c)) none (lexH wc (.str false c) (.str false t) (ln) buf (pos)) 6)) ∧ (((inS (N "\\") c) = false) → (((t.length + c.length) ≤ sizeLine) ∧ k .next (rtS (some (.bool true true)) (some (.str false e)) (some (.str false c)) none (lexH wc (.str true (N "\"")) (.str false (t ++ c)) (ln) buf (pos)) 6))))))) ∧ (((c.length != 0) = false) → False)))) := by kernel_rfl
theorem rt_ea (wc e : Str) (q : Bool) (c t : Str) (ln : Int) (buf : Str) (pos : Int) (k : Fl → St → Prop) : evSs P41 (evN P41 39) (rtB.drop 2) (rtS (some (.bool false q)) (some (.str true (N "a"))) (some (.str false c)) none (lexH wc (.str true (N "\\")) (.str false t) ln buf pos) 6) k =
  (((c.length ≤ sizeLine) ∧ ((((c.length != 0) = true) → (((t.length + c.length) ≤ sizeLine) ∧ k .next (rtS (some (.bool false q)) (some (.str true (N "a"))) (some (.str false c)) none (lexH wc (.str true (N "a")) (.str false (t ++ c)) (ln) buf (pos)) 6))) ∧ (((c.length != 0) = false) → False)))) := by kernel_rfl
theorem rt_ed (wc e : Str) (q : Bool) (c t : Str) (ln : Int) (buf : Str) (pos : Int) (k : Fl → St → Prop) : evSs P41 (evN P41 39) (rtB.drop 2) (rtS (some (.bool false q)) (some (.str true (N "\""))) (some (.str false c)) none (lexH wc (.str true (N "\\")) (.str false t) ln buf pos) 6) k =
  (((c.length ≤ sizeLine) ∧ ((((c.length != 0) = true) → ((((c != (N "\\")) = true) → ((((c != (N "\"")) = true) → (((t.length + (N "\\").length) ≤ sizeLine) ∧ ((((t ++ (N "\\")).length + c.length) ≤ sizeLine) ∧ k .next (rtS (some (.bool false q)) (some (.str true (N "\""))) (some (.str false c)) none (lexH wc (.str true (N "\"")) (.str false ((t ++ (N "\\")) ++ c)) (ln) buf (pos)) 6)))) ∧ (((c != (N "\"")) = false) → (((t.length + c.length) ≤ sizeLine) ∧ k .next (rtS (some (.bool false q)) (some (.str true (N "\""))) (some (.str false c)) none (lexH wc (.str true (N "\"")) (.str false (t ++ c)) (ln) buf (pos)) 6))))) ∧ (((c != (N "\\")) = false) → (((t.length + c.length) ≤ sizeLine) ∧ k .next (rtS (some (.bool false q)) (some (.str true (N "\""))) (some (.str false c)) none (lexH wc (.str true (N "\"")) (.str false (t ++ c)) (ln) buf (pos)) 6))))) ∧ (((c.length != 0) = false) → False)))) := by kernel_rfl
theorem rt_end0 (wc e : Str) (q : Bool) (c t : Str) (stv : V) (ln : Int) (buf : Str) (pos : Int) (k : Fl → St → Prop) : (seqK P41 (evN P41 40) ((bodyOf (memSt 41 6)).drop 3) k) .next (rtS (some (.bool false q)) (some (.str false e)) (some (.str false c)) none (lexH wc stv (.str false t) ln buf pos) 6) =
  ((((q = true) → k (.ret (.str false t)) (rtS (some (.bool false q)) (some (.str false e)) (some (.str false c)) (some (.str false t)) (lexH wc stv (.str true (N "")) (ln) buf (pos)) 6)) ∧ ((q = false) → ((((t == (N "")) = true) → k (.ret .none) (rtS (some (.bool false q)) (some (.str false e)) (some (.str false c)) (some .none) (lexH wc stv (.str true (N "")) (ln) buf (pos)) 6)) ∧ (((t == (N "")) = false) → k (.ret (.str false t)) (rtS (some (.bool false q)) (some (.str false e)) (some (.str false c)) (some (.str false t)) (lexH wc stv (.str true (N "")) (ln) buf (pos)) 6)))))) := by kernel_rfl
theorem rt_end1 (wc e : Str) (q : Bool) (c t : Str) (stv : V) (ln : Int) (buf : Str) (pos : Int) (k : Fl → St → Prop) : (seqK P41 (evN P41 40) ((bodyOf (memSt 41 6)).drop 3) k) .next (rtS (some (.bool false q)) (some (.str false e)) (some (.str false c)) none ([(6, .tup [.str true (N "a"), .str true (N "c")])] ++ lexH wc stv (.str false t) ln buf pos) 7) =
  ((((q = true) → k (.ret (.str false t)) (rtS (some (.bool false q)) (some (.str false e)) (some (.str false c)) (some (.str false t)) ([(6, (.tup [(.str true (N "a")), (.str true (N "c"))]))] ++ lexH wc stv (.str true (N "")) (ln) buf (pos)) 7)) ∧ ((q = false) → ((((t == (N "")) = true) → k (.ret .none) (rtS (some (.bool false q)) (some (.str false e)) (some (.str false c)) (some .none) ([(6, (.tup [(.str true (N "a")), (.str true (N "c"))]))] ++ lexH wc stv (.str true (N "")) (ln) buf (pos)) 7)) ∧ (((t == (N "")) = false) → k (.ret (.str false t)) (rtS (some (.bool false q)) (some (.str false e)) (some (.str false c)) (some (.str false t)) ([(6, (.tup [(.str true (N "a")), (.str true (N "c"))]))] ++ lexH wc stv (.str true (N "")) (ln) buf (pos)) 7)))))) := by kernel_rfl
theorem rt_end2 (wc e : Str) (c : Str) (stv : V) (ln : Int) (buf : Str) (pos : Int) (k : Fl → St → Prop) : (seqK P41 (evN P41 40) ((bodyOf (memSt 41 6)).drop 3) k) .next (rtS (some (.bool true false)) (some (.str false e)) (some (.str false c)) none (lexH wc stv (.str true (N "")) ln buf pos) 6) =
  (k (.ret .none) (rtS (some (.bool true false)) (some (.str false e)) (some (.str false c)) (some .none) (lexH wc stv (.str true (N "")) (ln) buf (pos)) 6)) := by kernel_rfl
inductive Md where | ws | wd | sq | dq | ea | ed
noncomputable def Md.s : Md → Str
  | .ws => N " " | .wd => N "a" | .sq => N "'" | .dq => N "\"" | .ea => N "\\" | .ed => N "\\"
noncomputable def chr (x : Nat) : Str := ⟨#[x]⟩
noncomputable def isWs (x : Nat) : Bool := inS (N " \t\x0d\n") (chr x)
noncomputable def isQ (x : Nat) : Bool := inS (N "'\"") (chr x)
noncomputable def isB (x : Nat) : Bool := inS (N "\\") (chr x)
noncomputable def qMd (x : Nat) : Md := if chr x == N "'" then .sq else .dq
inductive Nx where
  | go (m : Md) (q : Bool) (t : Str)
  | out (q : Bool) (t : Str)
noncomputable def lexStep (m : Md) (q : Bool) (t : Str) (x : Nat) : Nx :=
  match m with
  | .ws => if isWs x then .go .ws false (N "") else if isB x then .go .ea false (N "") else if isQ x then .go (qMd x) false (N "") else .go .wd false (chr x)
  | .wd => if isWs x then (if t.length != 0 || q then .out q t else .go .ws false (N "")) else if isQ x then .go (qMd x) q t else if isB x then .go .ea q t else .go .wd q (t ++ chr x)
  | .sq => if chr x == N "'" then .go .wd true t else .go .sq true (t ++ chr x)
  | .dq => if chr x == N "\"" then .go .wd true t else if isB x then .go .ed true t else .go .dq true (t ++ chr x)
  | .ea => .go .wd q (t ++ chr x)
  | .ed => if chr x != N "\\" && chr x != N "\"" then .go .dq q (t ++ N "\\" ++ chr x) else .go .dq q (t ++ chr x)
noncomputable def tokOf (q : Bool) (t : Str) : Option Str := if q then some t else if t == N "" then none else some t
noncomputable def readP : Md → Bool → Str → List Nat → Option (Option Str × Bool × List Nat)
  | .ws, _, _, [] => some (none, true, [])
  | .wd, q, t, [] => some (tokOf q t, true, [])
  | _, _, _, [] => none
  | m, q, t, x :: r => match lexStep m q t x with
    | .go m' q' t' => readP m' q' t' r
    | .out q' t' => some (tokOf q' t', false, r)
noncomputable def rtok : Option Str → V
  | none => .none
  | some t => .str false t
noncomputable def endV (b : Bool) : V := if b then .none else .str true (N " ")
theorem slice_one {buf : Str} {p : Nat} {x : Nat} {r : List Nat} (h : buf.cps.toList.drop p = x :: r) : p < buf.length ∧ Txt.slice buf (some (p : Int)) (some ((p : Int) + 1)) = chr x := by
  have hl : p < buf.cps.toList.length := by
    rcases Nat.lt_or_ge p buf.cps.toList.length with q | q
    · exact q
    · rw [List.drop_eq_nil_of_le q] at h; cases h
  have hl' : p < buf.length := by simpa [Str.length] using hl
  refine ⟨hl', ?_⟩
  have := StrLaws.sliceText_nat buf (a := p) (b := p + 1) (Nat.le_succ p) hl'
  have e : Txt.slice buf (some (p : Int)) (some ((p : Int) + 1)) = StrLaws.sliceText buf (some (p : Int)) (some ((p + 1 : Nat) : Int)) := rfl
  rw [e, this, h, show p + 1 - p = 1 by omega]
  rfl
theorem drop_end {buf : Str} {p : Nat} (hp : p ≤ buf.length) (h : buf.cps.toList.drop p = []) : p = buf.length := by
  have := List.drop_eq_nil_iff.mp h
  have e : buf.cps.toList.length = buf.length := by simp [Str.length]
  omega
noncomputable def rtJ (wc buf : Str) (R : Option Str × Bool × List Nat) (n : Nat) (st : St) : Prop :=
  ∃ (m : Md) (q : Bool) (t e : Str) (p : Nat) (rest : List Nat) (ln : Int) (qv ev sv tv : V), n = rest.length ∧ p ≤ buf.length ∧ buf.cps.toList.drop p = rest ∧ readP m q t rest = some R ∧ t.length + 2 * rest.length ≤ 4000000 ∧ (m = .ws → q = false ∧ t = N "") ∧ (m = .ea → e = N "a") ∧ (m = .ed → e = N "\"") ∧
    (∀ ρ, qv.re ρ = .bool q) ∧ (∀ ρ, ev.re ρ = S e) ∧ (∀ ρ, sv.re ρ = S m.s) ∧ (∀ ρ, tv.re ρ = S t) ∧
    st = rtS (some qv) (some ev) none none (lexH wc sv tv ln buf p) 6
theorem rt_turn (wc buf : Str) (ln p : Int) (qv ev sv tv : V) (K : Fl → St → Prop) : chk (Nat.ble P41.pn (rtS (some qv) (some ev) none none (lexH wc sv tv ln buf p) 6).nx) ((evN P41 39).t (.Constant (.bool true) 0 ⟨0, 0, 0, 0⟩) (rtS (some qv) (some ev) none none (lexH wc sv tv ln buf p) 6) fun c st1 => match c with
    | true => Seg P41 (evN P41 39) K rtB st1
    | false => False) = Seg P41 (evN P41 39) K rtB (rtS (some qv) (some ev) none none (lexH wc sv tv ln buf p) 6) := by kernel_rfl
noncomputable def whT : Stmt → Expr
  | .While t _ _ _ => t
  | _ => .Constant .none 0 ⟨0, 0, 0, 0⟩
noncomputable def rtT : Expr := whT (nth (bodyOf (memSt 41 6)) 2)
theorem rt_start (wc : Str) (ln : Int) (buf : Str) (pos : Int) (k : Fl → St → Prop) : evSs P41 (evN P41 J0) (bodyOf (memSt 41 6)) (rtS none none none none (lexH wc (.str true (N " ")) (.str true (N "")) ln buf pos) 6) k =
  WhileVC P41 (evN P41 39) rtT rtB [] (rtS (some (.bool true false)) (some (.str true (N " "))) none none (lexH wc (.str true (N " ")) (.str true (N "")) ln buf pos) 6) (seqK P41 (evN P41 40) ((bodyOf (memSt 41 6)).drop 3) k) := by kernel_rfl
theorem rt_test (wc buf : Str) (ln p : Int) (qv ev sv tv : V) (K K2 : Fl → St → Prop) : chk (Nat.ble P41.pn (rtS (some qv) (some ev) none none (lexH wc sv tv ln buf p) 6).nx) ((evN P41 39).t rtT (rtS (some qv) (some ev) none none (lexH wc sv tv ln buf p) 6) fun c st1 => match c with
    | true => Seg P41 (evN P41 39) K rtB st1
    | false => evSs P41 (evN P41 39) [] st1 K2) = Seg P41 (evN P41 39) K rtB (rtS (some qv) (some ev) none none (lexH wc sv tv ln buf p) 6) := by kernel_rfl
theorem lex_same {wc buf : Str} {ln p : Int} {qv qv' ev ev' sv sv' tv tv' : V} {nv nv' : Option V} (h1 : ∀ ρ, qv.re ρ = qv'.re ρ) (h2 : ∀ ρ, ev.re ρ = ev'.re ρ) (h3 : ∀ ρ, sv.re ρ = sv'.re ρ) (h4 : ∀ ρ, tv.re ρ = tv'.re ρ) (h5 : ∀ ρ, nv.map (V.re ρ) = nv'.map (V.re ρ)) :
    Same (rtS (some qv) (some ev) nv none (lexH wc sv tv ln buf p) 6) (rtS (some qv') (some ev') nv' none (lexH wc sv' tv' ln buf p) 6) := by
  refine ⟨fun ρ => ?_, fun ρ cl => ?_⟩
  · unfold rtS mre
    simp only [List.map_cons, List.map_nil, Option.map_some, h1, h2, h5]
  · unfold rtS St.sto hre lexH lexD
    simp only [List.map_cons, List.map_nil, O.re, h3, h4]
theorem rt_read {wc buf : Str} {q : Bool} {e s t : Str} {p : Nat} {rest : List Nat} {ln : Int} (hz : buf.length ≤ 2000000) (hp : p ≤ buf.length) (hd : buf.cps.toList.drop p = rest) (K : Fl → St → Prop) :
    evSs P41 (evN P41 39) (rtB.take 2) (rtS (some (.bool false q)) (some (.str false e)) none none (lexH wc (.str false s) (.str false t) ln buf p) 6) (cutK P41 (fun st => ∃ ln' : Int, match rest with
      | [] => st = rtS (some (.bool false q)) (some (.str false e)) (some (.str false (N ""))) none (lexH wc (.str false s) (.str false t) ln' buf p) 6
      | x :: r => st = rtS (some (.bool false q)) (some (.str false e)) (some (.str false (chr x))) none (lexH wc (.str false s) (.str false t) ln' buf ((p + 1 : Nat) : Int)) 6) K) := by
  have hs : buf.length ≤ sizeLine := by exact sz (by assumption) rfl
  refine Eq.mpr (rt_rd wc q e s t ln buf p _) ⟨hs, fun h1 => ?_, fun h1 => ⟨fun h2 => ⟨hs, fun h3 => ?_, fun h3 => ?_⟩, fun h2 => ⟨hs, fun h3 => ?_, fun h3 => ?_⟩⟩⟩
  · have h1 := of_decide_eq_true h1
    cases rest with
    | nil => exact ⟨[], [N "!nextchar"], rtS (some (.bool false q)) (some (.str false e)) (some (.str false (N ""))) none (lexH wc (.str false s) (.str false t) ln buf p) 6, by kernel_rfl, ln, rfl⟩
    | cons x r => have := (slice_one hd).1; omega
  · have h1 := of_decide_eq_false h1
    cases rest with
    | nil => have := drop_end hp hd; omega
    | cons x r =>
      have hx := (slice_one hd).2
      rw [hx]
      exact ⟨[], [], rtS (some (.bool false q)) (some (.str false e)) (some (.str false (chr x))) none (lexH wc (.str false s) (.str false t) (ln + 1) buf ((p + 1 : Nat) : Int)) 6, by kernel_rfl, ln + 1, rfl⟩
  · have h1 := of_decide_eq_false h1
    cases rest with
    | nil => have := drop_end hp hd; omega
    | cons x r =>
      have hx := (slice_one hd).2
      rw [hx]
      exact ⟨[], [], rtS (some (.bool false q)) (some (.str false e)) (some (.str false (chr x))) none (lexH wc (.str false s) (.str false t) (ln) buf ((p + 1 : Nat) : Int)) 6, by kernel_rfl, ln, rfl⟩
  · have h1 := of_decide_eq_false h1
    cases rest with
    | nil => have := drop_end hp hd; omega
    | cons x r =>
      have hx := (slice_one hd).2
      have h2 := of_decide_eq_false h2
      have hpe : (buf.length : Int) = ((p : Int) + 1) := by have := (slice_one hd).1; omega
      rw [hpe, hx]
      exact ⟨[], [], rtS (some (.bool false q)) (some (.str false e)) (some (.str false (chr x))) none (lexH wc (.str false s) (.str false t) (ln + 1) buf ((p + 1 : Nat) : Int)) 6, by kernel_rfl, ln + 1, rfl⟩
  · have h1 := of_decide_eq_false h1
    cases rest with
    | nil => have := drop_end hp hd; omega
    | cons x r =>
      have hx := (slice_one hd).2
      have h2 := of_decide_eq_false h2
      have hpe : (buf.length : Int) = ((p : Int) + 1) := by have := (slice_one hd).1; omega
      rw [hpe, hx]
      exact ⟨[], [], rtS (some (.bool false q)) (some (.str false e)) (some (.str false (chr x))) none (lexH wc (.str false s) (.str false t) (ln) buf ((p + 1 : Nat) : Int)) 6, by kernel_rfl, ln, rfl⟩
noncomputable def abc : List Nat := [97, 98, 99, 105, 116, 115, 32, 39, 92, 34, 46, 47, 9, 10, 13]
theorem abc_E : ∀ x ∈ abc, inS (N "") (chr x) = false := by decide +kernel
theorem abc_Q : ∀ x ∈ abc, isQ x = true → (qMd x).s = chr x := by decide +kernel
theorem abc_B : ∀ x ∈ abc, isB x = true → N "\\" = chr x := by decide +kernel
theorem qMd_ne (x : Nat) : qMd x ≠ .ws ∧ qMd x ≠ .ea ∧ qMd x ≠ .ed := by unfold qMd; split <;> simp
theorem rtJ.mk {wc buf : Str} {R : Option Str × Bool × List Nat} {m : Md} {q : Bool} {t e : Str} {p : Nat} {rest : List Nat} {ln : Int} {f g a b : Bool} {s : Str} (hs : m.s = s) (hp : p ≤ buf.length) (hd : buf.cps.toList.drop p = rest) (hr : readP m q t rest = some R) (hl : t.length + 2 * rest.length ≤ 4000000)
    (h1 : m = .ws → q = false ∧ t = N "") (h2 : m = .ea → e = N "a") (h3 : m = .ed → e = N "\"") : rtJ wc buf R rest.length (rtS (some (.bool f q)) (some (.str g e)) none none (lexH wc (.str a s) (.str b t) ln buf p) 6) :=
  ⟨m, q, t, e, p, rest, ln, _, _, _, _, rfl, hp, hd, hr, hl, h1, h2, h3, fun _ => rfl, fun _ => rfl, fun _ => by rw [hs]; rfl, fun _ => rfl, rfl⟩
theorem ord0 {p : St → Prop} {wc buf : Str} {ln pos : Int} {f q g a b h : Bool} {e s t c : Str} (hj : p (rtS (some (.bool f q)) (some (.str g e)) none none (lexH wc (.str a s) (.str b t) ln buf pos) 6)) : Ordered P41 (rtS (some (.bool f q)) (some (.str g e)) (some (.str h c)) none (lexH wc (.str a s) (.str b t) ln buf pos) 6) p :=
  ⟨[], [N "nextchar"], _, (by kernel_rfl : _ = some (rtS (some (.bool f q)) (some (.str g e)) none none (lexH wc (.str a s) (.str b t) ln buf pos) 6)), hj⟩
noncomputable def rtG : List (Nat × O) := [(6, .tup [.str true (N "a"), .str true (N "c")])]
theorem ord1 {p : St → Prop} {wc buf : Str} {ln pos : Int} {f q g a b h : Bool} {e s t c : Str} (hj : p (rtS (some (.bool f q)) (some (.str g e)) none none (lexH wc (.str a s) (.str b t) ln buf pos) 6)) : Ordered P41 (rtS (some (.bool f q)) (some (.str g e)) (some (.str h c)) none (rtG ++ lexH wc (.str a s) (.str b t) ln buf pos) 7) p :=
  ⟨[], [N "nextchar"], _, (by kernel_rfl : _ = some (rtS (some (.bool f q)) (some (.str g e)) none none (lexH wc (.str a s) (.str b t) ln buf pos) 6)), hj⟩
noncomputable def rtEnd (wc buf : Str) (R : Option Str × Bool × List Nat) (k : Fl → St → Prop) : Prop :=
  ∀ (m : List (Str × Option V)) (g : List (Nat × O)) (nx : Nat) (ln : Int) (p : Nat), (g = [] ∧ nx = 6 ∨ g = rtG ∧ nx = 7) → p ≤ buf.length → buf.cps.toList.drop p = R.2.2 → k (.ret (rtok R.1)) ⟨m, [], g ++ lexH wc (endV R.2.1) (.str true (N "")) ln buf p, nx⟩
theorem chr_len (x : Nat) : (chr x).length = 1 := rfl
theorem chr_ne (x : Nat) : ((chr x).length != 0) = true := rfl
noncomputable abbrev rtK (k : Fl → St → Prop) : Fl → St → Prop := seqK P41 (evN P41 40) ((bodyOf (memSt 41 6)).drop 3) k
noncomputable abbrev rtL (wc buf : Str) (R : Option Str × Bool × List Nat) (n : Nat) (k : Fl → St → Prop) : Fl → St → Prop := loopK P41 (rtJ wc buf R) n (rtK k)
section
variable {wc buf : Str} {R : Option Str × Bool × List Nat} {k : Fl → St → Prop} {q : Bool} {t e : Str} {p x : Nat} {r : List Nat} {ln : Int}
theorem turn_sq (hx : x ∈ abc) (hp : p + 1 ≤ buf.length) (hd : buf.cps.toList.drop (p + 1) = r) (hr : readP .sq q t (x :: r) = some R) (hl : t.length + 2 * (x :: r).length ≤ 4000000) :
    evSs P41 (evN P41 39) (rtB.drop 2) (rtS (some (.bool false q)) (some (.str false e)) (some (.str false (chr x))) none (lexH wc (.str true (N "'")) (.str false t) ln buf ((p + 1 : Nat) : Int)) 6) (rtL wc buf R (x :: r).length k) := by
  have hz := sizeLine_eq
  rw [List.length_cons] at hl
  have hlt : r.length < (x :: r).length := Nat.lt_succ_self _
  refine Eq.mpr (rt_sq wc e q (chr x) t ln buf _ _) ⟨by rw [chr_len]; exact Nat.succ_pos _, fun _ => ⟨fun h1 => ?_, fun h1 => ⟨fun h2 => ⟨by rw [chr_len]; omega, ?_⟩, fun h2 => ⟨by rw [chr_len]; omega, ?_⟩⟩⟩, fun h => by rw [chr_ne] at h; cases h⟩
  · refine ⟨r.length, hlt, ord0 (rtJ.mk (m := .wd) rfl hp hd ?_ (by omega) (by simp) (by simp) (by simp))⟩
    simpa [readP, lexStep, h1] using hr
  · refine ⟨r.length, hlt, ord0 (rtJ.mk (m := .sq) rfl hp hd ?_ (by rw [Str.length_append, chr_len]; omega) (by simp) (by simp) (by simp))⟩
    simpa [readP, lexStep, h1] using hr
  · refine ⟨r.length, hlt, ord0 (rtJ.mk (m := .sq) rfl hp hd ?_ (by rw [Str.length_append, chr_len]; omega) (by simp) (by simp) (by simp))⟩
    simpa [readP, lexStep, h1] using hr
theorem turn_ea (hx : x ∈ abc) (hp : p + 1 ≤ buf.length) (hd : buf.cps.toList.drop (p + 1) = r) (hr : readP .ea q t (x :: r) = some R) (hl : t.length + 2 * (x :: r).length ≤ 4000000) :
    evSs P41 (evN P41 39) (rtB.drop 2) (rtS (some (.bool false q)) (some (.str true (N "a"))) (some (.str false (chr x))) none (lexH wc (.str true (N "\\")) (.str false t) ln buf ((p + 1 : Nat) : Int)) 6) (rtL wc buf R (x :: r).length k) := by
  have hz := sizeLine_eq
  rw [List.length_cons] at hl
  have hlt : r.length < (x :: r).length := Nat.lt_succ_self _
  refine Eq.mpr (rt_ea wc (N "") q (chr x) t ln buf _ _) ⟨by rw [chr_len]; exact Nat.succ_pos _, fun _ => ⟨by rw [chr_len]; omega, ?_⟩, fun h => by rw [chr_ne] at h; cases h⟩
  refine ⟨r.length, hlt, ord0 (rtJ.mk (m := .wd) rfl hp hd ?_ (by rw [Str.length_append, chr_len]; omega) (by simp) (by simp) (by simp))⟩
  simpa [readP, lexStep] using hr
theorem turn_ed (hx : x ∈ abc) (hp : p + 1 ≤ buf.length) (hd : buf.cps.toList.drop (p + 1) = r) (hr : readP .ed q t (x :: r) = some R) (hl : t.length + 2 * (x :: r).length ≤ 4000000) :
    evSs P41 (evN P41 39) (rtB.drop 2) (rtS (some (.bool false q)) (some (.str true (N "\""))) (some (.str false (chr x))) none (lexH wc (.str true (N "\\")) (.str false t) ln buf ((p + 1 : Nat) : Int)) 6) (rtL wc buf R (x :: r).length k) := by
  have hz := sizeLine_eq
  rw [List.length_cons] at hl
  have hlt : r.length < (x :: r).length := Nat.lt_succ_self _
  have hb : (N "\\").length = 1 := rfl
  refine Eq.mpr (rt_ed wc (N "") q (chr x) t ln buf _ _) ⟨by rw [chr_len]; exact Nat.succ_pos _, fun _ => ⟨fun h1 => ⟨fun h2 => ⟨by rw [hb]; omega, by rw [Str.length_append, chr_len, hb]; omega, ?_⟩, fun h2 => ⟨by rw [chr_len]; omega, ?_⟩⟩, fun h1 => ⟨by rw [chr_len]; omega, ?_⟩⟩, fun h => by rw [chr_ne] at h; cases h⟩
  · refine ⟨r.length, hlt, ord0 (rtJ.mk (m := .dq) rfl hp hd ?_ (by rw [Str.length_append, Str.length_append, chr_len, hb]; omega) (by simp) (by simp) (by simp))⟩
    simpa only [readP, lexStep, h1, h2, Bool.and_self, if_true] using hr
  · refine ⟨r.length, hlt, ord0 (rtJ.mk (m := .dq) rfl hp hd ?_ (by rw [Str.length_append, chr_len]; omega) (by simp) (by simp) (by simp))⟩
    simpa only [readP, lexStep, h1, h2, Bool.and_false, Bool.true_and, Bool.false_eq_true, if_false] using hr
  · refine ⟨r.length, hlt, ord0 (rtJ.mk (m := .dq) rfl hp hd ?_ (by rw [Str.length_append, chr_len]; omega) (by simp) (by simp) (by simp))⟩
    simpa only [readP, lexStep, h1, Bool.false_and, Bool.false_eq_true, if_false] using hr
theorem turn_dq (hx : x ∈ abc) (hp : p + 1 ≤ buf.length) (hd : buf.cps.toList.drop (p + 1) = r) (hr : readP .dq q t (x :: r) = some R) (hl : t.length + 2 * (x :: r).length ≤ 4000000) :
    evSs P41 (evN P41 39) (rtB.drop 2) (rtS (some (.bool false q)) (some (.str false e)) (some (.str false (chr x))) none (lexH wc (.str true (N "\"")) (.str false t) ln buf ((p + 1 : Nat) : Int)) 6) (rtL wc buf R (x :: r).length k) := by
  have hz := sizeLine_eq
  rw [List.length_cons] at hl
  have hlt : r.length < (x :: r).length := Nat.lt_succ_self _
  refine Eq.mpr (rt_dq wc e q (chr x) t ln buf _ _) ⟨by rw [chr_len]; exact Nat.succ_pos _, fun _ => ⟨fun h1 => ?_, fun h1 => ⟨fun h2 => ?_, fun h2 => ⟨by rw [chr_len]; omega, ?_⟩⟩⟩, fun h => by rw [chr_ne] at h; cases h⟩
  · refine ⟨r.length, hlt, ord0 (rtJ.mk (m := .wd) rfl hp hd ?_ (by omega) (by simp) (by simp) (by simp))⟩
    simpa only [readP, lexStep, h1, if_true] using hr
  · refine ⟨r.length, hlt, ord0 (rtJ.mk (m := .ed) (abc_B x hx h2) hp hd ?_ (by omega) (by simp) (by simp) (by simp))⟩
    simpa only [readP, lexStep, isB, h1, h2, Bool.false_eq_true, if_true, if_false] using hr
  · refine ⟨r.length, hlt, ord0 (rtJ.mk (m := .dq) rfl hp hd ?_ (by rw [Str.length_append, chr_len]; omega) (by simp) (by simp) (by simp))⟩
    simpa only [readP, lexStep, isB, h1, h2, Bool.false_eq_true, if_true, if_false] using hr
theorem turn_ws (hx : x ∈ abc) (hp : p + 1 ≤ buf.length) (hd : buf.cps.toList.drop (p + 1) = r) (hr : readP .ws false (N "") (x :: r) = some R) (hl : t.length + 2 * (x :: r).length ≤ 4000000) (hwc : isQ x = true → inS wc (chr x) = false) :
    evSs P41 (evN P41 39) (rtB.drop 2) (rtS (some (.bool true false)) (some (.str false e)) (some (.str false (chr x))) none (lexH wc (.str true (N " ")) (.str true (N "")) ln buf ((p + 1 : Nat) : Int)) 6) (rtL wc buf R (x :: r).length k) := by
  have hz := sizeLine_eq
  rw [List.length_cons] at hl
  have hlt : r.length < (x :: r).length := Nat.lt_succ_self _
  refine Eq.mpr (rt_ws wc e (chr x) ln buf _ _) ⟨by rw [chr_len]; exact Nat.succ_pos _, fun _ => ⟨fun h1 => ?_, fun h1 => ⟨fun h2 => (by rw [abc_E x hx] at h2; cases h2), fun h2 => ⟨fun h3 => ?_, fun h3 => ⟨fun h4 => ?_, fun h4 => ⟨fun h5 => (by rw [abc_E x hx] at h5; cases h5), fun h5 => ⟨fun h6 => ?_, fun h6 => ?_⟩⟩⟩⟩⟩⟩, fun h => by rw [chr_ne] at h; cases h⟩
  · refine ⟨r.length, hlt, ord0 (rtJ.mk (m := .ws) (q := false) rfl hp hd ?_ (by show 0 + _ ≤ _; omega) (by simp) (by simp) (by simp))⟩
    simpa only [readP, lexStep, isWs, h1, if_true] using hr
  · refine ⟨r.length, hlt, ord0 (rtJ.mk (m := .ea) (q := false) (abc_B x hx h3) hp hd ?_ (by show 0 + _ ≤ _; omega) (by simp) (by simp) (by simp))⟩
    simpa only [readP, lexStep, isWs, isB, h1, h3, Bool.false_eq_true, if_true, if_false] using hr
  · have hq : isQ x = false := by
      cases h : isQ x with
      | false => rfl
      | true => rw [hwc h] at h4; cases h4
    refine ⟨r.length, hlt, ord0 (rtJ.mk (m := .wd) (q := false) rfl hp hd ?_ (by rw [chr_len]; omega) (by simp) (by simp) (by simp))⟩
    simpa only [readP, lexStep, isWs, isB, h1, h3, hq, Bool.false_eq_true, if_true, if_false] using hr
  · obtain ⟨z1, z2, z3⟩ := qMd_ne x
    refine ⟨r.length, hlt, ord0 (rtJ.mk (m := qMd x) (q := false) (abc_Q x hx h6) hp hd ?_ (by show 0 + _ ≤ _; omega) (fun h => absurd h z1) (fun h => absurd h z2) (fun h => absurd h z3))⟩
    simpa only [readP, lexStep, isWs, isB, isQ, h1, h3, h6, Bool.false_eq_true, if_true, if_false] using hr
  · refine ⟨r.length, hlt, ord0 (rtJ.mk (m := .wd) (q := false) rfl hp hd ?_ (by rw [chr_len]; omega) (by simp) (by simp) (by simp))⟩
    simpa only [readP, lexStep, isWs, isB, isQ, h1, h3, h6, Bool.false_eq_true, if_true, if_false] using hr
theorem brk0 {c : Str} {b : Bool} {rest : List Nat} (hk : rtEnd wc buf R k) (hR : R = (tokOf q t, b, rest)) (hp : p ≤ buf.length) (hd : buf.cps.toList.drop p = rest) :
    rtK k .next (rtS (some (.bool false q)) (some (.str false e)) (some (.str false c)) none (lexH wc (endV b) (.str false t) ln buf p) 6) := by
  subst hR
  refine Eq.mpr (rt_end0 wc e q c t (endV b) ln buf p k) ⟨fun h => ?_, fun h => ⟨fun h2 => ?_, fun h2 => ?_⟩⟩
  · rw [show tokOf q t = some t by unfold tokOf; rw [h]; rfl] at hk
    exact hk _ [] 6 ln p (.inl ⟨rfl, rfl⟩) hp hd
  · rw [show tokOf q t = none by unfold tokOf; rw [h, h2]; rfl] at hk
    exact hk _ [] 6 ln p (.inl ⟨rfl, rfl⟩) hp hd
  · rw [show tokOf q t = some t by unfold tokOf; rw [h, h2]; rfl] at hk
    exact hk _ [] 6 ln p (.inl ⟨rfl, rfl⟩) hp hd
theorem brk1 {c : Str} {b : Bool} {rest : List Nat} (hk : rtEnd wc buf R k) (hR : R = (tokOf q t, b, rest)) (hp : p ≤ buf.length) (hd : buf.cps.toList.drop p = rest) :
    rtK k .next (rtS (some (.bool false q)) (some (.str false e)) (some (.str false c)) none (rtG ++ lexH wc (endV b) (.str false t) ln buf p) 7) := by
  subst hR
  refine Eq.mpr (rt_end1 wc e q c t (endV b) ln buf p k) ⟨fun h => ?_, fun h => ⟨fun h2 => ?_, fun h2 => ?_⟩⟩
  · rw [show tokOf q t = some t by unfold tokOf; rw [h]; rfl] at hk
    exact hk _ rtG 7 ln p (.inr ⟨rfl, rfl⟩) hp hd
  · rw [show tokOf q t = none by unfold tokOf; rw [h, h2]; rfl] at hk
    exact hk _ rtG 7 ln p (.inr ⟨rfl, rfl⟩) hp hd
  · rw [show tokOf q t = some t by unfold tokOf; rw [h, h2]; rfl] at hk
    exact hk _ rtG 7 ln p (.inr ⟨rfl, rfl⟩) hp hd
theorem t_empty {t : Str} (h : (t.length != 0) = false) : t = N "" := by
  have : t.length = 0 := by simpa using h
  apply Str.ext'
  exact Array.eq_empty_of_size_eq_zero this
theorem turn_wd (hk : rtEnd wc buf R k) (hx : x ∈ abc) (hp : p + 1 ≤ buf.length) (hd : buf.cps.toList.drop (p + 1) = r) (hr : readP .wd q t (x :: r) = some R) (hl : t.length + 2 * (x :: r).length ≤ 4000000) :
    evSs P41 (evN P41 39) (rtB.drop 2) (rtS (some (.bool false q)) (some (.str false e)) (some (.str false (chr x))) none (lexH wc (.str true (N "a")) (.str false t) ln buf ((p + 1 : Nat) : Int)) 6) (rtL wc buf R (x :: r).length k) := by
  have hz := sizeLine_eq
  rw [List.length_cons] at hl
  have hlt : r.length < (x :: r).length := Nat.lt_succ_self _
  refine Eq.mpr (rt_wd wc e q (chr x) t ln buf _ _) ⟨by rw [chr_len]; exact Nat.succ_pos _, fun _ => ⟨fun h1 => ⟨by omega, fun h2 => ?_, fun h2 => ⟨fun h3 => ?_, fun h3 => ?_⟩⟩, fun h1 => ⟨fun h2 => (by rw [abc_E x hx] at h2; cases h2), fun h2 => ⟨fun h3 => ?_, fun h3 => ⟨fun h4 => ?_, fun h4 => ⟨fun h5 => ⟨by rw [chr_len]; omega, ?_⟩, fun h5 => ⟨fun h6 => ⟨by rw [chr_len]; omega, ?_⟩, fun h6 => ⟨fun h7 => ⟨by rw [chr_len]; omega, ?_⟩, fun h7 => ?_⟩⟩⟩⟩⟩⟩⟩, fun h => by rw [chr_ne] at h; cases h⟩
  · have e1 : readP .wd q t (x :: r) = some (tokOf q t, false, r) := by simp only [readP, lexStep, isWs, h1, h2, Bool.true_or, if_true]
    rw [e1] at hr
    exact brk1 (b := false) hk (Option.some.inj hr).symm hp hd
  · have e1 : readP .wd q t (x :: r) = some (tokOf q t, false, r) := by simp only [readP, lexStep, isWs, h1, h2, h3, Bool.or_true, if_true]
    rw [e1] at hr
    exact brk1 (b := false) hk (Option.some.inj hr).symm hp hd
  · have te := t_empty h2
    refine ⟨r.length, hlt, ord1 (rtJ.mk (m := .ws) (q := q) rfl hp hd ?_ (by omega) (fun _ => ⟨h3, te⟩) (by simp) (by simp))⟩
    simp only [readP, lexStep, isWs, h1, h2, h3, Bool.or_self, Bool.false_eq_true, if_true, if_false] at hr
    rw [h3, te]; exact hr
  · obtain ⟨z1, z2, z3⟩ := qMd_ne x
    refine ⟨r.length, hlt, ord1 (rtJ.mk (m := qMd x) (q := q) (abc_Q x hx h3) hp hd ?_ (by omega) (fun h => absurd h z1) (fun h => absurd h z2) (fun h => absurd h z3))⟩
    simpa only [readP, lexStep, isWs, isB, isQ, h1, h3, Bool.false_eq_true, if_true, if_false] using hr
  · refine ⟨r.length, hlt, ord1 (rtJ.mk (m := .ea) (q := q) (abc_B x hx h4) hp hd ?_ (by omega) (by simp) (by simp) (by simp))⟩
    simpa only [readP, lexStep, isWs, isB, isQ, h1, h3, h4, Bool.false_eq_true, if_true, if_false] using hr
  · refine ⟨r.length, hlt, ord1 (rtJ.mk (m := .wd) (q := q) rfl hp hd ?_ (by rw [Str.length_append, chr_len]; omega) (by simp) (by simp) (by simp))⟩
    simpa only [readP, lexStep, isWs, isB, isQ, h1, h3, h4, Bool.false_eq_true, if_true, if_false] using hr
  · refine ⟨r.length, hlt, ord1 (rtJ.mk (m := .wd) (q := q) rfl hp hd ?_ (by rw [Str.length_append, chr_len]; omega) (by simp) (by simp) (by simp))⟩
    simpa only [readP, lexStep, isWs, isB, isQ, h1, h3, h4, Bool.false_eq_true, if_true, if_false] using hr
  · refine ⟨r.length, hlt, ord1 (rtJ.mk (m := .wd) (q := q) rfl hp hd ?_ (by rw [Str.length_append, chr_len]; omega) (by simp) (by simp) (by simp))⟩
    simpa only [readP, lexStep, isWs, isB, isQ, h1, h3, h4, Bool.false_eq_true, if_true, if_false] using hr
  · rw [abc_E x hx] at h7; cases h7
end
theorem rtB_cut : rtB = rtB.take 2 ++ rtB.drop 2 := by kernel_rfl
section
variable {wc buf : Str} {R : Option Str × Bool × List Nat} {k : Fl → St → Prop} {q : Bool} {t e : Str} {p x : Nat} {r : List Nat} {ln : Int}
theorem eof_ws (hk : rtEnd wc buf R k) (hp : p ≤ buf.length) (hd : buf.cps.toList.drop p = []) (hr : readP .ws false (N "") [] = some R) :
    evSs P41 (evN P41 39) (rtB.drop 2) (rtS (some (.bool true false)) (some (.str false e)) (some (.str false (N ""))) none (lexH wc (.str true (N " ")) (.str true (N "")) ln buf p) 6) (rtL wc buf R 0 k) := by
  have hz := sizeLine_eq
  have hc : (N "").length = 0 := rfl
  have hR : R = (none, true, []) := (Option.some.inj hr).symm
  subst hR
  refine Eq.mpr (rt_ws wc e (N "") ln buf _ _) ⟨by rw [hc]; exact Nat.zero_le _, fun h => (by rw [hc] at h; cases h), fun _ => ?_⟩
  exact Eq.mpr (rt_end2 wc e (N "") .none ln buf p k) (hk _ [] 6 ln p (.inl ⟨rfl, rfl⟩) hp hd)
theorem eof_wd (hk : rtEnd wc buf R k) (hp : p ≤ buf.length) (hd : buf.cps.toList.drop p = []) (hr : readP .wd q t [] = some R) :
    evSs P41 (evN P41 39) (rtB.drop 2) (rtS (some (.bool false q)) (some (.str false e)) (some (.str false (N ""))) none (lexH wc (.str true (N "a")) (.str false t) ln buf p) 6) (rtL wc buf R 0 k) := by
  have hz := sizeLine_eq
  have hc : (N "").length = 0 := rfl
  refine Eq.mpr (rt_wd wc e q (N "") t ln buf _ _) ⟨by rw [hc]; exact Nat.zero_le _, fun h => (by rw [hc] at h; cases h), fun _ => ?_⟩
  exact brk1 (b := true) hk (Option.some.inj hr).symm hp hd
theorem rt_loop (hz : buf.length ≤ 2000000) (habc : ∀ x ∈ buf.cps.toList, x ∈ abc) (hwc : ∀ x, isQ x = true → x ∈ abc → inS wc (chr x) = false) (hk : rtEnd wc buf R k) (hp : p ≤ buf.length) (h0 : readP .ws false (N "") (buf.cps.toList.drop p) = some R) :
    WhileVC P41 (evN P41 39) rtT rtB [] (rtS (some (.bool true false)) (some (.str true (N " "))) none none (lexH wc (.str true (N " ")) (.str true (N "")) ln buf p) 6) (rtK k) := by
  have hlen : (buf.cps.toList.drop p).length ≤ 2000000 := by
    rw [List.length_drop]
    have : buf.cps.toList.length = buf.length := by simp [Str.length]
    omega
  refine ⟨rtJ wc buf R, (buf.cps.toList.drop p).length, rtJ.mk (m := .ws) rfl hp rfl h0 (by show 0 + _ ≤ _; omega) (fun _ => ⟨rfl, rfl⟩) (by simp) (by simp), ?_⟩
  rintro n st ⟨m, q, t, e, p, rest, ln, qv, ev, sv, tv, rfl, hp, hd, hr, hl, i1, i2, i3, e1, e2, e3, e4, rfl⟩
  refine Eq.mpr (rt_test wc buf ln p qv ev sv tv _ _) ?_
  refine Seg.same (rtS (some (.bool false q)) (some (.str false e)) none none (lexH wc (.str false m.s) (.str false t) ln buf p) 6) (lex_same e1 e2 e3 e4 fun _ => rfl) ?_
  refine .cut _ _ _ rtB_cut (rt_read hz hp hd _) ?_
  rintro st1 ⟨ln', hst⟩
  cases rest with
  | nil =>
    dsimp only at hst
    subst hst
    cases m with
    | ws =>
      obtain ⟨rfl, rfl⟩ := i1 rfl
      exact .same (rtS (some (.bool true false)) (some (.str false e)) (some (.str false (N ""))) none (lexH wc (.str true (N " ")) (.str true (N "")) ln' buf p) 6) (lex_same (fun _ => rfl) (fun _ => rfl) (fun _ => rfl) (fun _ => rfl) fun _ => rfl) (.all (eof_ws hk hp hd hr))
    | wd => exact .same (rtS (some (.bool false q)) (some (.str false e)) (some (.str false (N ""))) none (lexH wc (.str true (N "a")) (.str false t) ln' buf p) 6) (lex_same (fun _ => rfl) (fun _ => rfl) (fun _ => rfl) (fun _ => rfl) fun _ => rfl) (.all (eof_wd hk hp hd hr))
    | _ => cases hr
  | cons x r =>
    dsimp only at hst
    subst hst
    have hlt := (slice_one hd).1
    have hx : x ∈ abc := habc x (List.mem_of_mem_drop (i := p) (by rw [hd]; exact .head _))
    have hp' : p + 1 ≤ buf.length := hlt
    have hd' : buf.cps.toList.drop (p + 1) = r := by rw [← List.tail_drop, hd]; rfl
    cases m with
    | ws =>
      obtain ⟨rfl, rfl⟩ := i1 rfl
      exact .same (rtS (some (.bool true false)) (some (.str false e)) (some (.str false (chr x))) none (lexH wc (.str true (N " ")) (.str true (N "")) ln' buf ((p + 1 : Nat) : Int)) 6) (lex_same (fun _ => rfl) (fun _ => rfl) (fun _ => rfl) (fun _ => rfl) fun _ => rfl) (.all (turn_ws (t := N "") hx hp' hd' hr hl fun h => hwc x h hx))
    | wd => exact .same (rtS (some (.bool false q)) (some (.str false e)) (some (.str false (chr x))) none (lexH wc (.str true (N "a")) (.str false t) ln' buf ((p + 1 : Nat) : Int)) 6) (lex_same (fun _ => rfl) (fun _ => rfl) (fun _ => rfl) (fun _ => rfl) fun _ => rfl) (.all (turn_wd hk hx hp' hd' hr hl))
    | sq => exact .same (rtS (some (.bool false q)) (some (.str false e)) (some (.str false (chr x))) none (lexH wc (.str true (N "'")) (.str false t) ln' buf ((p + 1 : Nat) : Int)) 6) (lex_same (fun _ => rfl) (fun _ => rfl) (fun _ => rfl) (fun _ => rfl) fun _ => rfl) (.all (turn_sq hx hp' hd' hr hl))
    | dq => exact .same (rtS (some (.bool false q)) (some (.str false e)) (some (.str false (chr x))) none (lexH wc (.str true (N "\"")) (.str false t) ln' buf ((p + 1 : Nat) : Int)) 6) (lex_same (fun _ => rfl) (fun _ => rfl) (fun _ => rfl) (fun _ => rfl) fun _ => rfl) (.all (turn_dq hx hp' hd' hr hl))
    | ea =>
      have := i2 rfl
      subst this
      exact .same (rtS (some (.bool false q)) (some (.str true (N "a"))) (some (.str false (chr x))) none (lexH wc (.str true (N "\\")) (.str false t) ln' buf ((p + 1 : Nat) : Int)) 6) (lex_same (fun _ => rfl) (fun _ => rfl) (fun _ => rfl) (fun _ => rfl) fun _ => rfl) (.all (turn_ea hx hp' hd' hr hl))
    | ed =>
      have := i3 rfl
      subst this
      exact .same (rtS (some (.bool false q)) (some (.str true (N "\""))) (some (.str false (chr x))) none (lexH wc (.str true (N "\\")) (.str false t) ln' buf ((p + 1 : Nat) : Int)) 6) (lex_same (fun _ => rfl) (fun _ => rfl) (fun _ => rfl) (fun _ => rfl) fun _ => rfl) (.all (turn_ed hx hp' hd' hr hl))
end
structure LexOk (wc buf : Str) : Prop where
  hz : buf.length ≤ 2000000
  habc : ∀ x ∈ buf.cps.toList, x ∈ abc
  hwc : ∀ x, isQ x = true → x ∈ abc → inS wc (chr x) = false
noncomputable def rtC (vs : List V) (st : St) (k : K1) : Prop :=
  vs = [.loc 0] ∧ st.nx = 6 ∧ st.ok = true ∧ ∃ (wc buf : Str) (ln : Int) (p : Nat) (R : Option Str × Bool × List Nat), st.h = lexH wc (.str true (N " ")) (.str true (N "")) ln buf p ∧ LexOk wc buf ∧ p ≤ buf.length ∧ readP .ws false (N "") (buf.cps.toList.drop p) = some R ∧
    ∀ (ln' : Int) (p' : Nat) (g : List (Nat × O)) (nx : Nat), (g = [] ∧ nx = 6 ∨ g = rtG ∧ nx = 7) → p' ≤ buf.length → buf.cps.toList.drop p' = R.2.2 → k (rtok R.1) { st with h := g ++ lexH wc (endV R.2.1) (.str true (N "")) ln' buf p', nx := nx }
noncomputable def rtM : List (Str × Option V) := [(N "self", some (.loc 0)), (N "quoted", none), (N "escapedstate", none), (N "nextchar", none), (N "result", none)]
theorem rtC_inl {vs : List V} {st : St} {k : K1} (h : rtC vs st k) : inl c10 J0 (memSt 41 6) rtM st k := by
  obtain ⟨rfl, hnx, hok, wc, buf, ln, p, R, hh, L, hp, hr, hk⟩ := h
  obtain ⟨m, c, h, nx⟩ := st
  dsimp only at hnx hh hk
  subst hnx hh
  unfold inl
  rw [hok]
  refine Eq.mpr (rt_start wc ln buf p (fun f st' => chk (Nat.ble 6 st'.nx) (k (retV f) ⟨m, c, st'.h, st'.nx⟩))) (rt_loop L.hz L.habc L.hwc ?_ hp hr)
  rintro m' g nx ln' p' (⟨rfl, rfl⟩ | ⟨rfl, rfl⟩) hp' hd'
  · exact hk ln' p' [] 6 (.inl ⟨rfl, rfl⟩) hp' hd'
  · exact hk ln' p' rtG 7 (.inr ⟨rfl, rfl⟩) hp' hd'
noncomputable def c11 : CT := cAdd 808 rtC c10
theorem c11_ok (w : World) (os : OsState) : CTok w os 11 c11 := by
  refine cAdd_ok ((c10_ok w os).le (by decide)) ?_
  intro vs st k h c e1 e2 ok ρ us ht
  have hvs := h.1
  subst hvs
  refine inl_ok (kw := []) (f_readTok w) (c10_ok w os) (by decide) (Nat.le_refl _) (m0 := rtM) (by kernel_rfl) (fun ρ us ks h hk => ?_) (rtC_inl h) e1 e2 ok ht .nil
  obtain ⟨v1, rfl, t1⟩ := h.inv1; have hk := hk.inv0; subst hk
  exact ⟨[(N "self", v1)], fun S => by kernel_rfl, by kernel_rfl, .yes (by kernel_rfl) t1 (.no (.no (.no (.no .nil))))⟩
noncomputable abbrev P41g : Pm := pm c11 (memSt 41 5) 6
noncomputable def gtB : List Stmt := bodyOf (memSt 41 5)
noncomputable def gtS (raw : Option V) (h : List (Nat × O)) (nx : Nat) : St := ⟨[(N "self", some (.loc 0)), (N "tok", none), (N "raw", raw), (N "spec", none), (N "newfile", none), (N "newstream", none)], [], h, nx⟩
theorem gt_start (wc buf : Str) (ln p : Int) (k : Fl → St → Prop) : evSs P41g (evN P41g J0) gtB (gtS none (lexH wc (.str true (N " ")) (.str true (N "")) ln buf p) 6) k =
  rtC [.loc 0] (gtS none (lexH wc (.str true (N " ")) (.str true (N "")) ln buf p) 6) (fun v st1 => bindN P41g (N "raw") v st1 fun st2 => evSs P41g (evN P41g J0) (gtB.drop 2) st2 k) := by kernel_rfl
noncomputable def gtW : Expr := whT (nth gtB 3)
noncomputable def gtL (k : Fl → St → Prop) (v : V) (h : List (Nat × O)) (nx : Nat) : Prop := WhileVC P41g (evN P41g 39) gtW (inner (nth gtB 3)) [] (gtS (some v) h nx) (seqK P41g (evN P41g 40) (gtB.drop 4) k)
theorem gt_mid0 (wc buf : Str) (v sv : V) (ln p : Int) (k : Fl → St → Prop) : (bindN P41g (N "raw") v (gtS none (lexH wc sv (.str true (N "")) ln buf p) 6) fun st2 => evSs P41g (evN P41g J0) (gtB.drop 2) st2 k) = gtL k v (lexH wc sv (.str true (N "")) ln buf p) 6 := by kernel_rfl
theorem gt_mid1 (wc buf : Str) (v sv : V) (ln p : Int) (k : Fl → St → Prop) : (bindN P41g (N "raw") v (gtS none (rtG ++ lexH wc sv (.str true (N "")) ln buf p) 7) fun st2 => evSs P41g (evN P41g J0) (gtB.drop 2) st2 k) = gtL k v (rtG ++ lexH wc sv (.str true (N "")) ln buf p) 7 := by kernel_rfl
noncomputable def gtT (J : Nat → St → Prop) (n : Nat) (k : Fl → St → Prop) (st : St) : Prop := chk (Nat.ble P41g.pn st.nx) ((evN P41g 39).t gtW st fun c st1 => match c with
    | true => Seg P41g (evN P41g 39) (loopK P41g J n (seqK P41g (evN P41g 40) (gtB.drop 4) k)) (inner (nth gtB 3)) st1
    | false => evSs P41g (evN P41g 39) [] st1 (seqK P41g (evN P41g 40) (gtB.drop 4) k))
theorem gt_str0 (J : Nat → St → Prop) (n : Nat) (wc buf t : Str) (sv : V) (ln p : Int) (k : Fl → St → Prop) : gtT J n k (gtS (some (.str false t)) (lexH wc sv (.str true (N "")) ln buf p) 6) = k (.ret (.str false t)) (gtS (some (.str false t)) (lexH wc sv (.str true (N "")) ln buf p) 6) := by kernel_rfl
theorem gt_str1 (J : Nat → St → Prop) (n : Nat) (wc buf t : Str) (sv : V) (ln p : Int) (k : Fl → St → Prop) : gtT J n k (gtS (some (.str false t)) (rtG ++ lexH wc sv (.str true (N "")) ln buf p) 7) = k (.ret (.str false t)) (gtS (some (.str false t)) (rtG ++ lexH wc sv (.str true (N "")) ln buf p) 7) := by kernel_rfl
theorem gt_non0 (J : Nat → St → Prop) (n : Nat) (wc buf : Str) (sv : V) (ln p : Int) (k : Fl → St → Prop) : gtT J n k (gtS (some .none) (lexH wc sv (.str true (N "")) ln buf p) 6) = Seg P41g (evN P41g 39) (loopK P41g J n (seqK P41g (evN P41g 40) (gtB.drop 4) k)) (inner (nth gtB 3)) (gtS (some .none) (lexH wc sv (.str true (N "")) ln buf p) 6) := by kernel_rfl
theorem gt_non1 (J : Nat → St → Prop) (n : Nat) (wc buf : Str) (sv : V) (ln p : Int) (k : Fl → St → Prop) : gtT J n k (gtS (some .none) (rtG ++ lexH wc sv (.str true (N "")) ln buf p) 7) = Seg P41g (evN P41g 39) (loopK P41g J n (seqK P41g (evN P41g 40) (gtB.drop 4) k)) (inner (nth gtB 3)) (gtS (some .none) (rtG ++ lexH wc sv (.str true (N "")) ln buf p) 7) := by kernel_rfl
theorem gt_ret0 (J : Nat → St → Prop) (n : Nat) (wc buf : Str) (sv : V) (ln p : Int) (k : Fl → St → Prop) : evSs P41g (evN P41g 39) (inner (nth gtB 3)) (gtS (some .none) (lexH wc sv (.str true (N "")) ln buf p) 6) (loopK P41g J n (seqK P41g (evN P41g 40) (gtB.drop 4) k)) = k (.ret .none) (gtS (some .none) (lexH wc sv (.str true (N "")) ln buf p) 6) := by kernel_rfl
theorem gt_ret1 (J : Nat → St → Prop) (n : Nat) (wc buf : Str) (sv : V) (ln p : Int) (k : Fl → St → Prop) : evSs P41g (evN P41g 39) (inner (nth gtB 3)) (gtS (some .none) (rtG ++ lexH wc sv (.str true (N "")) ln buf p) 7) (loopK P41g J n (seqK P41g (evN P41g 40) (gtB.drop 4) k)) = k (.ret .none) (gtS (some .none) (rtG ++ lexH wc sv (.str true (N "")) ln buf p) 7) := by kernel_rfl
theorem gt_go0 {wc buf : Str} {sv : V} {ln p : Int} {k : Fl → St → Prop} (o : Option Str) (hk : ∀ m, k (.ret (rtok o)) ⟨m, [], lexH wc sv (.str true (N "")) ln buf p, 6⟩) :
    bindN P41g (N "raw") (rtok o) (gtS none (lexH wc sv (.str true (N "")) ln buf p) 6) fun st2 => evSs P41g (evN P41g J0) (gtB.drop 2) st2 k := by
  refine Eq.mpr (gt_mid0 wc buf (rtok o) sv ln p k) ⟨fun _ st => st = gtS (some (rtok o)) (lexH wc sv (.str true (N "")) ln buf p) 6, 0, rfl, ?_⟩
  rintro n st rfl
  cases o with
  | none => exact Eq.mpr (gt_non0 _ n wc buf sv ln p k) (.all (Eq.mpr (gt_ret0 _ n wc buf sv ln p k) (hk _)))
  | some t => exact Eq.mpr (gt_str0 _ n wc buf t sv ln p k) (hk _)
theorem gt_go1 {wc buf : Str} {sv : V} {ln p : Int} {k : Fl → St → Prop} (o : Option Str) (hk : ∀ m, k (.ret (rtok o)) ⟨m, [], rtG ++ lexH wc sv (.str true (N "")) ln buf p, 7⟩) :
    bindN P41g (N "raw") (rtok o) (gtS none (rtG ++ lexH wc sv (.str true (N "")) ln buf p) 7) fun st2 => evSs P41g (evN P41g J0) (gtB.drop 2) st2 k := by
  refine Eq.mpr (gt_mid1 wc buf (rtok o) sv ln p k) ⟨fun _ st => st = gtS (some (rtok o)) (rtG ++ lexH wc sv (.str true (N "")) ln buf p) 7, 0, rfl, ?_⟩
  rintro n st rfl
  cases o with
  | none => exact Eq.mpr (gt_non1 _ n wc buf sv ln p k) (.all (Eq.mpr (gt_ret1 _ n wc buf sv ln p k) (hk _)))
  | some t => exact Eq.mpr (gt_str1 _ n wc buf t sv ln p k) (hk _)
noncomputable def gtM : List (Str × Option V) := [(N "self", some (.loc 0)), (N "tok", none), (N "raw", none), (N "spec", none), (N "newfile", none), (N "newstream", none)]
theorem gtC_inl {vs : List V} {st : St} {k : K1} (h : rtC vs st k) : inl c11 J0 (memSt 41 5) gtM st k := by
  obtain ⟨rfl, hnx, hok, wc, buf, ln, p, R, hh, L, hp, hr, hk⟩ := h
  obtain ⟨m, c, h, nx⟩ := st
  dsimp only at hnx hh hk
  subst hnx hh
  unfold inl
  rw [hok]
  refine Eq.mpr (gt_start wc buf ln p (fun f st' => chk (Nat.ble 6 st'.nx) (k (retV f) ⟨m, c, st'.h, st'.nx⟩))) ⟨rfl, rfl, by kernel_rfl, wc, buf, ln, p, R, rfl, L, hp, hr, ?_⟩
  rintro ln' p' g nx (⟨rfl, rfl⟩ | ⟨rfl, rfl⟩) hp' hd'
  · exact gt_go0 R.1 fun m' => hk ln' p' [] 6 (.inl ⟨rfl, rfl⟩) hp' hd'
  · exact gt_go1 R.1 fun m' => hk ln' p' rtG 7 (.inr ⟨rfl, rfl⟩) hp' hd'
noncomputable def c12 : CT := cAdd 801 rtC c11
theorem c12_ok (w : World) (os : OsState) : CTok w os 12 c12 := by
  refine cAdd_ok ((c11_ok w os).le (by decide)) ?_
  intro vs st k h c e1 e2 ok ρ us ht
  have hvs := h.1
  subst hvs
  refine inl_ok (kw := []) (f_getTok w) (c11_ok w os) (by decide) (Nat.le_refl _) (m0 := gtM) (by kernel_rfl) (fun ρ us ks h hk => ?_) (gtC_inl h) e1 e2 ok ht .nil
  obtain ⟨v1, rfl, t1⟩ := h.inv1; have hk := hk.inv0; subst hk
  exact ⟨[(N "self", v1)], fun S => by kernel_rfl, by kernel_rfl, .yes (by kernel_rfl) t1 (.no (.no (.no (.no (.no .nil)))))⟩
inductive Frs : List Env → List (Addr × Loc) → Prop
  | nil : Frs [] []
  | cons {env : Env} {l : List Env} {L : Addr} {m : Loc} {fs : List (Addr × Loc)} : env.scope.kind ≠ .module → env.frame = some L → Frs l fs → Frs (env :: l) ((L, m) :: fs)
noncomputable def frS (fs : List (Addr × Loc)) : Sto := fs.map fun p => (p.1, AO.ns p.2)
theorem Frs.fun {l : List Env} {fs : List (Addr × Loc)} {h base : Heap} (F : Frs l fs) (H : ∀ p ∈ fs, base.get? p.1 = none ∧ ∃ o es ep, h.get? p.1 = some o ∧ o.data = .dict es ep) : h.FunFrames base l := by
  induction F with
  | nil => trivial
  | cons h1 h2 _ ih =>
    obtain ⟨a, o, es, ep, b, d⟩ := H _ (.head _)
    exact ⟨h1, ⟨_, o, h2, a, b, fun vs q => by rw [d] at q; cases q⟩, ih fun p hp => H p (.tail _ hp)⟩
section
variable {w : World} {os : OsState} {g : Heap} {fs : List (Addr × Loc)} {σ : Sto} {s : Shared}
theorem Sr0.frame_at (z : Sr0 w os g (frS fs ++ σ) s) {p : Addr × Loc} (hp : p ∈ fs) : g.get? p.1 = none ∧ ∃ o es ep, s.heap.get? p.1 = some o ∧ o.data = .dict es ep := by
  obtain ⟨h1, o, ho, _, es, ep, hd, _⟩ := z.hr.own (p.1, .ns p.2) (List.mem_append_left _ (List.mem_map_of_mem (f := fun p : Addr × Loc => (p.1, AO.ns p.2)) hp))
  exact ⟨h1, o, es, ep, ho, hd⟩
theorem frS_addrs : (frS fs).map (·.1) = fs.map (·.1) := by unfold frS; rw [List.map_map]; rfl
theorem Sr0.slots (z : Sr0 w os g (frS fs ++ σ) s) {h' : Heap} (k1 : (hideAll s.heap (fs.map (·.1))).StaysIn h') (k2 : s.heap.UpToSlots h') : Sr0 w os g (frS fs ++ σ) { s with heap := h' } := by
  have nfs : ∀ b o, g.get? b = some o → b ∉ fs.map (·.1) := fun b o e hm => by
    obtain ⟨p, hp, rfl⟩ := List.mem_map.mp hm
    have := (z.frame_at hp).1
    rw [this] at e; cases e
  have nd := z.hr.nd
  rw [List.map_append, List.nodup_append, frS_addrs] at nd
  obtain ⟨_, _, dis⟩ := nd
  refine ⟨⟨fun b o e => k1 b o (hideAll_get _ (z.hr.keep b o e) (nfs b o e)), fun p hp => ?_, z.hr.nd⟩, z.gens, z.os⟩
  obtain ⟨h1, o, ho, hi⟩ := z.hr.own p hp
  refine ⟨h1, ?_⟩
  rcases List.mem_append.mp hp with q | q
  · obtain ⟨r, hr, rfl⟩ := List.mem_map.mp q
    obtain ⟨nd, es, ep, hd, hk, hv⟩ := hi
    obtain ⟨sl, e⟩ := k2 _ o ho fun vs q => by rw [hd] at q; cases q
    exact ⟨_, e, nd, es, ep, hd, hk, hv⟩
  · exact ⟨o, k1 _ o (hideAll_get _ ho fun hm => dis _ hm _ (List.mem_map_of_mem q) rfl), hi⟩
theorem leave_first {M : Model} {A : Around} {E : Value → Shared → Prop} {env : Env} {outer : List Env} {L e : Addr} {cls : String} {h₁ : Heap} {Q : Unit → Shared → Prop} (z : Sr0 w os g (frS fs ++ σ) s) (hx : Heap.MadeExc s.heap h₁ e cls [])
    (hfr : A.frames = some (env :: outer)) (F : Frs (env :: outer) fs) (hf : env.frame = some L)
    (h : ∀ h', Sr0 w os g (frS fs ++ σ) { s with heap := h' } → (∃ ob, h'.get? e = some ob ∧ ob.cls = .type cls) → Q () { s with heap := h' }) : wpAny M A (leaving env (.ref e)) Q E { s with heap := h₁ } := by
  obtain ⟨t, he, -, -⟩ := hx.there
  refine wpAny_leaving_firstW (s := { s with heap := h₁ }) (base := hideAll s.heap (fs.map (·.1))) (a0 := .ref t) hfr (F.fun fun p hp => ⟨hideAll_none _ (List.mem_map_of_mem hp), ?_⟩) hf he (fun b o q => hx.keeps b o (of_hideAll _ q)) ?_ rfl rfl rfl fun h' hL => ?_
  · obtain ⟨_, o, es, ep, ho, hd⟩ := z.frame_at hp
    exact ⟨o, es, ep, hx.keeps _ _ ho, hd⟩
  · cases q : (hideAll s.heap (fs.map (·.1))).get? e with
    | none => rfl
    | some o => have := of_hideAll _ q; rw [hx.new] at this; cases this
  · obtain ⟨k1, _, ⟨oe, _, _, _, _, q1, q2, _⟩, k4⟩ := hL
    exact h h' (z.slots k1 ((Heap.UpToSlots.of_keeps hx.keeps).trans k4)) ⟨oe, q1, q2.1⟩
end
theorem raise_stop {c : Fx} {n : Nat} {sc : Scope} {m : Loc} {σ : Sto} {x : Str} {np pos : Pos} {Q : Flow → Loc → Sto → Prop} (ok : c.Ok n) (hk : sc.kind = .function) (hl : sc.names.lookup x = some .globalImplicit) (hx : x = N "StopIteration")
    (h : ∀ s h₁ e, Sr c.w c.os c.g ((c.L, .ns m) :: σ) s → Heap.MadeExc s.heap h₁ e "StopIteration" [] → c.E (.ref e) { s with heap := h₁ }) : W1 c sc (.Raise (some (.Name x np)) none pos) m σ Q := by
  intro s hs
  subst hx
  obtain ⟨e1, e2, e3, e4⟩ := BV.vStopIteration.ok c.w
  refine owsi_raiseC ok.hh ?_ fun h₁ e hm => h s h₁ e hs hm
  refine Name_function_global hk hl ?_ e4
  unfold loadGlobal
  refine wpAny_bind (Looks.here (looks_nsIn (hs.bg ok.bg).kk e1) ?_)
  obtain ⟨mb, h1, h2⟩ := (hs.bg ok.bg).bn
  refine wpAny_bind (wpAny_nsGet h1 ?_)
  rw [h2 _ e3, e2]
  exact wpAny_pure ⟨rfl, rfl⟩
theorem call_open {w : World} {os : OsState} {n : Nat} {fa : Addr} {st : Stmt} (F : FOk w fa st) {A : Around} {g : Heap} {σ : Sto} {s : Shared} {a : Args} {binds : List (Str × Value)} {m₀ : Loc} {R : Result → Shared → Prop} (b : Bg w g) (r : Room (n + 1) A) (hh : A.handled = none) (hs : Sr w os g σ s)
    (hbi : BindsTo s (fdAt w fa) a binds) (hloc : (binds.all (fun x => (scopeOf st).names.lookup x.1 == some .local)) = true) (hbm : BLoc binds m₀) (hnd : decide ((m₀.map (·.1)).Nodup) = true)
    (h : ∀ c : Fx, c.w = w → c.os = os → c.g = g → c.cl = [] → c.Ok n → c.A = A.deeper (c.env (scopeOf st)) → c.fr = some c.L → (∀ e s', wpAny (MM w) c.A (leaving (c.env (scopeOf st)) e) (fun _ s'' => R (.error e) s'') (fun e' s'' => R (.error e') s'') s' → c.E e s') →
      Wx c (scopeOf st) (bodyOf st) m₀ σ (fun f m' σ' => ∀ u s', Teq (retOf f) u → Sr0 w os g ((c.L, .ns m') :: σ') s' → R (.ok (.ret u)) s')) : codeAny (MM w) A (.call (.ref fa) a) R s := by
  have X := (hs.bg b).kk
  have hcell : ∀ x ∈ (fdAt w fa).scope.names, x.2 ≠ .cell := by
    rw [F.hsc]
    intro x hx e
    have := List.all_eq_true.mp F.hcell x hx
    rw [e] at this; exact absurd this (by decide)
  refine (codeAny_call_def (fd := fdAt w fa) (body := bodyOf st) (binds := binds) (by unfold Room at r; omega) (X _ _ F.ho) rfl (hs.bg b).nolim (codeRec_of X F.hcd) F.hbody hbi hcell (by rw [F.hsc]; exact fun x hx => eq_of_beq (List.all_eq_true.mp hloc x hx)) (fun h₁ hns hk₁ => ?_) (by rw [F.hsc]; exact F.hco) (by rw [F.hsc]; exact F.hgen) (by rw [F.hsc]; exact F.hk))
  have ee : Fx.env (fxD w A g os s.heap.objs.size fa (fdAt w fa) fun e s'' => R (.error e) s'') (scopeOf st) = callEnv (fdAt w fa) s.heap.objs.size fa := by
    unfold fxD
    rw [← F.hsc]
    show _ = newEnv _ _ _ _ _ _ _ _ _
    unfold newEnv Fx.env
    rw [F.g1, F.g2, F.g3]
  have hwp := h (fxD w A g os s.heap.objs.size fa (fdAt w fa) fun e s'' => R (.error e) s'') rfl rfl rfl rfl
    ⟨b, hh, by show A.depth + 1 + 2 * n < recursionLimit ∧ A.units + 3 + 30 * n < cLine; unfold Room at r; omega⟩ (by rw [ee]; rfl) rfl (fun e s' q => by rw [ee] at q; exact q) { s with heap := h₁, toks := s.toks + binds.length } ?_
  · rw [ee] at hwp
    refine wpm hwp (fun f s' f' m' σ' t1 h1 hs1 => ?_) fun _ _ e => e
    cases t1 with
    | ret t => exact h1 _ s' t hs1
    | next => exact h1 _ s' (.same _) hs1
    | brk => exact h1 _ s' (.same _) hs1
    | cont => exact h1 _ s' (.same _) hs1
  · exact hs.enter hns hk₁ (of_decide_eq_true hnd) hbm.all _
theorem rn_start (wc : Str) (ln : Int) (buf : Str) (pos : Int) (k : Fl → St → Prop) : evSs P41 (evN P41 J0) (bodyOf (memSt 41 6)) (rtS none none none none (lexH wc .none (.str true (N "")) ln buf pos) 6) k =
  WhileVC P41 (evN P41 39) rtT rtB [] (rtS (some (.bool true false)) (some (.str true (N " "))) none none (lexH wc .none (.str true (N "")) ln buf pos) 6) (seqK P41 (evN P41 40) ((bodyOf (memSt 41 6)).drop 3) k) := by kernel_rfl
theorem rn_test (wc buf : Str) (ln p : Int) (K K2 : Fl → St → Prop) : chk (Nat.ble P41.pn (rtS (some (.bool true false)) (some (.str true (N " "))) none none (lexH wc .none (.str true (N "")) ln buf p) 6).nx) ((evN P41 39).t rtT (rtS (some (.bool true false)) (some (.str true (N " "))) none none (lexH wc .none (.str true (N "")) ln buf p) 6) fun c st1 => match c with
    | true => Seg P41 (evN P41 39) K rtB st1
    | false => evSs P41 (evN P41 39) [] st1 K2) = Seg P41 (evN P41 39) K rtB (rtS (some (.bool true false)) (some (.str true (N " "))) none none (lexH wc .none (.str true (N "")) ln buf p) 6) := by kernel_rfl
theorem rn_turn (wc : Str) (ln : Int) (buf : Str) (pos : Int) (k : Fl → St → Prop) : evSs P41 (evN P41 39) rtB (rtS (some (.bool true false)) (some (.str true (N " "))) none none (lexH wc .none (.str true (N "")) ln buf pos) 6) k =
  ((buf.length ≤ sizeLine) ∧ ((((Decidable.decide ((buf.length : Int) ≤ pos)) = true) → k .brk (rtS (some (.bool true false)) (some (.str true (N " "))) (some (.str true (N ""))) none (lexH wc .none (.str true (N "")) ln buf pos) 6)) ∧
   (((Decidable.decide ((buf.length : Int) ≤ pos)) = false) →
     ((((Decidable.decide ((pos + 1) < (buf.length : Int))) = true) →
       ((buf.length ≤ sizeLine) ∧
       (((((Txt.slice buf (some pos) (some (pos + 1))) == (N "\n")) = true) →
          k .brk (rtS (some (.bool true false)) (some (.str true (N " "))) (some (.str false (Txt.slice buf (some pos) (some (pos + 1))))) none (lexH wc .none (.str true (N "")) (ln + 1) buf (pos + 1)) 6)) ∧
        ((((Txt.slice buf (some pos) (some (pos + 1))) == (N "\n")) = false) →
          k .brk (rtS (some (.bool true false)) (some (.str true (N " "))) (some (.str false (Txt.slice buf (some pos) (some (pos + 1))))) none (lexH wc .none (.str true (N "")) ln buf (pos + 1)) 6))))) ∧
     (((Decidable.decide ((pos + 1) < (buf.length : Int))) = false) →
       ((buf.length ≤ sizeLine) ∧
       (((((Txt.slice buf (some pos) (some (buf.length : Int))) == (N "\n")) = true) →
          k .brk (rtS (some (.bool true false)) (some (.str true (N " "))) (some (.str false (Txt.slice buf (some pos) (some (buf.length : Int))))) none (lexH wc .none (.str true (N "")) (ln + 1) buf (buf.length : Int)) 6)) ∧
        ((((Txt.slice buf (some pos) (some (buf.length : Int))) == (N "\n")) = false) →
          k .brk (rtS (some (.bool true false)) (some (.str true (N " "))) (some (.str false (Txt.slice buf (some pos) (some (buf.length : Int))))) none (lexH wc .none (.str true (N "")) ln buf (buf.length : Int)) 6)))))))) ) := by kernel_rfl
theorem rn_end (wc : Str) (ln : Int) (buf : Str) (pos : Int) (k : Fl → St → Prop) : (seqK P41 (evN P41 40) ((bodyOf (memSt 41 6)).drop 3) k) .next (rtS (some (.bool true false)) (some (.str true (N " "))) (some (.str true (N ""))) none (lexH wc .none (.str true (N "")) ln buf pos) 6) =
  k (.ret .none) (rtS (some (.bool true false)) (some (.str true (N " "))) (some (.str true (N ""))) (some .none) (lexH wc .none (.str true (N "")) ln buf pos) 6) := by kernel_rfl
noncomputable def rnC (vs : List V) (st : St) (k : K1) : Prop :=
  vs = [.loc 0] ∧ st.nx = 6 ∧ st.ok = true ∧ ∃ (wc buf : Str) (ln : Int), st.h = lexH wc .none (.str true (N "")) ln buf buf.length ∧ buf.length ≤ 2000000 ∧ k .none st
theorem rnC_inl {vs : List V} {st : St} {k : K1} (h : rnC vs st k) : inl c10 J0 (memSt 41 6) rtM st k := by
  obtain ⟨rfl, hnx, hok, wc, buf, ln, hh, hz, hk⟩ := h
  obtain ⟨m, c, h, nx⟩ := st
  dsimp only at hnx hh
  subst hnx hh
  unfold inl
  rw [hok]
  refine Eq.mpr (rn_start wc ln buf buf.length (fun f st' => chk (Nat.ble 6 st'.nx) (k (retV f) ⟨m, c, st'.h, st'.nx⟩))) ⟨fun _ st => st = rtS (some (.bool true false)) (some (.str true (N " "))) none none (lexH wc .none (.str true (N "")) ln buf buf.length) 6, 0, rfl, ?_⟩
  rintro n st rfl
  refine Eq.mpr (rn_test wc buf ln buf.length _ _) (.all (Eq.mpr (rn_turn wc ln buf buf.length _) ⟨by exact sz (by assumption) rfl, fun _ => ?_, fun h => ?_⟩))
  · exact Eq.mpr (rn_end wc ln buf buf.length _) hk
  · have := of_decide_eq_false h; omega
noncomputable def c11n : CT := cAdd 808 rnC c10
theorem c11n_ok (w : World) (os : OsState) : CTok w os 11 c11n := by
  refine cAdd_ok ((c10_ok w os).le (by decide)) ?_
  intro vs st k h c e1 e2 ok ρ us ht
  have hvs := h.1
  subst hvs
  refine inl_ok (kw := []) (f_readTok w) (c10_ok w os) (by decide) (Nat.le_refl _) (m0 := rtM) (by kernel_rfl) (fun ρ us ks h hk => ?_) (rnC_inl h) e1 e2 ok ht .nil
  obtain ⟨v1, rfl, t1⟩ := h.inv1; have hk := hk.inv0; subst hk
  exact ⟨[(N "self", v1)], fun S => by kernel_rfl, by kernel_rfl, .yes (by kernel_rfl) t1 (.no (.no (.no (.no .nil))))⟩
noncomputable abbrev P41gn : Pm := pm c11n (memSt 41 5) 6
theorem gn_start (wc buf : Str) (ln p : Int) (k : Fl → St → Prop) : evSs P41gn (evN P41gn J0) gtB (gtS none (lexH wc .none (.str true (N "")) ln buf p) 6) k =
  rnC [.loc 0] (gtS none (lexH wc .none (.str true (N "")) ln buf p) 6) (fun v st1 => bindN P41gn (N "raw") v st1 fun st2 => evSs P41gn (evN P41gn J0) (gtB.drop 2) st2 k) := by kernel_rfl
noncomputable def gnL (k : Fl → St → Prop) (v : V) (h : List (Nat × O)) (nx : Nat) : Prop := WhileVC P41gn (evN P41gn 39) gtW (inner (nth gtB 3)) [] (gtS (some v) h nx) (seqK P41gn (evN P41gn 40) (gtB.drop 4) k)
theorem gn_mid (wc buf : Str) (ln p : Int) (k : Fl → St → Prop) : (bindN P41gn (N "raw") .none (gtS none (lexH wc .none (.str true (N "")) ln buf p) 6) fun st2 => evSs P41gn (evN P41gn J0) (gtB.drop 2) st2 k) = gnL k .none (lexH wc .none (.str true (N "")) ln buf p) 6 := by kernel_rfl
noncomputable def gnT (J : Nat → St → Prop) (n : Nat) (k : Fl → St → Prop) (st : St) : Prop := chk (Nat.ble P41gn.pn st.nx) ((evN P41gn 39).t gtW st fun c st1 => match c with
    | true => Seg P41gn (evN P41gn 39) (loopK P41gn J n (seqK P41gn (evN P41gn 40) (gtB.drop 4) k)) (inner (nth gtB 3)) st1
    | false => evSs P41gn (evN P41gn 39) [] st1 (seqK P41gn (evN P41gn 40) (gtB.drop 4) k))
theorem gn_non (J : Nat → St → Prop) (n : Nat) (wc buf : Str) (ln p : Int) (k : Fl → St → Prop) : gnT J n k (gtS (some .none) (lexH wc .none (.str true (N "")) ln buf p) 6) = Seg P41gn (evN P41gn 39) (loopK P41gn J n (seqK P41gn (evN P41gn 40) (gtB.drop 4) k)) (inner (nth gtB 3)) (gtS (some .none) (lexH wc .none (.str true (N "")) ln buf p) 6) := by kernel_rfl
theorem gn_ret (J : Nat → St → Prop) (n : Nat) (wc buf : Str) (ln p : Int) (k : Fl → St → Prop) : evSs P41gn (evN P41gn 39) (inner (nth gtB 3)) (gtS (some .none) (lexH wc .none (.str true (N "")) ln buf p) 6) (loopK P41gn J n (seqK P41gn (evN P41gn 40) (gtB.drop 4) k)) = k (.ret .none) (gtS (some .none) (lexH wc .none (.str true (N "")) ln buf p) 6) := by kernel_rfl
theorem gnC_inl {vs : List V} {st : St} {k : K1} (h : rnC vs st k) : inl c11n J0 (memSt 41 5) gtM st k := by
  obtain ⟨rfl, hnx, hok, wc, buf, ln, hh, hz, hk⟩ := h
  obtain ⟨m, c, h, nx⟩ := st
  dsimp only at hnx hh
  subst hnx hh
  unfold inl
  rw [hok]
  refine Eq.mpr (gn_start wc buf ln buf.length (fun f st' => chk (Nat.ble 6 st'.nx) (k (retV f) ⟨m, c, st'.h, st'.nx⟩))) ⟨rfl, rfl, by kernel_rfl, wc, buf, ln, rfl, hz, ?_⟩
  refine Eq.mpr (gn_mid wc buf ln buf.length _) ⟨fun _ st => st = gtS (some .none) (lexH wc .none (.str true (N "")) ln buf buf.length) 6, 0, rfl, ?_⟩
  rintro n st rfl
  exact Eq.mpr (gn_non _ n wc buf ln buf.length _) (.all (Eq.mpr (gn_ret _ n wc buf ln buf.length _) hk))
noncomputable def c12n : CT := cAdd 801 rnC c11n
theorem c12n_ok (w : World) (os : OsState) : CTok w os 12 c12n := by
  refine cAdd_ok ((c11n_ok w os).le (by decide)) ?_
  intro vs st k h c e1 e2 ok ρ us ht
  have hvs := h.1
  subst hvs
  refine inl_ok (kw := []) (f_getTok w) (c11n_ok w os) (by decide) (Nat.le_refl _) (m0 := gtM) (by kernel_rfl) (fun ρ us ks h hk => ?_) (gnC_inl h) e1 e2 ok ht .nil
  obtain ⟨v1, rfl, t1⟩ := h.inv1; have hk := hk.inv0; subst hk
  exact ⟨[(N "self", v1)], fun S => by kernel_rfl, by kernel_rfl, .yes (by kernel_rfl) t1 (.no (.no (.no (.no (.no .nil)))))⟩
theorem f_next (w : World) : FOk w 837 (memSt 41 10) := by constructor <;> kernel_rfl
noncomputable def nxB : List Stmt := bodyOf (memSt 41 10)
noncomputable def ifT : Stmt → Expr
  | .If t _ _ _ => t
  | _ => .Constant .none 0 ⟨0, 0, 0, 0⟩
noncomputable def nxS1 : Stmt := nth nxB 0
noncomputable def nxT : Expr := ifT (nth nxB 1)
theorem nx_shape : ∃ p5 p6 p7 p8 p9, nxB = [nxS1, .If nxT [.Raise (some (.Name (N "StopIteration") p5)) none p6] [] p7, .Return (some (.Name (N "token") p8)) p9] := ⟨_, _, _, _, _, by with_unfolding_all rfl⟩
noncomputable def nxM (t : Option V) : List (Str × Option V) := [(N "self", some (.loc 0)), (N "token", t)]
noncomputable abbrev Pnx : Pm := pm c12 (memSt 41 10) 6
noncomputable abbrev Pnn : Pm := pm c12n (memSt 41 10) 6
theorem nx_1 (wc buf : Str) (ln p : Int) (k : Fl → St → Prop) : (evN Pnx J0).s nxS1 ⟨nxM none, [], lexH wc (.str true (N " ")) (.str true (N "")) ln buf p, 6⟩ k =
  rtC [.loc 0] ⟨nxM none, [], lexH wc (.str true (N " ")) (.str true (N "")) ln buf p, 6⟩ (fun v st1 => bindN Pnx (N "token") v st1 fun st2 => k .next st2) := by kernel_rfl
theorem nn_1 (wc buf : Str) (ln p : Int) (k : Fl → St → Prop) : (evN Pnn J0).s nxS1 ⟨nxM none, [], lexH wc .none (.str true (N "")) ln buf p, 6⟩ k =
  rnC [.loc 0] ⟨nxM none, [], lexH wc .none (.str true (N "")) ln buf p, 6⟩ (fun v st1 => bindN Pnn (N "token") v st1 fun st2 => k .next st2) := by kernel_rfl
theorem nx_tok (wc buf : Str) (v stv : V) (ln p : Int) (k : Fl → St → Prop) (g : List (Nat × O)) (nx : Nat) : (bindN Pnx (N "token") v ⟨nxM none, [], g ++ lexH wc stv (.str true (N "")) ln buf p, nx⟩ fun st2 => k .next st2) = k .next ⟨nxM (some v), [], g ++ lexH wc stv (.str true (N "")) ln buf p, nx⟩ := by kernel_rfl
theorem nn_tok (wc buf : Str) (v stv : V) (ln p : Int) (k : Fl → St → Prop) : (bindN Pnn (N "token") v ⟨nxM none, [], lexH wc stv (.str true (N "")) ln buf p, 6⟩ fun st2 => k .next st2) = k .next ⟨nxM (some v), [], lexH wc stv (.str true (N "")) ln buf p, 6⟩ := by kernel_rfl
theorem nx_tn (wc buf : Str) (stv : V) (ln p : Int) (k : Bool → St → Prop) : (evN Pnx J0).t nxT ⟨nxM (some .none), [], lexH wc stv (.str true (N "")) ln buf p, 6⟩ k = k true ⟨nxM (some .none), [], lexH wc stv (.str true (N "")) ln buf p, 6⟩ := by kernel_rfl
theorem nx_ts (wc buf t : Str) (stv : V) (ln p : Int) (k : Bool → St → Prop) : (evN Pnx J0).t nxT ⟨nxM (some (.str false t)), [], lexH wc stv (.str true (N "")) ln buf p, 6⟩ k = k false ⟨nxM (some (.str false t)), [], lexH wc stv (.str true (N "")) ln buf p, 6⟩ := by kernel_rfl
noncomputable def nxR (w : World) (os : OsState) (g : Heap) (fs : List (Addr × Loc)) (ρ : Nat → Addr) (wc buf : Str) (R : Option Str × Bool × List Nat) (r : Result) (s' : Shared) : Prop := match R.1 with
  | some t => ∃ (v : Value) (ln' : Int) (p' : Nat), r = .ok (.ret v) ∧ Teq (S t) v ∧ p' ≤ buf.length ∧ buf.cps.toList.drop p' = R.2.2 ∧ Sr0 w os g (frS fs ++ hre ρ (lexH wc (endV R.2.1) (.str true (N "")) ln' buf p')) s'
  | none => ∃ e ob, r = .error (.ref e) ∧ s'.heap.get? e = some ob ∧ ob.cls = .type "StopIteration" ∧ Sr0 w os g (frS fs) s'
theorem lex_re {wc buf : Str} {b : Bool} {ln p : Int} {ρ ρ' : Nat → Addr} (ag : Agree 6 ρ ρ') : hre ρ' (lexH wc (endV b) (.str true (N "")) ln buf p) = hre ρ (lexH wc (endV b) (.str true (N "")) ln buf p) :=
  hre_eq ag (by cases b <;> kernel_rfl)
section
variable {w : World} {os : OsState} {g : Heap} {fs : List (Addr × Loc)} {l : List Env} {ρ : Nat → Addr} {wc buf : Str} {ln : Int} {R : Option Str × Bool × List Nat} {A : Around} {s : Shared}
theorem nx_frame {c : Fx} {b0 : Bool} {p : Nat} (ok : c.Ok 12) (ecl : c.cl = []) (F : Frs l fs) (hA : c.A = A.deeper (c.env (scopeOf (memSt 41 10)))) (hAf : A.frames = some l) (hfr : c.fr = some c.L)
    (hE : ∀ e s', wpAny (MM c.w) c.A (leaving (c.env (scopeOf (memSt 41 10))) e) (fun _ s'' => nxR c.w c.os c.g fs ρ wc buf R (.error e) s'') (fun e' s'' => nxR c.w c.os c.g fs ρ wc buf R (.error e') s'') s' → c.E e s')
    (h1 : WT c FTeq (exec nxS1 (c.env (scopeOf (memSt 41 10)))) (mre ρ (nxM none)) (frS fs ++ hre ρ (lexH wc (endV b0) (.str true (N "")) ln buf p)) (fun f m σ => ∃ (ln' : Int) (p' : Nat), f = .next ∧ p' ≤ buf.length ∧ buf.cps.toList.drop p' = R.2.2 ∧ Below m σ (mre ρ (nxM (some (rtok R.1)))) (frS fs ++ hre ρ (lexH wc (endV R.2.1) (.str true (N "")) ln' buf p')))) :
    Wx c (scopeOf (memSt 41 10)) nxB (mre ρ (nxM none)) (frS fs ++ hre ρ (lexH wc (endV b0) (.str true (N "")) ln buf p)) (fun f m' σ' => ∀ u s', Teq (retOf f) u → Sr0 c.w c.os c.g ((c.L, .ns m') :: σ') s' → nxR c.w c.os c.g fs ρ wc buf R (.ok (.ret u)) s') := by
  obtain ⟨p5, p6, p7, p8, p9, e⟩ := nx_shape
  rw [e]
  have hk : (scopeOf (memSt 41 10)).kind = .function := by kernel_rfl
  have X : Cx c.w c.os 12 [] c := ⟨rfl, rfl, by rw [ecl]; rfl, ok⟩
  refine Wx.cons (WT.mono h1 ?_)
  rintro f m σ ⟨ln', p', rfl, hp', hd', bl⟩
  refine WT.below bl (Wx.cons (W1.if ?_))
  have test : ∀ (b : Bool), ((evN Pnx J0).t nxT ⟨nxM (some (rtok R.1)), [], lexH wc (endV R.2.1) (.str true (N "")) ln' buf p', 6⟩ fun b' st' => b' = b ∧ st' = ⟨nxM (some (rtok R.1)), [], lexH wc (endV R.2.1) (.str true (N "")) ln' buf p', 6⟩) →
      Wb c (scopeOf (memSt 41 10)) nxT (mre ρ (nxM (some (rtok R.1)))) (frS fs ++ hre ρ (lexH wc (endV R.2.1) (.str true (N "")) ln' buf p')) (fun b' m' σ' => b' = b ∧ m' = mre ρ (nxM (some (rtok R.1))) ∧ σ' = frS fs ++ hre ρ (lexH wc (endV R.2.1) (.str true (N "")) ln' buf p')) := by
    intro b h
    refine WT.mono (WT.beside (c := c) (τ := frS fs) (Q := fun b' m' σ' => b' = b ∧ m' = mre ρ (nxM (some (rtok R.1))) ∧ σ' = hre ρ (lexH wc (endV R.2.1) (.str true (N "")) ln' buf p')) fun g' kg => ?_) ?_
    · refine WT.mono ((evN_ok (P := Pnx) (c12_ok c.w c.os) hk (by decide) J0).t { c with g := g' } (X.setG kg) nxT _ _ ρ h) ?_
      rintro b' m' σ' ⟨b2, st', ρ', rfl, rfl, rfl, ag, _, rfl, rfl⟩
      refine ⟨rfl, ?_, ?_⟩
      · refine mre_eq ag ?_
        cases R.1 <;> rfl
      · exact lex_re ag
    · rintro b' m' σ' ⟨σ'', rfl, h1, h2, h3⟩
      exact ⟨h1, h2, by rw [h3]⟩
  cases hR : R.1 with
  | none =>
    rw [hR] at test
    refine WT.mono (test true (Eq.mpr (nx_tn wc buf (endV R.2.1) ln' p' _) ⟨rfl, rfl⟩)) ?_
    rintro b m' σ' ⟨rfl, rfl, rfl⟩
    refine if_t rfl (Wx.cons (raise_stop ok hk (by kernel_rfl) rfl fun s h₁ e hs hm => ?_))
    refine hE _ _ ?_
    have F2 : Frs (c.env (scopeOf (memSt 41 10)) :: l) ((c.L, mre ρ (nxM (some (rtok none)))) :: fs) := .cons (by show (scopeOf (memSt 41 10)).kind ≠ .module; rw [hk]; decide) hfr F
    have z : Sr0 c.w c.os c.g (frS ((c.L, mre ρ (nxM (some (rtok none)))) :: fs) ++ hre ρ (lexH wc (endV R.2.1) (.str true (N "")) ln' buf p')) s := hs.toSr0
    refine leave_first z hm (by rw [hA]; exact Around.frames_deeper hAf) F2 hfr fun h' z' ⟨ob, ho, hc⟩ => ?_
    unfold nxR
    rw [hR]
    exact ⟨e, ob, rfl, ho, hc, z'.sub (by show (frS fs).Sublist ((_ :: frS fs) ++ _); exact (List.sublist_append_left _ _).cons _)⟩
  | some t =>
    rw [hR] at test
    refine WT.mono (test false (Eq.mpr (nx_ts wc buf t (endV R.2.1) ln' p' _) ⟨rfl, rfl⟩)) ?_
    rintro b m' σ' ⟨rfl, rfl, rfl⟩
    refine if_f rfl (Wx.nil (seq_next (Wx.cons (W1.ret (We.name hk (by kernel_rfl) (by kernel_rfl) (.tail _ (.head _)) ?_)))))
    intro u s' tu z
    unfold nxR
    rw [hR]
    exact ⟨u, ln', p', rfl, tu, hp', hd', z.sub (List.sublist_cons_self ..)⟩
noncomputable def Bd (w : World) (fa : Addr) (a : Args) (binds : List (Str × Value)) : Prop := ∃ fd, fd = fdAt w fa ∧ ∀ s, (KK w).In s.heap → BindsTo s fd a binds
theorem Bd.pure {w : World} {fa : Addr} {a : Args} {binds : List (Str × Value)} (h : bindArgs (fdAt w fa) a = pure binds) : Bd w fa a binds := ⟨_, rfl, fun _ _ => BindsTo.of_eq h⟩
theorem Bd.peek {w : World} {fa : Addr} {a : Args} {binds : List (Str × Value)} (h : ∀ S, PySem.W.peek (KK w) S (bindArgs (fdAt w fa) a) = some binds) : Bd w fa a binds := ⟨_, rfl, fun _ X => kp_binds X h⟩
theorem call_o {w : World} {os : OsState} {n : Nat} {fa : Addr} {st : Stmt} (F : FOk w fa st) {A : Around} {g : Heap} {σ : Sto} {s : Shared} {a : Args} {binds : List (Str × Value)} {m₀ : Loc} {R : Result → Shared → Prop} (b : Bg w g) (r : Room (n + 1) A) (hh : A.handled = none) (hs : Sr w os g σ s)
    (hbi : Bd w fa a binds) (hloc : (binds.all (fun x => (scopeOf st).names.lookup x.1 == some .local)) = true) (hbm : BLoc binds m₀) (hnd : decide ((m₀.map (·.1)).Nodup) = true)
    (h : ∀ c : Fx, c.w = w → c.os = os → c.g = g → c.cl = [] → c.Ok n → c.A = A.deeper (c.env (scopeOf st)) → c.fr = some c.L → (∀ e s', wpAny (MM w) c.A (leaving (c.env (scopeOf st)) e) (fun _ s'' => R (.error e) s'') (fun e' s'' => R (.error e') s'') s' → c.E e s') →
      Wx c (scopeOf st) (bodyOf st) m₀ σ (fun f m' σ' => ∀ u s', Teq (retOf f) u → Sr0 w os g ((c.L, .ns m') :: σ') s' → R (.ok (.ret u)) s')) : codeAny (MM w) A (.call (.ref fa) a) R s := by
  obtain ⟨fd, rfl, hb⟩ := hbi
  exact call_open F b r hh hs (hb s (hs.bg b).kk) hloc hbm hnd h
theorem nx_bind (w : World) (a : Value) : Bd w 837 ⟨[a], []⟩ [(N "self", a)] := .pure (by kernel_rfl)
theorem nx_loc (a : Value) : (List.all [(N "self", a)] (fun x => (scopeOf (memSt 41 10)).names.lookup x.1 == some .local)) = true := by kernel_rfl
theorem nx_bl (a : Value) : BLoc [(N "self", a)] [(N "self", some a), (N "token", none)] := .yes (by kernel_rfl) (.same _) (.no .nil)
theorem next_call {b0 : Bool} {p : Nat} (b : Bg w g) (r : Room 13 A) (hh : A.handled = none) (F : Frs l fs) (hAf : A.frames = some l) (hs : Sr w os g (frS fs ++ hre ρ (lexH wc (endV b0) (.str true (N "")) ln buf p)) s) (L : LexOk wc buf) (hp : p ≤ buf.length)
    (hR : (b0 = false ∧ readP .ws false (N "") (buf.cps.toList.drop p) = some R) ∨ (b0 = true ∧ p = buf.length ∧ R = (none, true, []))) :
    codeAny (MM w) A (.call (.ref 837) ⟨[.ref (ρ 0)], []⟩) (nxR w os g fs ρ wc buf R) s := by
  have hk : (scopeOf (memSt 41 10)).kind = .function := by kernel_rfl
  refine call_o (n := 12) (m₀ := mre ρ (nxM none)) (f_next w) b r hh hs (nx_bind w (.ref (ρ 0))) (nx_loc _) (nx_bl _) (by kernel_rfl) ?_
  rintro c rfl rfl rfl ecl ok hA hfr hE
  refine nx_frame ok ecl F hA hAf hfr hE ?_
  have X : Cx c.w c.os 12 [] c := ⟨rfl, rfl, by rw [ecl]; rfl, ok⟩
  refine WT.mono (WT.beside (c := c) (τ := frS fs) (Q := fun f m σ => ∃ (ln' : Int) (p' : Nat), f = .next ∧ p' ≤ buf.length ∧ buf.cps.toList.drop p' = R.2.2 ∧ Below m σ (mre ρ (nxM (some (rtok R.1)))) (hre ρ (lexH wc (endV R.2.1) (.str true (N "")) ln' buf p'))) fun g' kg => ?_) ?_
  · rcases hR with ⟨rfl, hR⟩ | ⟨rfl, rfl, rfl⟩
    · have key := (evN_ok (P := Pnx) (c12_ok c.w c.os) hk (by decide) J0).s { c with g := g' } (X.setG kg) nxS1 ⟨nxM none, [], lexH wc (.str true (N " ")) (.str true (N "")) ln buf p, 6⟩
        (fun f st => f = .next ∧ ∃ (ln' : Int) (p' : Nat) (gg : List (Nat × O)) (nx : Nat), p' ≤ buf.length ∧ buf.cps.toList.drop p' = R.2.2 ∧ st = ⟨nxM (some (rtok R.1)), [], gg ++ lexH wc (endV R.2.1) (.str true (N "")) ln' buf p', nx⟩) ρ (Nat.le_refl _) ?_
      · refine WT.mono key ?_
        rintro f m σ ⟨f', st', ρ', rfl, bl, ag, rfl, ln', p', gg, nx, hp', hd', rfl⟩
        refine ⟨ln', p', rfl, hp', hd', ?_⟩
        refine bl.trans ?_
        have e1 : mre ρ' (nxM (some (rtok R.1))) = mre ρ (nxM (some (rtok R.1))) := mre_eq ag (by cases R.1 <;> rfl)
        refine ⟨by rw [e1], fun x u hm => by rw [e1]; exact hm, ?_⟩
        rw [← lex_re ag]
        refine Picks.of_perm (τ := hre ρ' gg) ?_
        have e2 : St.sto ({ c with g := g' } : Fx).cl ρ' ⟨nxM (some (rtok R.1)), [], gg ++ lexH wc (endV R.2.1) (.str true (N "")) ln' buf p', nx⟩ = hre ρ' gg ++ hre ρ' (lexH wc (endV R.2.1) (.str true (N "")) ln' buf p') := by
          show [] ++ hre ρ' (gg ++ _) = _
          unfold hre; rw [List.map_append]; rfl
        rw [e2]; exact List.perm_append_comm
      · refine Eq.mpr (nx_1 wc buf ln p _) ⟨rfl, rfl, by kernel_rfl, wc, buf, ln, p, R, rfl, L, hp, hR, ?_⟩
        rintro ln' p' gg nx hg hp' hd'
        refine Eq.mpr (nx_tok wc buf (rtok R.1) (endV R.2.1) ln' p' (fun f st => f = .next ∧ ∃ (ln' : Int) (p' : Nat) (gg : List (Nat × O)) (nx : Nat), p' ≤ buf.length ∧ buf.cps.toList.drop p' = R.2.2 ∧ st = ⟨nxM (some (rtok R.1)), [], gg ++ lexH wc (endV R.2.1) (.str true (N "")) ln' buf p', nx⟩) gg nx) ?_
        exact ⟨rfl, ln', p', gg, nx, hp', hd', rfl⟩
    · have key := (evN_ok (P := Pnn) (c12n_ok c.w c.os) hk (by decide) J0).s { c with g := g' } (X.setG kg) nxS1 ⟨nxM none, [], lexH wc .none (.str true (N "")) ln buf buf.length, 6⟩
        (fun f st => f = .next ∧ st = ⟨nxM (some .none), [], lexH wc .none (.str true (N "")) ln buf buf.length, 6⟩) ρ (Nat.le_refl _) ?_
      · refine WT.mono key ?_
        rintro f m σ ⟨f', st', ρ', rfl, bl, ag, rfl, rfl⟩
        refine ⟨ln, buf.length, rfl, Nat.le_refl _, ?_, ?_⟩
        · exact List.drop_eq_nil_of_le (by simp [Str.length])
        refine bl.trans ?_
        have e1 : mre ρ' (nxM (some .none)) = mre ρ (nxM (some .none)) := mre_eq ag rfl
        refine ⟨by show _ = List.map _ (mre ρ' (nxM (some .none))); rw [e1]; rfl, fun x u hm => by show _ ∈ mre ρ' (nxM (some .none)); rw [e1]; exact hm, ?_⟩
        have e2 := lex_re (wc := wc) (buf := buf) (b := true) (ln := ln) (p := buf.length) ag
        show Picks (hre ρ' (lexH wc (endV true) (.str true (N "")) ln buf buf.length)) _
        rw [e2]; exact Picks.refl _
      · refine Eq.mpr (nn_1 wc buf ln buf.length _) ⟨rfl, rfl, by kernel_rfl, wc, buf, ln, rfl, L.hz, ?_⟩
        refine Eq.mpr (nn_tok wc buf .none .none ln buf.length (fun f st => f = .next ∧ st = ⟨nxM (some .none), [], lexH wc .none (.str true (N "")) ln buf buf.length, 6⟩)) ?_
        exact ⟨rfl, rfl⟩
  · rintro f m σ ⟨σ'', rfl, ln', p', h1, h2, h3, b1, b2, b3⟩
    refine ⟨ln', p', h1, h2, h3, b1, b2, ?_⟩
    obtain ⟨τ, ht⟩ := b3
    exact Picks.of_perm (τ := τ) (by rw [List.append_assoc]; exact ht.perm.append_left _)
end
theorem f_iter (w : World) : FOk w 830 (memSt 41 9) := by constructor <;> kernel_rfl
theorem it_shape : ∃ p1 p2, bodyOf (memSt 41 9) = [.Return (some (.Name (N "self") p1)) p2] := ⟨_, _, by with_unfolding_all rfl⟩
theorem iter_fn (w : World) (os : OsState) (n : Nat) (x : Addr) : Fn w os (n + 1) (.ref 830) [.ref x] [] [] (fun u σ' => u = .ref x ∧ σ' = []) := by
  refine Fn.top0 (m₀ := [(N "self", some (.ref x))]) (f_iter w) (by kernel_rfl) ?_ ?_
  · intro vs hv
    obtain ⟨v1, rfl, t1⟩ := hv.inv1
    exact ⟨[(N "self", v1)], by kernel_rfl, by kernel_rfl, .yes (by kernel_rfl) t1 .nil⟩
  · rintro c rfl rfl _ ok
    obtain ⟨p1, p2, e⟩ := it_shape
    rw [e]
    refine Wx.cons (W1.ret (We.name (by kernel_rfl) (by kernel_rfl) (by kernel_rfl) (.head _) ?_))
    exact ⟨_, Picks.refl _, rfl, rfl⟩
theorem lx_iter (w : World) : findIn (KK w) (.ref 840) "__iter__" = some (some (.ref 830)) := by kernel_rfl
theorem lx_next (w : World) : findIn (KK w) (.ref 840) "__next__" = some (some (.ref 837)) := by kernel_rfl
theorem lx_fn (w : World) : typeIn (KK w) (.ref 830) = some (.type "function") ∧ typeIn (KK w) (.ref 837) = some (.type "function") := ⟨by kernel_rfl, by kernel_rfl⟩
theorem lx_len (w : World) : findIn (KK w) (.ref 840) "__len__" = some none := by kernel_rfl
theorem lx_hint (w : World) : findIn (KK w) (.ref 840) "__length_hint__" = some none := by kernel_rfl
section
variable {M : Model} {A : Around} {E : Value → Shared → Prop} {s : Shared} {K : Frag} {x C f : Addr} {ox : Obj} {od : Option Obj}
theorem lk_special {h : Heap} (X : K.In h) (I : InstAt h x ox C od) {name : Str} {r : Option Value} (hs : findIn K (.ref C) name = some r) : Looks M h (specialOf (.ref x) name) r := I.type.andThen (looks_findIn X hs)
theorem lk_bindIf {h : Heap} (X : K.In h) (I : InstAt h x ox C od) {name : Str} (hs : findIn K (.ref C) name = some (some (.ref f))) (hf : typeIn K (.ref f) = some (.type "function")) : Looks M h (bindSpecialIfBound? (.ref x) name) (some (.ref f, [.ref x])) := by
  intro A Q E s k q
  unfold bindSpecialIfBound?
  refine wpAny_bind ((lk_special X I hs) A _ E s k ?_)
  have b := bind_fn (M := M) X (.ref x) hf
  refine wpAny_bind (wpAny_askSetting (wpAny_ite ?_))
  split
  · exact wpAny_bind (b A _ E s k (wpAny_pure q))
  · exact wpAny_tryCatch (wpAny_bind (b A _ _ s k (wpAny_pure q)))
theorem iter_of {Q : Value → Shared → Prop} (X : K.In s.heap) (I : InstAt s.heap x ox C od) (hs : findIn K (.ref C) "__iter__" = some (some (.ref f))) (hf : typeIn K (.ref f) = some (.type "function"))
    (h : wpAny M A (call (.ref f) [.ref x]) (fun v s' => ∃ r, Looks M s'.heap (specialOf v "__next__") (some r) ∧ Q v s') E s) : wpAny M A (pyIter (.ref x)) Q E s := by
  unfold pyIter
  refine wpAny_bind ((lk_special X I hs).here ?_)
  show wpAny M A (callSpecialIfBoundUnlessNone? (.ref x) "__iter__" _ >>= _) Q E s
  refine wpAny_bind ?_
  unfold callSpecialIfBoundUnlessNone?
  refine wpAny_holding (wpAny_bind ((lk_bindIf X I hs hf).here ?_))
  dsimp only
  rw [if_neg (show ¬ ((Value.ref f == Value.none) = true) from Bool.false_ne_true)]
  refine wpAny_bind (wpAny_mono h (fun v s' ⟨r, hl, hq⟩ => wpAny_pure ?_) fun _ _ e => e)
  exact wpAny_bind (hl.here (wpAny_pure hq))
theorem next_of {Q : Option Value → Shared → Prop} {w : World} (X : K.In s.heap) (I : InstAt s.heap x ox C od) (hs : findIn K (.ref C) "__next__" = some (some (.ref f))) (hf : typeIn K (.ref f) = some (.type "function"))
    (h : codeAny M A (.call (.ref f) ⟨[.ref x], []⟩) (fun r s' => (∃ v, r = .ok (.ret v) ∧ Q (some v) s') ∨ (∃ e ob, r = .error (.ref e) ∧ s'.heap.get? e = some ob ∧ ob.cls = .type "StopIteration" ∧ Q none s')) s) : wpAny M A (pyNext (.ref x)) Q E s := by
  unfold pyNext
  have key : wpAny M A (call (.ref f) [.ref x]) (fun v s' => Q (some v) s') (fun e' s' => ∃ e ob, e' = .ref e ∧ s'.heap.get? e = some ob ∧ ob.cls = .type "StopIteration" ∧ Q none s') s := by
    refine wpAny_call (codeAny_mono h fun r s' z => ?_)
    rcases z with ⟨v, rfl, hq⟩ | ⟨e, ob, rfl, h1, h2, h3⟩
    · exact hq
    · exact ⟨e, ob, rfl, h1, h2, h3⟩
  refine wpAny_bind (wpAny_attempt (special_fn (name := "__next__") (args := []) X I hs hf (wpAny_mono key (fun v s' hq => wpAny_pure hq) fun e' s' hz => ?_)))
  obtain ⟨e, ob, rfl, h1, h2, h3⟩ := hz
  refine wpAny_bind (wpAny_isInstance (T := "StopIteration") (b := true) ⟨ob, h1, h2⟩ (by rw [isSubtype_type]; kernel_rfl) ?_)
  exact wpAny_pure h3
end
inductive LexAll : Bool → List Nat → List Str → Prop
  | stop {b : Bool} {rest r : List Nat} : readP .ws false (N "") rest = some (none, b, r) → LexAll false rest []
  | eof : LexAll true [] []
  | tok {b : Bool} {t : Str} {ws : List Str} {rest r : List Nat} : readP .ws false (N "") rest = some (some t, b, r) → LexAll b r ws → LexAll false rest (t :: ws)
theorem Sr0.inst0 {w : World} {os : OsState} {g : Heap} {σ : Sto} {s : Shared} {x C d : Addr} {kvs : List (Str × Value)} (z : Sr0 w os g σ s) (hx : (x, .inst C d) ∈ σ) (hd : (d, .idict kvs) ∈ σ) : ∃ ox od, InstAt s.heap x ox C od := by
  obtain ⟨es, k, I, _⟩ := z.inst hx hd
  exact ⟨_, _, I⟩
theorem lex_mem0 {ρ : Nat → Addr} {wc buf : Str} {stv tok : V} {ln p : Int} : (ρ 0, AO.inst 840 (ρ 1)) ∈ hre ρ (lexH wc stv tok ln buf p) := .head _
theorem lex_mem1 {ρ : Nat → Addr} {wc buf : Str} {stv tok : V} {ln p : Int} : (ρ 1, AO.idict ((lexD wc stv tok ln).map fun p => (p.1, p.2.re ρ))) ∈ hre ρ (lexH wc stv tok ln buf p) := .tail _ (.head _)
section
variable {w : World} {os : OsState} {g : Heap} {fs : List (Addr × Loc)} {l : List Env} {ρ : Nat → Addr} {wc buf : Str} {A : Around}
theorem lex_next {τ : Sto} {b0 : Bool} {p : Nat} {ln : Int} {s : Shared} {E : Value → Shared → Prop} {R : Option Str × Bool × List Nat} {Q : Option Value → Shared → Prop} (b : Bg w g) (r : Room 13 A) (hh : A.handled = none) (F : Frs l fs) (hAf : A.frames = some l)
    (hs : Sr w os g (τ ++ (frS fs ++ hre ρ (lexH wc (endV b0) (.str true (N "")) ln buf p))) s) (L : LexOk wc buf) (hp : p ≤ buf.length) (hR : (b0 = false ∧ readP .ws false (N "") (buf.cps.toList.drop p) = some R) ∨ (b0 = true ∧ p = buf.length ∧ R = (none, true, [])))
    (h1 : ∀ t, R.1 = some t → ∀ v s' (ln' : Int) (p' : Nat), Teq (S t) v → p' ≤ buf.length → buf.cps.toList.drop p' = R.2.2 → Sr0 w os g (τ ++ (frS fs ++ hre ρ (lexH wc (endV R.2.1) (.str true (N "")) ln' buf p'))) s' → Q (some v) s')
    (h2 : R.1 = none → ∀ s', Sr0 w os g (τ ++ frS fs) s' → Q none s') : wpAny (MM w) A (pyNext (.ref (ρ 0))) Q E s := by
  have X := (hs.bg b).kk
  obtain ⟨ox, od, I⟩ := hs.inst0 (x := ρ 0) (C := 840) (d := ρ 1) (List.mem_append_right _ (List.mem_append_right _ lex_mem0)) (List.mem_append_right _ (List.mem_append_right _ lex_mem1))
  refine next_of (w := w) X I (lx_next w) (lx_fn w).2 ?_
  obtain ⟨g', k1, k2, k3, k4⟩ := hs.hr.frame
  refine codeAny_mono (next_call (w := w) (os := os) (g := g') (fs := fs) (l := l) (ρ := ρ) (b.keeps k1) r hh F hAf ⟨⟨k2, hs.gens, hs.os⟩, hs.tk⟩ L hp hR) fun r s' z => ?_
  unfold nxR at z
  cases q : R.1 with
  | some t =>
    rw [q] at z
    obtain ⟨v, ln', p', rfl, tv, hp', hd', hz⟩ := z
    exact .inl ⟨v, rfl, h1 t q v s' ln' p' tv hp' hd' ⟨k4 _ _ hz.hr, hz.gens, hz.os⟩⟩
  | none =>
    rw [q] at z
    obtain ⟨e, ob, rfl, ho, hc, hz⟩ := z
    exact .inr ⟨e, ob, rfl, ho, hc, h2 q s' ⟨k4 _ _ hz.hr, hz.gens, hz.os⟩⟩
theorem lex_loop {τ : Sto} {lA : Addr} {res : Value} {R : Result → Shared → Prop} {vs : List Str} (b : Bg w g) (r : Room 14 A) (hh : A.handled = none) (F : Frs l fs) (hAf : A.frames = some l) (L : LexOk wc buf)
    (hR : ∀ s', Sr0 w os g ((lA, .list (vs.map S)) :: (τ ++ frS fs)) s' → R (.ok (.ret res)) s') (hvs : vs.length ≤ sizeLine) :
    ∀ {ws : List Str} {rest : List Nat} {b0 : Bool}, LexAll b0 rest ws → ∀ {acc : List Str} {p : Nat} {ln : Int} {s : Shared}, acc ++ ws = vs → p ≤ buf.length → buf.cps.toList.drop p = rest → Sr w os g ((lA, .list (acc.map S)) :: (τ ++ (frS fs ++ hre ρ (lexH wc (endV b0) (.str true (N "")) ln buf p)))) s →
      codeAny (MM w) A (.builtin "list.extend.loop" ⟨[.ref lA, .ref (ρ 0), res], []⟩) R s := by
  have r' : Room 13 A.in1 := by unfold Room at *; show A.depth + _ < _ ∧ A.units + 1 + _ < _; omega
  intro ws rest b0 H
  induction H with
  | stop h1 =>
    intro acc p ln s e hp hd hs
    refine codeAny_builtin PySem.F.entry_extend_loop ?_
    rw [Around.under_plainId PySem.F.plain_extend_loop _]
    show wpAny _ A.in1 (pyNext (.ref (ρ 0)) >>= _) _ _ _
    refine wpAny_bind (lex_next (τ := (lA, .list (acc.map S)) :: τ) (R := (none, _, _)) b r' hh F hAf hs L hp (.inl ⟨rfl, by rw [hd]; exact h1⟩) (fun t q => nomatch q) fun _ s' hs' => ?_)
    refine wpAny_pure (hR s' ?_)
    rw [List.append_nil] at e; subst e; exact hs'
  | eof =>
    intro acc p ln s e hp hd hs
    refine codeAny_builtin PySem.F.entry_extend_loop ?_
    rw [Around.under_plainId PySem.F.plain_extend_loop _]
    show wpAny _ A.in1 (pyNext (.ref (ρ 0)) >>= _) _ _ _
    have hpe := drop_end hp hd
    refine wpAny_bind (lex_next (τ := (lA, .list (acc.map S)) :: τ) (R := (none, true, [])) b r' hh F hAf hs L hp (.inr ⟨rfl, hpe, rfl⟩) (fun t q => nomatch q) fun _ s' hs' => ?_)
    refine wpAny_pure (hR s' ?_)
    rw [List.append_nil] at e; subst e; exact hs'
  | @tok b1 t ws rest rr h1 h2 ih =>
    intro acc p ln s e hp hd hs
    refine codeAny_builtin PySem.F.entry_extend_loop ?_
    rw [Around.under_plainId PySem.F.plain_extend_loop _]
    show wpAny _ A.in1 (pyNext (.ref (ρ 0)) >>= _) _ _ _
    refine wpAny_bind (wm0 hs.tk (lex_next (τ := (lA, .list (acc.map S)) :: τ) (R := (some t, b1, rr)) (Q := fun o s' => ∃ (v : Value) (ln' : Int) (p' : Nat), o = some v ∧ Teq (S t) v ∧ p' ≤ buf.length ∧ buf.cps.toList.drop p' = rr ∧ Sr0 w os g (((lA, .list (acc.map S)) :: τ) ++ (frS fs ++ hre ρ (lexH wc (endV b1) (.str true (N "")) ln' buf p'))) s') b r' hh F hAf hs L hp (.inl ⟨rfl, by rw [hd]; exact h1⟩) ?_ (fun q => nomatch q)) ?_ fun _ _ e => e)
    · rintro t' q v s' ln' p' tv hp' hd' hs'
      cases q
      exact ⟨v, ln', p', rfl, tv, hp', hd', hs'⟩
    · rintro o s' tk ⟨v, ln', p', rfl, tv, hp', hd', hs'⟩
      show wpAny _ A.in1 (updateSeq lA (·.push v) >>= _) _ _ _
      obtain ⟨arr, k, ho, hL, ht, hsz⟩ := hs'.list (l := lA) (.head _)
      have hz : acc.length < vs.length := by rw [← e, List.length_append, List.length_cons]; omega
      rw [List.length_map] at hsz
      refine wpAny_bind (wpAny_updateSeq ho rfl (wpAny_pure ⟨plainId_quiet PySem.F.plain_extend_loop _, ?_⟩) (by omega) (by show (arr.push v).size ≤ sizeLine + 1; rw [Array.size_push]; omega))
      refine ih (acc := acc ++ [t]) (p := p') (ln := ln') (by rw [List.append_assoc]; exact e) hp' hd' ⟨?_, tk⟩
      have := hs'.put (y := .list ((acc ++ [t]).map S)) .here (Heap.SameBut.update s'.heap lA (Obj.mapSeq (·.push v))) (Heap.get?_update_self _ ho rfl) ⟨_, _, rfl, ?_⟩ s'.toks
      · exact this
      · rw [List.map_append, Array.toList_push]; exact ht.append (.cons tv .nil)
end
section
variable {w : World} {os : OsState} {g : Heap} {fs : List (Addr × Loc)} {l : List Env} {ρ : Nat → Addr} {wc buf : Str} {A : Around}
theorem Sr.seqUpd {σ : Sto} {s : Shared} {lA : Addr} {xs ys : List Value} {arr brr : Array Value} {k : Nat} {f : Array Value → Array Value} (hs : Sr w os g ((lA, .list xs) :: σ) s) (ho : s.heap.get? lA = some ⟨.type "list", none, .seq arr k, #[]⟩) (hf : f arr = brr) (ht : TeqL ys brr.toList) :
    Sr w os g ((lA, .list ys) :: σ) { s with heap := s.heap.update lA (Obj.mapSeq f) } := by
  refine ⟨?_, hs.tk⟩
  have := hs.toSr0.put (y := .list ys) .here (Heap.SameBut.update s.heap lA (Obj.mapSeq f)) (Heap.get?_update_self _ ho rfl) ⟨f arr, _, rfl, hf ▸ ht⟩ s.toks
  exact this
theorem list_lex {vs : List Str} {p : Nat} {ln : Int} {s : Shared} {E : Value → Shared → Prop} {Q : Value → Shared → Prop} (b : Bg w g) (r : Room 15 A) (hh : A.handled = none) (F : Frs l fs) (hAf : A.frames = some l)
    (hs : Sr w os g (frS fs ++ hre ρ (lexH wc (.str true (N " ")) (.str true (N "")) ln buf p)) s) (L : LexOk wc buf) (hp : p ≤ buf.length) (H : LexAll false (buf.cps.toList.drop p) vs) (hvs : vs.length ≤ sizeLine)
    (h : ∀ lA s', Sr0 w os g ((lA, .list (vs.map S)) :: frS fs) s' → Q (.ref lA) s') : wpAny (MM w) A (call (.type "list") [.ref (ρ 0)]) Q E s := by
  have r' : Room 14 A.in1 := by unfold Room at *; show A.depth + _ < _ ∧ A.units + 1 + _ < _; omega
  obtain ⟨T, eT⟩ : ∃ T, T = frS fs ++ hre ρ (lexH wc (.str true (N " ")) (.str true (N "")) ln buf p) := ⟨_, rfl⟩
  have m0 : (ρ 0, AO.inst 840 (ρ 1)) ∈ T := eT ▸ List.mem_append_right _ lex_mem0
  have m1 := List.mem_append_right (frS fs) (lex_mem1 (ρ := ρ) (wc := wc) (stv := .str true (N " ")) (tok := .str true (N "")) (ln := ln) (buf := buf) (p := p))
  rw [← eT] at m1 hs
  have r2 : Room 14 A.in1.in1 := by unfold Room at *; show A.depth + _ < _ ∧ A.units + 1 + 1 + _ < _; omega
  refine callType_codes (Q₁ := fun obj s₁ => obj = .ref s.heap.objs.size ∧ s₁ = { s with heap := s.heap.push { cls := .type "list", data := .seq #[] } }) PySem.F.called_list (PySem.F.typeCall_list_1 _) PySem.F.entry_list_init
    (code_list_new _ ⟨rfl, rfl⟩) fun obj s₁ h₁ => ?_
  obtain ⟨rfl, rfl⟩ := h₁
  have hS : (s.heap.push { cls := .type "list", data := .seq #[] }).get? s.heap.objs.size = some { cls := .type "list", data := .seq #[] } := Heap.get?_push_size _ rfl
  have hs1 : Sr w os g ((s.heap.objs.size, .list []) :: ([] ++ T)) { s with heap := s.heap.push { cls := .type "list", data := .seq #[] } } := ⟨hs.toSr0.new (x := .list []) rfl ⟨#[], _, rfl, .nil⟩ s.toks, hs.tk⟩
  generalize s.heap.objs.size = lA at hS hs1 h ⊢
  refine ⟨⟨_, hS, rfl⟩, PySem.F.args_list_init_2 _ _, ?_⟩
  clear hS hs
  generalize ({ s with heap := s.heap.push { cls := .type "list", data := .seq #[] } } : Shared) = s1 at hs1 ⊢
  clear s
  show wpAny _ _ (do let old ← Builtin.List.listItems (.ref lA); Builtin.List.listUpdate (.ref lA) (fun _ => #[]); letGo old.toList.reverse; Builtin.List.listExtendWith (.ref lA) (.ref (ρ 0)) .none) _ _ s1
  obtain ⟨arr, k, ho, hL, ht, hsz⟩ := hs1.list (l := lA) (.head _)
  have ea : arr = #[] := by simpa using hsz
  subst ea
  refine wpAny_bind ?_
  unfold Builtin.List.listItems
  refine wpAny_bind (wpAny_seqItems ho rfl (wpAny_pure ?_))
  show wpAny _ _ (updateSeq lA (fun _ => #[]) >>= fun _ => letGo (#[] : Array Value).toList.reverse >>= fun _ => Builtin.List.listExtendWith (.ref lA) (.ref (ρ 0)) .none) _ _ s1
  refine wpAny_bind (wpAny_updateSeq ho rfl ?_)
  have hs2 := hs1.seqUpd (ys := []) (f := fun _ => #[]) ho rfl .nil
  generalize ({ s1 with heap := s1.heap.update lA (Obj.mapSeq fun _ => (#[] : Array Value)) } : Shared) = s2 at hs2 ⊢
  clear ho hL hs1
  refine wpAny_bind (wpAny_letGo ?_)
  have X := (hs2.bg b).kk
  obtain ⟨ox, od, I⟩ := hs2.inst0 (x := ρ 0) (C := 840) (d := ρ 1) (List.mem_cons_of_mem _ (List.mem_append_right _ m0)) (List.mem_cons_of_mem _ (List.mem_append_right _ m1))
  unfold Builtin.List.listExtendWith
  refine wpAny_bind (I.type.here ?_)
  have ne : lA ≠ ρ 0 := fun e => by
    have := hs2.hr.nd
    rw [List.map_cons, List.nodup_cons] at this
    exact this.1 (e ▸ List.mem_map_of_mem (f := (·.1)) (List.mem_append_right _ m0))
  have n1 : Builtin.List.listSameRef (.ref lA) (.ref (ρ 0)) = false := by simp [Builtin.List.listSameRef, ne]
  have n2 : ((Value.ref 840) == Value.type "list") = false := by decide
  have n3 : ((Value.ref 840) == Value.type "tuple") = false := by decide
  simp only [n1, n2, n3, Bool.or_false, Bool.false_eq_true, if_false]
  have key := (Fn.beside (w := w) (os := os) (n := 1) (τ := (lA, AO.list []) :: ([] ++ T)) (σ := []) (Q := fun v σ' => v = .ref (ρ 0) ∧ σ' = (lA, AO.list []) :: ([] ++ T)) ((iter_fn w os 0 (ρ 0)).mono fun v σ' ⟨e1, e2⟩ => ⟨e1, by rw [e2, List.append_nil]⟩))
  rw [List.append_nil] at key
  refine wpAny_bind (iter_of X I (lx_iter w) (lx_fn w).1 (wm0 hs2.tk (Q := fun v s' => v = .ref (ρ 0) ∧ Sr0 w os g ((lA, AO.list []) :: ([] ++ T)) s') (E := fun _ _ => False) (wpAny_call (codeAny_mono (key A.in1.in1 g (fun _ _ => False) s2 [.ref (ρ 0)] [] b (by unfold Room at *; show A.depth + _ < _ ∧ A.units + 1 + 1 + _ < _; omega) hh (.cons (.same _) .nil) .nil hs2) fun rr s3 z => ?_)) ?_ fun _ _ e => e.elim))
  · rcases rr with e | (v | _ | _ | _) <;> first | exact z.elim | skip
    obtain ⟨v', σ', tv, ⟨rfl, rfl⟩, hs3⟩ := z
    exact ⟨tv.ref_inv, hs3⟩
  rintro v s3 tk3 ⟨rfl, hs3⟩
  obtain ⟨ox3, od3, I3⟩ := hs3.inst0 (x := ρ 0) (C := 840) (d := ρ 1) (List.mem_cons_of_mem _ (List.mem_append_right _ m0)) (List.mem_cons_of_mem _ (List.mem_append_right _ m1))
  have X3 := (hs3.bg b).kk
  refine ⟨_, lk_special X3 I3 (lx_next w), ?_⟩
  refine wpAny_bind (wpAny_holding ?_)
  unfold Builtin.List.listLengthHint
  refine wpAny_bind ((lk_special X3 I3 (lx_len w)).here ?_)
  dsimp only
  refine wpAny_ite_split (fun h => absurd h Bool.false_ne_true) fun _ => ?_
  refine wpAny_ite_split (fun h => absurd h Bool.false_ne_true) fun _ => ?_
  refine wpAny_bind ((lk_special X3 I3 (lx_hint w)).here ?_)
  dsimp only
  refine wpAny_pure ?_
  rw [Bool.true_or, if_pos rfl]
  refine wpAny_bind (wpAny_rule (wpAny_bind ?_))
  have hs3' : Sr w os g ((lA, AO.list []) :: ([] ++ T)) s3 := ⟨hs3, tk3⟩
  clear hs3 hs2 key I X I3 X3
  obtain ⟨arr, k, ho, hL, ht, hsz⟩ := hs3'.list (l := lA) (.head _)
  have ea : arr = #[] := by simpa using hsz
  subst ea
  show wpAny _ _ (updateSeq lA (·.push .none) >>= fun _ => updateSeq lA (·.pop)) _ _ _
  refine wpAny_bind (wpAny_updateSeq ho rfl ?_)
  have hs4 := hs3'.seqUpd (ys := [.none]) (brr := #[.none]) (f := fun a => a.push Value.none) ho rfl (.cons (.same _) .nil)
  generalize ({ s3 with heap := s3.heap.update lA (Obj.mapSeq fun a => a.push Value.none) } : Shared) = s4 at hs4 ⊢
  clear ho hL ht hsz hs3'
  obtain ⟨arr, k, ho, hL, ht, hsz⟩ := hs4.list (l := lA) (.head _)
  have hsz1 : arr.size = 1 := by simpa using hsz
  have hp0 : arr.pop = #[] := by apply Array.eq_empty_of_size_eq_zero; rw [Array.size_pop, hsz1]
  refine wpAny_updateSeq ho rfl ?_ (by rw [hsz1]; decide) (by show (arr.pop).size ≤ _; rw [hp0]; decide)
  have hs5 := hs4.seqUpd (ys := []) (brr := #[]) (f := fun a => a.pop) ho hp0 .nil
  refine wpAny_pure ⟨plainId_quiet PySem.F.plain_extend_loop _, ?_⟩
  rw [eT] at hs5
  exact lex_loop (τ := []) (vs := vs) (b0 := false) b r' hh F hAf L (fun s' hs' => ⟨rfl, h lA s' hs'⟩) hvs H (acc := []) rfl hp rfl hs5
end
theorem f_new (w : World) : FOk w 198 (memSt 26 1) := by constructor <;> kernel_rfl
theorem new_shape : ∃ p1 p2 p3 p4 p5 p6 p7 p8 p9 p10 p11 p12 p13 b, bodyOf (memSt 26 1) = [.If (.BoolOp .And [.Compare (.Name (N "cls") p1) [.IsNot] [.Name (N "BytesIO") p2] p3, .Compare (.Name (N "cls") p4) [.IsNot] [.Name (N "StringIO") p5] p6] p7) b [] p8, .Return (some (.Call (.Attribute (.Name (N "object") p9) (N "__new__") p10) [.Name (N "cls") p11] [] p12)) p13] ∧ Nat.beq p10.endLine p12.line = true := ⟨_, _, _, _, _, _, _, _, _, _, _, _, _, _, by with_unfolding_all rfl, by with_unfolding_all rfl⟩
theorem new_names : (scopeOf (memSt 26 1)).names.lookup (N "cls") = some .local ∧ (scopeOf (memSt 26 1)).names.lookup (N "args") = some .local ∧ (scopeOf (memSt 26 1)).names.lookup (N "kwargs") = some .local ∧ (scopeOf (memSt 26 1)).names.lookup (N "object") = some .globalImplicit ∧ (scopeOf (memSt 26 1)).names.lookup (N "BytesIO") = some .globalImplicit ∧ (scopeOf (memSt 26 1)).names.lookup (N "StringIO") = some .globalImplicit := ⟨by kernel_rfl, by kernel_rfl, by kernel_rfl, by kernel_rfl, by kernel_rfl, by kernel_rfl⟩
theorem new_bind (w : World) (c v : Value) : bindArgs (fdAt w 198) ⟨[c, v], []⟩ = (do let t ← newTuple [v]; let d ← newDict; pure [(N "cls", c), (N "args", t), (N "kwargs", d)]) := by kernel_rfl
theorem on_check (w : World) : peek (KK w) ⟨PG, w.params⟩ (checkBuiltinCall "object.__new__" ⟨[.ref 705], []⟩) = some () := by kernel_rfl
theorem on_type (w : World) : peek (KK w) ⟨PG, w.params⟩ (isType (.ref 705)) = some true := by kernel_rfl
theorem on_made (w : World) : peek (KK w) ⟨PG, w.params⟩ (Bind.madeHere "object.__new__" (.ref 705)) = some () := by kernel_rfl
noncomputable def onCls? (w : World) : Bool := match (KK w).lookup 705 with
  | some ⟨_, _, .cls cd, _⟩ => !cd.abstract && !cd.hasDel && !cd.mro.isEmpty
  | _ => false
theorem onCls_ok (w : World) : onCls? w = true := by kernel_rfl
theorem on_cls (w : World) : ∃ oc od cd sl, (KK w).lookup 705 = some ⟨oc, od, .cls cd, sl⟩ ∧ cd.abstract = false ∧ cd.hasDel = false ∧ cd.mro.isEmpty = false := by
  have h := onCls_ok w
  unfold onCls? at h
  split at h
  · next oc od cd sl e =>
    simp only [Bool.and_eq_true, Bool.not_eq_true'] at h
    exact ⟨oc, od, cd, sl, e, h.1.1, h.1.2, h.2⟩
  · cases h
theorem on_call (w : World) {A : Around} {R : Result → Shared → Prop} {h : Heap} {g : Array GenState} {d : Drawn} {t : Nat} {os : OsState} (X : (KK w).In h)
    (hq : R (.ok (.ret (.ref (h.objs.size + 1)))) ⟨(h.push emptyDict).push (instObj 705 h.objs.size), g, d, t, os⟩) :
    codeAny (MM w) A (.call (.builtin "object.__new__") ⟨[.ref 705], []⟩) R ⟨h, g, d, t, os⟩ := by
  obtain ⟨oc, od, cd, sl, hC0, e1, e2, e4⟩ := on_cls w
  have hC := X _ _ hC0
  have F := PySem.F.objNew
  have l1 : Looks (MM w) h (isType (.ref 705)) true := Looks.of_peek X (on_type w)
  have l0 : Looks (MM w) h (checkBuiltinCall "object.__new__" ⟨[.ref 705], []⟩) () := Looks.of_peek X (on_check w)
  have l2 : Looks (MM w) h (Bind.madeHere "object.__new__" (.ref 705)) () := Looks.of_peek X (on_made w)
  refine codeAny_call_builtin_code (Code.quiet_builtin _ F.quiet) (l0.here ?_)
  refine codeAny_builtin F.entry ?_
  unfold Builtin.«object.__new__»
  have fin : ∀ A', wpAny (MM w) A' (do
      let d ← if typeHasDict (.ref 705) then some <$> PySem.alloc { cls := .type "dict", data := .dict #[] } else pure none
      ret (← newObj (.ref 705) .plain d)) (fun fin s' => match fin with | .done f => R (.ok f) s' | .again c' => c'.quiet = true ∧ codeAny (MM w) A c' R s') (fun e s' => R (.error e) s') ⟨h, g, d, t, os⟩ := by
    intro A'
    show wpAny _ _ ((PySem.alloc emptyDict >>= fun x => pure (some x)) >>= _) _ _ _
    refine wpAny_bind (wpAny_bind (wpAny_alloc (wpAny_pure (wpAny_bind ?_))))
    show wpAny _ _ (newObjAsIs _ _ _) _ _ _
    unfold newObjAsIs classHasDel
    refine wpAny_bind (wpAny_alloc (wpAny_bind (wpAny_bind (wpAny_load (Heap.get?_push_of_some _ (Heap.get?_push_of_some _ hC)) (wpAny_pure ?_)))))
    rw [e2]
    refine wpAny_pure (wpAny_pure ?_)
    show R _ _
    rw [Heap.size_push]
    exact hq
  repeat (first | simp only [e1, Bool.false_eq_true, if_false] | exact fin _ | lk)
theorem gm_new {w : World} {A : Around} {E : Value → Shared → Prop} {s : Shared} {pl : Sem Bool} {Q : Value × List Value → Shared → Prop} (X : (KK w).In s.heap) (h : Q (.builtin "object.__new__", []) { s with toks := s.toks + 1 }) :
    wpAny (MM w) A (getMethod (.type "object") (N "__new__") pl) Q E s := by
  have L0 : Looks (MM w) s.heap (typeOf (.type "object")) (.type "type") := Looks.of_pure (by kernel_rfl)
  have LO : Looks (MM w) s.heap (opaqueClassAbove (.type "object")) none := Looks.of_pure (by kernel_rfl)
  have hg : findIn (KK w) (.type "type") "__getattribute__" = some (some (.builtin "type.__getattribute__")) := type_tga
  have key : wpAny (MM w) A (getAttr (.type "object") (N "__new__")) (fun v s' => v = .builtin "object.__new__" ∧ Q (v, []) s') E s :=
    cls_open X LO L0 type_tga (looks_hook X (r := none) (by rfl)) (by show subIn (KK w) _ _ = _; rfl) (r := .val (.builtin "object.__new__")) (by kernel_rfl) (wpAny_pure (by
      show wpAny _ _ (handedOut (.builtin "object.__new__")) _ _ _
      rw [handedOut_of (by kernel_rfl)]
      exact wpAny_pure ⟨rfl, h⟩))
  unfold getMethod specialOf
  refine wpAny_bind (wpAny_bind (L0.here ((looks_findIn X hg).here ?_)))
  dsimp only
  rw [if_pos canon_tga]
  exact wpAny_bind (wpAny_mono key (fun v s' ⟨_, z⟩ => wpAny_pure z) fun _ _ z => z)
noncomputable def plainObj? (w : World) (a : Addr) : Bool := match (KK w).lookup a with
  | some o => o.cls != .type "tuple"
  | none => false
theorem plain705 (w : World) : plainObj? w 705 = true := by kernel_rfl
theorem plain458 (w : World) : plainObj? w 458 = true := by kernel_rfl
theorem plainObj_ok {w : World} {a : Addr} {h : Heap} (X : (KK w).In h) (e : plainObj? w a = true) : ∃ o, h.get? a = some o ∧ o.cls ≠ .type "tuple" := by
  unfold plainObj? at e
  split at e
  · next o q => exact ⟨o, X _ _ q, by simpa using e⟩
  · cases e
theorem o_isnot_rr {c : Fx} {n : Nat} {m : Loc} {σ : Sto} {Q : Value → Loc → Sto → Prop} {a b : Addr} (ok : c.Ok n) (ha : plainObj? c.w a = true) (hb : plainObj? c.w b = true) (h : Q (.bool (!(Nat.beq a b))) m σ) : Wo2 c Teq (compareOp .IsNot) (.ref a) (.ref b) m σ Q := by
  intro u u' t t' s hs
  rw [t.ref_inv, t'.ref_inv]
  obtain ⟨oa, h1, h2⟩ := plainObj_ok (hs.bg ok.bg).kk ha
  obtain ⟨ob, h3, h4⟩ := plainObj_ok (hs.bg ok.bg).kk hb
  cases e : Nat.beq a b with
  | true =>
    rw [e] at h
    cases Nat.eq_of_beq_eq_true e
    exact wpAny_isNot_ref_self ⟨_, m, σ, .same _, h, hs.toSr0⟩
  | false =>
    rw [e] at h
    exact wpAny_isNot_ref_other (Nat.ne_of_beq_eq_false e) h1 h3 h2 ⟨_, m, σ, .same _, h, hs.toSr0⟩
theorem keep_new (w : World) : KeepOk w (.builtin "object.__new__") := keepOk_b
theorem sio_new (w : World) (os : OsState) (n : Nat) (v : Value) : Fn w os (n + 1) (.ref 198) [.ref 705, v] [] [] (fun u σ' => ∃ x d, u = .ref x ∧ σ' = [(x, .inst 705 d), (d, .idict [])]) := by
  intro A g E s vs ks b r hh ht hkw hs
  obtain ⟨v1, v2, rfl, t1, t2⟩ := ht.inv2
  rw [t1.ref_inv]
  have X := (hs.bg b).kk
  have hks : ks = [] := hkw.inv0
  subst hks
  have F := f_new w
  refine codeAny_call_function (by unfold Room at r; omega) (X _ _ F.ho) rfl (by rw [F.hsc]; exact F.hco) (by rw [F.hsc]; exact F.hgen) F.hbody (codeRec_of X F.hcd) ?_
  show wpAny _ A.in1 (bindArgs (fdAt w 198) ⟨[.ref 705, v2], []⟩) _ _ s
  rw [new_bind]
  refine wpAny_bind (wpAny_newTuple (wpAny_bind ?_) (by rw [List.length_singleton, sizeLine_eq]; exact Nat.succ_pos _))
  unfold newDict
  refine wpAny_bind (wpAny_alloc (wpAny_pure (wpAny_pure ?_)))
  have z1 : Sr0 w os g [(s.heap.objs.size, .pred fun _ => True)] { s with heap := s.heap.push { cls := .type "tuple", data := .seq [v2].toArray } } := hs.toSr0.new (x := .pred fun _ => True) rfl trivial s.toks
  have z2 := z1.new (o := { cls := .type "dict", data := .dict #[] }) (x := .pred fun _ => True) rfl trivial s.toks
  have z3 : Sr w os g [] { s with heap := (s.heap.push { cls := .type "tuple", data := .seq [v2].toArray }).push { cls := .type "dict", data := .dict #[] } } := ⟨z2.sub (List.nil_sublist _), hs.tk⟩
  obtain ⟨n1, n2, n3, n4, n5, n6⟩ := new_names
  refine Fn.core (n := n) (m₀ := [(N "cls", some (.ref 705))]) ⟨F.g1, F.g2, F.g3⟩ ?_ (by rw [F.hsc]; exact F.hk) (by decide +kernel) b r hh z3 ?_ ?_ ?_
  · rw [F.hsc]
    intro z hz e
    have := List.all_eq_true.mp F.hcell z hz
    rw [e] at this; exact absurd this (by decide)
  · intro z hz
    rw [F.hsc]
    rcases List.mem_cons.mp hz with rfl | hz
    · exact n1
    · rcases List.mem_cons.mp hz with rfl | hz
      · exact n2
      · rcases List.mem_cons.mp hz with rfl | hz
        · exact n3
        · cases hz
  · intro z u hm
    rcases List.mem_cons.mp hm with e | hm
    · have e1 : z = N "cls" := congrArg Prod.fst e
      have e2 : some u = some (.ref 705) := congrArg Prod.snd e
      cases e2; subst e1
      exact ⟨.ref 705, by kernel_rfl, .same _⟩
    · cases hm
  · rintro c rfl rfl ecl ok
    rw [F.hsc]
    obtain ⟨p1, p2, p3, p4, p5, p6, p7, p8, p9, p10, p11, p12, p13, bb, e, epos⟩ := new_shape
    rw [e]
    have hk := F.hk
    refine Wx.cons (W1.if (Wb.boolop (Wall.and (Wb.cmp rfl (We.name hk n1 (by kernel_rfl) (.head _) (We.gl ok hk n5 .vBytesIO (o_isnot_rr ok (plain705 _) (plain458 _) (t_bool (if_t rfl ?_)))))))))
    refine Wall.and (Wb.cmp rfl (We.name hk n1 (by kernel_rfl) (.head _) (We.gl ok hk n6 .vStringIO (o_isnot_rr ok (plain705 _) (plain705 _) (t_bool (if_f rfl (if_f rfl ?_)))))))
    refine Wx.nil (seq_next (Wx.cons (W1.ret (We.meth1 ok (endLine_ok rfl rfl rfl epos) (star_cons rfl) (fun env => star_none (es := []) env rfl) (We.bl ok hk n4 .vobject ?_)))))
    · intro u tu s1 hs1
      rw [tu.type_inv]
      refine gm_new (hs1.bg ok.bg).kk ⟨(.builtin "object.__new__", []), _, _, ⟨.same _, .nil⟩, ⟨ex_b, keepOk_b, ?_⟩, hs1.toks _⟩
      refine Was.cons (star_cons rfl) (We.name hk n1 (by kernel_rfl) (.head _) (Was.nil ?_))
      intro us hu s2 hs2
      obtain ⟨u1, rfl, tu1⟩ := hu.inv1
      rw [tu1.ref_inv]
      refine wpAny_call ?_
      obtain ⟨h2, g2, d2, k2, os2⟩ := s2
      refine on_call c.w (hs2.bg ok.bg).kk ⟨.ref (h2.objs.size + 1), [(N "cls", some (.ref 705))], [(h2.objs.size + 1, .inst 705 h2.objs.size), (h2.objs.size, .idict [])], .same _, ⟨_, Picks.refl _, _, _, rfl, rfl⟩, ?_⟩
      have z1 := hs2.toSr0.new2 (x := .idict []) (o := emptyDict) rfl ⟨List.nodup_nil, #[], _, rfl, .nil⟩ k2
      have z2 := z1.new2 (x := .inst 705 h2.objs.size) (o := instObj 705 h2.objs.size) rfl rfl k2
      rw [show ({ heap := h2.push emptyDict, gens := g2, drawn := d2, toks := k2, os := os2 } : Shared).heap.objs.size = h2.objs.size + 1 from Heap.size_push ..] at z2
      exact z2
theorem sc_call (w : World) : peek (KK w) ⟨PG, w.params⟩ (specialOf (.ref 705) "__call__") = some (some (.builtin "type.__call__")) := by kernel_rfl
theorem sc_typ (w : World) : peek (KK w) ⟨PG, w.params⟩ (isInstance (.ref 705) (.type "type")) = some true := by kernel_rfl
theorem sc_made (w : World) : peek (KK w) ⟨PG, w.params⟩ (Bind.madeBy (.ref 705)) = some none := by kernel_rfl
theorem sc_self (w : World) : peek (KK w) ⟨PG, w.params⟩ (isSubtype (.ref 705) (.ref 705)) = some true := by kernel_rfl
theorem sc_mro (w : World) : peek (KK w) ⟨PG, w.params⟩ ((mroOf (.ref 705)) >>= fun l => pure l.isEmpty) = some false := by kernel_rfl
theorem sc_init (w : World) : findIn (KK w) (.ref 705) "__init__" = some (some (.ref 475)) := by kernel_rfl
theorem sc_fn (w : World) : typeIn (KK w) (.ref 475) = some (.type "function") := by kernel_rfl
theorem sc_rec (w : World) : (recIn (KK w) 202 "staticmethod").map (fun l => l.head?) = some (some (.ref 198)) := by kernel_rfl
theorem sc_reads (w : World) : readsIn (KK w) 705 (.type "type") = true := by kernel_rfl
theorem sc_find (w : World) : findCls (KK w) (.ref 705) (.type "type") "__new__" = some (.get (.builtin "staticmethod.__get__") (.ref 202) .none (.ref 705)) := by kernel_rfl
theorem sc_data (w : World) : (match (KK w).lookup 705 with | some ⟨_, _, .cls _, _⟩ => true | _ => false) = true := by kernel_rfl
section
variable {w : World} {A : Around} {E : Value → Shared → Prop} {s : Shared}
theorem sc_new {Q : Value → Shared → Prop} (X : (KK w).In s.heap) (h : Q (.ref 198) { s with toks := s.toks + 1 }) : wpAny (MM w) A (getAttr (.ref 705) "__new__") Q E s := by
  have e := sc_rec w
  obtain ⟨l, e1, e2⟩ := Option.map_eq_some_iff.mp e
  obtain ⟨r, rfl⟩ : ∃ r, l = .ref 198 :: r := by
    cases l with
    | nil => cases e2
    | cons a r => cases e2; exact ⟨r, rfl⟩
  exact cls_bind X (sc_reads w) (sc_find w) (wpAny_call (sm_get (s := { s with toks := s.toks + 1 }) X e1 (handed_on (by kernel_rfl) h)))
theorem sio_core {R : Result → Shared → Prop} {v : Value} (X : (KK w).In s.heap)
    (h : wpAny (MM w) (A.under (.builtin "type.__call__" ⟨[.ref 705, v], []⟩)) (call (.ref 198) [.ref 705, v]) (fun u s1 => ∃ x ox od, u = .ref x ∧ (KK w).In s1.heap ∧ InstAt s1.heap x ox 705 od ∧
      codeAny (MM w) (A.under (.builtin "type.__call__" ⟨[.ref 705, v], []⟩)) (.call (.ref 475) ⟨[.ref x, v], []⟩) (InitBack x R) s1) (fun e s' => R (.error e) s') { s with toks := s.toks + 1 }) :
    codeAny (MM w) A (.call (.ref 705) ⟨[v], []⟩) R s := by
  obtain ⟨oc, od, cd, sl, hC0, -, -, e4⟩ := on_cls w
  have hC := X _ _ hC0
  have call : Looks (MM w) s.heap (specialOf (.ref 705) "__call__") (some (.builtin "type.__call__")) := Looks.of_peek X (sc_call w)
  have typ : Looks (MM w) s.heap (isInstance (.ref 705) (.type "type")) true := Looks.of_peek X (sc_typ w)
  have made : Looks (MM w) s.heap (Bind.madeBy (.ref 705)) none := Looks.of_peek X (sc_made w)
  refine codeAny_of_tree ?_
  show wpAny _ _ (callAny (.ref 705) _) _ _ _
  refine nd_load hC ?_
  show wpAny _ _ (callAny.viaDunder (.ref 705) _) _ _ _
  unfold callAny.viaDunder
  refine wpAny_bind (call.at ?_)
  dsimp only
  rw [tc_bind]
  refine wpAny_bind (wpAny_pure (wpAny_bind (wpAny_pure ?_)))
  refine wpAny_pure (a := Fin.again (.call (.builtin "type.__call__") ⟨[.ref 705, v], []⟩)) (And.intro rfl ?_)
  refine codeAny_call_builtin_at (Code.quiet_builtin _ (by decide +kernel)) entry_typeCall (check_slot tc_kind tc_split typ (tc_args _ _ _) ?_)
  unfold Builtin.«type.__call__»
  have hm : Looks (MM w) s.heap (mroOf (.ref 705)) cd.mro := ((Looks.ld (part := none) hC).andThen .now).andThen .now
  dsimp only
  rw [if_neg (show ¬ ((Value.ref 705 == Value.type "type") = true) from Bool.false_ne_true)]
  refine wpAny_bind (hm.here ?_)
  rw [e4, if_neg Bool.false_ne_true]
  refine wpAny_bind (made.here ?_)
  dsimp only
  refine wpAny_bind (sc_new X ?_)
  refine wpAny_bind (wpAny_holding (wpAny_mono h (fun u s1 z => ?_) fun _ _ e => e))
  obtain ⟨x, ox, od, rfl, X1, I1, z⟩ := z
  have i1 : Looks (MM w) s1.heap (isInstance (.ref x) (.ref 705)) true := I1.type.andThen (Looks.of_peek X1 (sc_self w))
  refine wpAny_bind (i1.here ?_)
  rw [Bool.not_true, if_neg Bool.false_ne_true]
  refine wpAny_bind (wpAny_holding (special_fn X1 I1 (sc_init w) (sc_fn w) (wpAny_call (codeAny_mono z fun r s2 z => ?_))))
  rcases r with e | (u | _ | _ | _) <;> first | exact z | exact z.elim | skip
  obtain ⟨rfl, z⟩ := z
  exact wpAny_pure z
theorem Fn.sio {os : OsState} {n : Nat} {v : Value} {σ : Sto} {Q : Value → Sto → Prop} (h : ∀ x d, Fn w os (n + 1) (.ref 475) [.ref x, v] [] ((x, .inst 705 d) :: (d, .idict []) :: σ) (fun u σ' => u = .none ∧ Q (.ref x) σ')) : Fn w os (n + 2) (.ref 705) [v] [] σ Q := by
  intro A g E s vs ks b r hh ht hk hs
  obtain ⟨v1, rfl, t1⟩ := ht.inv1
  have hks : ks = [] := hk.inv0
  subst hks
  have key := Fn.beside (w := w) (os := os) (n := n + 1) (τ := σ) (σ := []) (Q := fun u σ' => ∃ x d, u = .ref x ∧ σ' = σ ++ [(x, .inst 705 d), (d, .idict [])]) ((sio_new w os n v).mono fun u σ' ⟨x, d, e1, e2⟩ => ⟨x, d, e1, by rw [e2]⟩)
  rw [List.append_nil] at key
  have r' : Room (n + 1) (A.under (.builtin "type.__call__" ⟨[.ref 705, v1], []⟩)) := by
    unfold Room at *
    rw [depth_under_make, units_under_make]
    omega
  refine sio_core (hs.bg b).kk (wm0 (Q := fun u s1 => ∃ x d, u = .ref x ∧ Sr0 w os g (σ ++ [(x, .inst 705 d), (d, .idict [])]) s1) (E := fun _ _ => False) (Nat.le_succ_of_le hs.tk) (wpAny_call (codeAny_mono (key _ g (fun _ _ => False) { s with toks := s.toks + 1 } [.ref 705, v1] [] b r' hh (.cons (.same _) (.cons t1 .nil)) .nil ⟨hs.toks _, Nat.le_succ_of_le hs.tk⟩) fun rr s1 z => ?_)) ?_ fun _ _ e => e.elim)
  · rcases rr with e | (u | _ | _ | _) <;> first | exact z.elim | skip
    obtain ⟨v', σ', tv, ⟨x, d, rfl, rfl⟩, hs1⟩ := z
    exact ⟨x, d, tv.ref_inv, hs1⟩
  · rintro u s1 tk ⟨x, d, rfl, hs1⟩
    have hs2 : Sr w os g ((x, .inst 705 d) :: (d, .idict []) :: σ) s1 := ⟨hs1.perm (List.perm_append_comm (l₁ := [(x, AO.inst 705 d), (d, AO.idict [])])), tk⟩
    obtain ⟨ox, od, I⟩ := hs2.inst0 (.head _) (.tail _ (.head _))
    refine ⟨x, ox, od, rfl, (hs2.bg b).kk, I, codeAny_mono (h x d _ g E s1 [.ref x, v1] [] b r' hh (.cons (.same _) (.cons t1 .nil)) .nil hs2) fun rr s2 z => ?_⟩
    rcases rr with e | (u | _ | _ | _) <;> first | exact z | exact z.elim | skip
    obtain ⟨v', σ', tv, ⟨rfl, hq⟩, hs3⟩ := z
    exact ⟨tv.none_inv, .ref x, σ', .same _, hq, hs3⟩
end
noncomputable abbrev Psi : Pm := ⟨c10, scopeOf (memSt 30 1), [], 2⟩
noncomputable def siM (buf : Str) : List (Str × Option V) := [(N "self", some (.loc 0)), (N "initial_value", some (.str false buf)), (N "newline", some (.str true (N "\n")))]
noncomputable def siH (buf : Str) : List (Nat × O) := [(0, .inst 705 1), (1, .dict [(N "_StringIO__newline", .str true (N "\n")), (N "_StringIO__buf", .str false buf), (N "_StringIO__pos", .int true 0)])]
theorem si_vc (buf : Str) (k : Fl → St → Prop) : evSs Psi (evN Psi J0) (bodyOf (memSt 30 1)) ⟨siM buf, [], [(0, .inst 705 1), (1, .dict [])], 2⟩ k = k .next ⟨siM buf, [], siH buf, 2⟩ := by kernel_rfl
noncomputable def dflt (w : World) (a : Addr) (i : Nat) : Value := match (KK w).lookup a with
  | some ⟨_, _, .seq xs _, _⟩ => xs.toList.getD i .none
  | _ => .none
noncomputable def strIs (v : Value) (x : Str) : Bool := match v with
  | .str s _ => s == x
  | _ => false
theorem strIs_ok {v : Value} {x : Str} (h : strIs v x = true) : Teq (S x) v := by
  unfold strIs at h
  split at h
  · cases eq_of_beq h; exact .str ..
  · cases h
theorem si_dflt (w : World) : strIs (dflt w 468 1) (N "\n") = true := by kernel_rfl
theorem si_ret (w : World) (os : OsState) (f : Bool) (buf : Str) : RetF w os 12 (.ref 705) 0 [.str f buf] [] (.loc 0) (siH buf) := by
  intro ρ
  refine Fn.sio (n := 10) fun x d => ?_
  have key := Fn.evK (w := w) (os := os) (n := 10) (j := J0) (fa := 475) (ρ := fun i => if i = 0 then x else d) (args := [.ref x, S buf]) (kw := []) (st0 := ⟨siM buf, [], [(0, .inst 705 1), (1, .dict [])], 2⟩) (P := Psi) (K := fun v st => v = .none ∧ st.h = siH buf) (f_ioInit w) rfl rfl (c10_ok w os) (by decide) rfl (by kernel_rfl) ?_ (Eq.mpr (si_vc buf _) ⟨rfl, rfl⟩)
  · refine Fn.mono key ?_
    rintro u σ' ⟨v', st', ρ', rfl, ag, ⟨rfl, hh⟩, rfl⟩
    refine ⟨rfl, ρ', fun i hi => absurd hi (Nat.not_lt_zero i), ?_, by rw [hh]⟩
    exact congrArg Value.ref (ag 0 (by decide)).symm
  · intro vs ks h hk
    obtain ⟨v1, v2, rfl, t1, t2⟩ := h.inv2
    have hk := hk.inv0
    subst hk
    refine ⟨[(N "self", v1), (N "initial_value", v2), (N "newline", dflt w 468 1)], fun S => ?_, by kernel_rfl, .yes (by kernel_rfl) t1 (.yes (by kernel_rfl) t2 (.yes (by kernel_rfl) (strIs_ok (si_dflt w)) .nil))⟩
    kernel_rfl
noncomputable def c13 : CT := cAdd 705 (fun vs st k => match vs with | [.str f b] => giveH (.loc 0) (siH b) 2 st k | _ => False) c10
theorem c13_ok (w : World) (os : OsState) : CTok w os 12 c13 := by
  refine cAdd_ok ((c10_ok w os).le (by decide)) ?_
  intro vs st k h c e1 e2 ok ρ us ht
  split at h
  · exact give_ok (si_ret w os _ _) e1 e2 ok (Nat.le_refl _) h ht
  · exact h.elim
noncomputable abbrev Pli : Pm := ⟨c13, scopeOf (memSt 41 0), [], 2⟩
noncomputable def liM (buf : Str) : List (Str × Option V) := [(N "self", some (.loc 0)), (N "instream", some (.str false buf)), (N "infile", some .none), (N "posix", some (.bool true true)), (N "punctuation_chars", some (.bool true false)), (N "t", none)]
theorem sh_makes (w : World) : makesIn (KK w) 840 = true := by kernel_rfl
theorem sh_init (w : World) : findIn (KK w) (.ref 840) "__init__" = some (some (.ref 764)) := by kernel_rfl
theorem sh_fn (w : World) : typeIn (KK w) (.ref 764) = some (.type "function") := by kernel_rfl
theorem under_dep (A : Around) (C : Addr) (a : List Value) (kw : List (Str × Value)) : (A.under (.builtin "type.__call__" ⟨.ref C :: a, kw⟩)).depth = A.depth + 1 := rfl
theorem under_uni (A : Around) (C : Addr) (a : List Value) (kw : List (Str × Value)) : (A.under (.builtin "type.__call__" ⟨.ref C :: a, kw⟩)).units = A.units + 1 := rfl
theorem Fn.shl {w : World} {os : OsState} {n : Nat} {v p : Value} {σ : Sto} {Q : Value → Sto → Prop} (h : ∀ x d, Fn w os (n + 1) (.ref 764) [.ref x, v] [(N "posix", p)] ((x, .inst 840 d) :: (d, .idict []) :: σ) (fun u σ' => u = .none ∧ Q (.ref x) σ')) : Fn w os (n + 2) (.ref 840) [v] [(N "posix", p)] σ Q := by
  intro A g E s vs ks b r hh ht hk hs
  obtain ⟨v1, rfl, t1⟩ := ht.inv1
  obtain ⟨k1, rfl, t2⟩ := hk.inv1
  have X := (hs.bg b).kk
  have r' : Room (n + 1) (A.under (.builtin "type.__call__" ⟨[.ref 840, v1], [(N "posix", k1)]⟩)) := by
    unfold Room at *
    rw [under_dep, under_uni]
    omega
  have tk := hs.tk
  obtain ⟨hp, g', d, t, os'⟩ := s
  refine make_core (makes_of X (sh_makes w)) (looks_findIn X (sh_init w)) (fun self => bind_fn X self (sh_fn w)) (.inl rfl) ?_
  have z1 := hs.toSr0.new (x := .idict []) (o := emptyDict) rfl ⟨List.nodup_nil, #[], _, rfl, .nil⟩ t
  have z2 := z1.new (x := .inst 840 hp.objs.size) (o := instObj 840 hp.objs.size) rfl rfl t
  rw [show ({ heap := hp.push emptyDict, gens := g', drawn := d, toks := t, os := os' } : Shared).heap.objs.size = hp.objs.size + 1 from Heap.size_push ..] at z2
  refine codeAny_mono (h (hp.objs.size + 1) hp.objs.size _ g E _ [.ref (hp.objs.size + 1), v1] [k1] b r' hh (.cons (.same _) (.cons t1 .nil)) (.cons t2 .nil) ⟨z2, tk⟩) fun rr s2 z => ?_
  rcases rr with e | (u | _ | _ | _) <;> first | exact z | exact z.elim | skip
  obtain ⟨v', σ', tv, ⟨rfl, hq⟩, hs3⟩ := z
  exact ⟨tv.none_inv, .ref (hp.objs.size + 1), σ', .same _, hq, hs3⟩
noncomputable def wch : Str := N "abcdfeghijklmnopqrstuvwxyzABCDEFGHIJKLMNOPQRSTUVWXYZ0123456789_ßàáâãäåæçèéêëìíîïðñòóôõöøùúûüýþÿÀÁÂÃÄÅÆÇÈÉÊËÌÍÎÏÐÑÒÓÔÕÖØÙÚÛÜÝÞ"
noncomputable def liH (buf : Str) : List (Nat × O) := [(5, .deq), (4, .deq), (2, .inst 705 3), (3, .dict [(N "_StringIO__newline", .str true (N "\n")), (N "_StringIO__buf", .str false buf), (N "_StringIO__pos", .int true 0)]), (0, .inst 840 1), (1, .dict [((N "instream"), (.loc 2)), ((N "infile"), .none), ((N "posix"), (.bool true true)), ((N "eof"), .none), ((N "commenters"), (.str true (N "#"))), ((N "wordchars"), (.str true wch)), ((N "whitespace"), (.str true (N " \t\x0d\n"))), ((N "whitespace_split"), (.bool true false)), ((N "quotes"), (.str true (N "'\""))), ((N "escape"), (.str true (N "\\"))), ((N "escapedquotes"), (.str true (N "\""))), ((N "state"), (.str true (N " "))), ((N "pushback"), (.loc 4)), ((N "lineno"), (.int true 1)), ((N "debug"), (.int true 0)), ((N "token"), (.str true (N ""))), ((N "filestack"), (.loc 5)), ((N "source"), .none), ((N "_punctuation_chars"), (.str true (N "")))])]
noncomputable def liM2 (buf : Str) : List (Str × Option V) := [(N "self", some (.loc 0)), (N "instream", some (.loc 2)), (N "infile", some .none), (N "posix", some (.bool true true)), (N "punctuation_chars", some (.str true (N ""))), (N "t", none)]
theorem li_vc (buf : Str) (k : Fl → St → Prop) : evSs Pli (evN Pli J0) (bodyOf (memSt 41 0)) ⟨liM buf, [], [(0, .inst 840 1), (1, .dict [])], 2⟩ k = k .next ⟨liM2 buf, [], liH buf, 6⟩ := by kernel_rfl
theorem li_none (w : World) : (match dflt w 757 1 with | .none => true | _ => false) = true := by kernel_rfl
theorem li_false (w : World) : (match dflt w 757 3 with | .bool false => true | _ => false) = true := by kernel_rfl
theorem li_d1 (w : World) : dflt w 757 1 = .none := by
  have h := li_none w
  split at h
  · next e => exact e
  · cases h
theorem li_d3 (w : World) : dflt w 757 3 = .bool false := by
  have h := li_false w
  split at h
  · next e => exact e
  · cases h
noncomputable def liK (buf : Str) (v : V) (st : St) : Prop := v = .none ∧ st.h = liH buf
theorem liK_ok (buf : Str) : liK buf (retV .next) ⟨liM2 buf, [], liH buf, 6⟩ := ⟨rfl, rfl⟩
theorem li_t1 (w : World) : Teq .none (dflt w 757 1) := by rw [li_d1]; exact .same _
theorem li_t3 (w : World) : Teq (.bool false) (dflt w 757 3) := by rw [li_d3]; exact .same _
structure Ran (P : Pm) (j : Nat) (ss : List Stmt) (st : St) (K : V → St → Prop) : Prop where
  run : evSs P (evN P j) ss st (fun f st => K (retV f) st)
theorem li_run (buf : Str) : Ran Pli J0 (bodyOf (memSt 41 0)) ⟨liM buf, [], [(0, .inst 840 1), (1, .dict [])], 2⟩ (liK buf) := ⟨by rw [li_vc]; exact liK_ok buf⟩
theorem Fn.evR {w : World} {os : OsState} {n j : Nat} {fa : Addr} {stmt : Stmt} (F : FOk w fa stmt) {P : Pm} (hsc : P.sc = scopeOf stmt) (hcn : P.cn = []) (hC : CTok w os n P.C) (hn : 2 ≤ n) {args : List Value} {kw : List (Str × Value)} {st0 : St} {ρ : Nat → Addr} (hc0 : st0.c = [])
    (hnd : decide ((st0.m.map (·.1)).Nodup) = true) (hb : ∀ vs ks, TeqL args vs → TeqL (kw.map (·.2)) ks → ∃ binds, (∀ S, peek (KK w) S (bindArgs (fdAt w fa) ⟨vs, (kw.map (·.1)).zip ks⟩) = some binds) ∧ (binds.all (fun x => (scopeOf stmt).names.lookup x.1 == some .local)) = true ∧ BLoc binds (mre ρ st0.m)) {K : V → St → Prop}
    (h : Ran P j (bodyOf stmt) st0 K) : Fn w os (n + 1) (.ref fa) args kw (hre ρ st0.h) (fun v σ => ∃ v' st' ρ', v = v'.re ρ' ∧ Agree P.pn ρ ρ' ∧ K v' st' ∧ σ = hre ρ' st'.h) := Fn.evK F hsc hcn hC hn hc0 hnd hb h.run
theorem li_ret (w : World) (os : OsState) (buf : Str) : Fn w os 15 (.ref 840) [S buf] [(N "posix", .bool true)] [] (fun u σ' => ∃ ρ' : Nat → Addr, u = .ref (ρ' 0) ∧ σ' = hre ρ' (liH buf)) := by
  refine Fn.shl (n := 13) fun x d => ?_
  have key := Fn.evR (w := w) (os := os) (n := 13) (j := J0) (fa := 764) (ρ := fun i => if i = 0 then x else d) (args := [.ref x, S buf]) (kw := [(N "posix", .bool true)]) (st0 := ⟨liM buf, [], [(0, .inst 840 1), (1, .dict [])], 2⟩) (P := Pli) (K := liK buf) (f_lexInit w) rfl rfl ((c13_ok w os).le (by decide)) (by decide) rfl (by kernel_rfl) ?_ (li_run buf)
  · refine Fn.mono key ?_
    rintro u σ' ⟨v', st', ρ', rfl, ag, ⟨rfl, hh⟩, rfl⟩
    refine ⟨rfl, ρ', ?_, by rw [hh]⟩
    exact congrArg Value.ref (ag 0 (by decide)).symm
  · intro vs ks h hk
    obtain ⟨v1, v2, rfl, t1, t2⟩ := h.inv2
    obtain ⟨k1, rfl, t3⟩ := hk.inv1
    refine ⟨[(N "self", v1), (N "instream", v2), (N "infile", dflt w 757 1), (N "posix", k1), (N "punctuation_chars", dflt w 757 3)], fun S => ?_, by kernel_rfl, .yes (by kernel_rfl) t1 (.yes (by kernel_rfl) t2 (.yes (by kernel_rfl) (li_t1 w) (.yes (by kernel_rfl) t3 (.yes (by kernel_rfl) (li_t3 w) (.no .nil)))))⟩
    kernel_rfl
theorem We.kw1 {c : Fx} {n : Nat} {sc : Scope} {m : Loc} {σ : Sto} {x kn : Str} {np pos kp : Pos} {e kv : Expr} {Q : Value → Loc → Sto → Prop} (ok : c.Ok n) (hs' : (!isStar e) = true)
    (h : We c sc (.Name x np) m σ (fun f m1 σ1 => (∀ f', Teq f f' → f' = f) ∧ KeepOk c.w f ∧ We c sc e m1 σ1 (fun v m2 σ2 => We c sc kv m2 σ2 (fun u m3 σ3 => ∀ v' u', Teq v v' → Teq u u' → WT c Teq (call f [v'] [(kn, u')]) m3 σ3 Q)))) :
    We c sc (.Call (.Name x np) [e] [⟨some kn, kv, kp⟩] pos) m σ Q := by
  intro s hs
  refine wpAny_Call_ofName (wm hs.tk (h s hs) (fun f' s1 f m1 σ1 t1 z hs1 => ?_) fun _ _ e => e)
  obtain ⟨h1, h2, h3⟩ := z
  rw [h1 _ t1]
  have he : starEach [e] (c.env sc) = (false, eval e (c.env sc)) :: starEach [] (c.env sc) := star_cons hs' _
  refine callWith_of (P := (KK c.w).In) ?_ h2 (evalArgs_kw2 rfl ?_ he)
  · rw [he]; rfl
  · refine wpAny_items_cons (wm hs1.tk (h3 s1 hs1) (fun v' s2 v m2 σ2 t2 h4 hs2 => wpAny_items_nil ?_) fun _ _ e => e) he
    refine wpAny_evalAll_cons (wpAny_bind (wm hs2.tk (h4 s2 hs2) (fun u' s3 u m3 σ3 t3 h5 hs3 => wpAny_bind (wpAny_standAt (wpAny_pure (wpAny_evalAll_nil ⟨(hs3.bg ok.bg).kk, ?_⟩)))) fun _ _ e => e))
    exact h5 v' u' t2 t3 s3 hs3
noncomputable def spB : List Stmt := bodyOf (topSt 42)
noncomputable def sp0 : Stmt := nth spB 0
noncomputable def sp2 : Stmt := nth spB 2
noncomputable def sp3 : Stmt := nth spB 3
theorem sp_shape : ∃ p1 p2 p3 p4 p5 p6 p7 p8 p9 p10 p11, spB = sp0 :: .Assign [.Name (N "lex") p1] (.Call (.Name (N "shlex") p2) [.Name (N "s") p3] [⟨some (N "posix"), .Name (N "posix") p4, p5⟩] p6) p7 :: ([sp2, sp3] ++ [.Return (some (.Call (.Name (N "list") p8) [.Name (N "lex") p9] [] p10)) p11]) := ⟨_, _, _, _, _, _, _, _, _, _, _, by with_unfolding_all rfl⟩
noncomputable def splM (buf : Str) (lx : Option V) : List (Str × Option V) := [(N "s", some (.str false buf)), (N "comments", some (.bool true false)), (N "posix", some (.bool true true)), (N "lex", lx)]
noncomputable abbrev Psp (pn : Nat) : Pm := pm c10 (topSt 42) pn
theorem sp_0 (buf : Str) (k : Fl → St → Prop) : (evN (Psp 0) J0).s sp0 ⟨splM buf none, [], [], 0⟩ k = k .next ⟨splM buf none, [], [], 0⟩ := by kernel_rfl
noncomputable def liH2 (buf : Str) : List (Nat × O) := [(5, .deq), (4, .deq), (2, .inst 705 3), (3, .dict [(N "_StringIO__newline", .str true (N "\n")), (N "_StringIO__buf", .str false buf), (N "_StringIO__pos", .int true 0)]), (0, .inst 840 1), (1, .dict [((N "instream"), (.loc 2)), ((N "infile"), .none), ((N "posix"), (.bool true true)), ((N "eof"), .none), ((N "commenters"), (.str true (N ""))), ((N "wordchars"), (.str true wch)), ((N "whitespace"), (.str true (N " \t\x0d\n"))), ((N "whitespace_split"), (.bool true true)), ((N "quotes"), (.str true (N "'\""))), ((N "escape"), (.str true (N "\\"))), ((N "escapedquotes"), (.str true (N "\""))), ((N "state"), (.str true (N " "))), ((N "pushback"), (.loc 4)), ((N "lineno"), (.int true 1)), ((N "debug"), (.int true 0)), ((N "token"), (.str true (N ""))), ((N "filestack"), (.loc 5)), ((N "source"), .none), ((N "_punctuation_chars"), (.str true (N "")))])]
theorem sp_23 (buf : Str) (k : Fl → St → Prop) : evSs (Psp 6) (evN (Psp 6) J0) [sp2, sp3] ⟨splM buf (some (.loc 0)), [], liH buf, 6⟩ k = k .next ⟨splM buf (some (.loc 0)), [], liH2 buf, 6⟩ := by kernel_rfl
theorem perm6 {α : Type} (a b c d e f : α) : [f, e, c, d, a, b].Perm [a, b, c, d, e, f] := by
  have h1 : ([f, e] ++ ([c, d] ++ [a, b])).Perm (([c, d] ++ [a, b]) ++ [f, e]) := List.perm_append_comm
  have h2 : (([c, d] ++ [a, b]) ++ [f, e]).Perm (([a, b] ++ [c, d]) ++ [f, e]) := List.Perm.append_right _ List.perm_append_comm
  have h3 : (([a, b] ++ [c, d]) ++ [f, e]).Perm (([a, b] ++ [c, d]) ++ [e, f]) := List.Perm.append_left _ (List.Perm.swap _ _ _)
  exact h1.trans (h2.trans h3)
theorem liH2_re (ρ : Nat → Addr) (buf : Str) : Picks (hre ρ (liH2 buf)) (hre ρ (lexH wch (endV false) (.str true (N "")) 1 buf (0 : Nat))) := by
  refine Picks.of_perm (τ := []) ?_
  rw [List.append_nil]
  exact (perm6 _ _ _ _ _ _).symm
theorem split_bind (w : World) (u : Value) : Bd w 852 ⟨[u], []⟩ [(N "s", u), (N "comments", dflt w 845 0), (N "posix", dflt w 845 1)] := .peek (fun S => by kernel_rfl)
theorem split_d0 (w : World) : (match dflt w 845 0 with | .bool false => true | _ => false) = true := by kernel_rfl
theorem split_d1 (w : World) : (match dflt w 845 1 with | .bool true => true | _ => false) = true := by kernel_rfl
theorem split_t0 (w : World) : Teq (.bool false) (dflt w 845 0) := by
  have h := split_d0 w
  split at h
  · next e => rw [e]; exact .same _
  · cases h
theorem split_t1 (w : World) : Teq (.bool true) (dflt w 845 1) := by
  have h := split_d1 w
  split at h
  · next e => rw [e]; exact .same _
  · cases h
theorem split_loc (w : World) (u : Value) : (List.all [(N "s", u), (N "comments", dflt w 845 0), (N "posix", dflt w 845 1)] (fun x => (scopeOf (topSt 42)).names.lookup x.1 == some .local)) = true := by kernel_rfl
theorem split_bl (w : World) {buf : Str} {u : Value} (t : Teq (S buf) u) (ρ : Nat → Addr) : BLoc [(N "s", u), (N "comments", dflt w 845 0), (N "posix", dflt w 845 1)] (mre ρ (splM buf none)) :=
  .yes (by kernel_rfl) t (.yes (by kernel_rfl) (split_t0 w) (.yes (by kernel_rfl) (split_t1 w) (.no .nil)))
theorem split_names : (scopeOf (topSt 42)).names.lookup (N "s") = some .local ∧ (scopeOf (topSt 42)).names.lookup (N "posix") = some .local ∧ (scopeOf (topSt 42)).names.lookup (N "lex") = some .local ∧ (scopeOf (topSt 42)).names.lookup (N "shlex") = some .globalImplicit ∧ (scopeOf (topSt 42)).names.lookup (N "list") = some .globalImplicit := ⟨by kernel_rfl, by kernel_rfl, by kernel_rfl, by kernel_rfl, by kernel_rfl⟩
theorem keep840 (w : World) : keepIn (KK w) (.ref 840) = true := by kernel_rfl
section
variable {w : World} {os : OsState} {g : Heap} {fs : List (Addr × Loc)} {l : List Env} {buf : Str} {ws : List Str} {A : Around} {s : Shared}
theorem split_call (b : Bg w g) (r : Room 16 A) (hh : A.handled = none) (F : Frs l fs) (hAf : A.frames = some l) (hs : Sr w os g (frS fs) s) {u : Value} (tu : Teq (S buf) u) (L : LexOk wch buf) (H : LexAll false buf.cps.toList ws) (hz : ws.length ≤ sizeLine) :
    codeAny (MM w) A (.call (.ref 852) ⟨[u], []⟩) (fun r s' => ∃ lA, r = .ok (.ret (.ref lA)) ∧ Sr0 w os g ((lA, .list (ws.map S)) :: frS fs) s') s := by
  have hk : (scopeOf (topSt 42)).kind = .function := by kernel_rfl
  obtain ⟨n1, n2, n3, n4, n5⟩ := split_names
  refine call_o (n := 15) (m₀ := mre (fun _ => 0) (splM buf none)) (f_split w) b r hh hs (split_bind w u) (split_loc w u) (split_bl w tu _) (by kernel_rfl) ?_
  rintro c rfl rfl rfl ecl ok hA hfr -
  have X : Cx c.w c.os 15 [] c := ⟨rfl, rfl, by rw [ecl]; rfl, ok⟩
  have hC : CTok c.w c.os 15 c10 := (c10_ok c.w c.os).le (by decide)
  obtain ⟨p1, p2, p3, p4, p5, p6, p7, p8, p9, p10, p11, e⟩ := sp_shape
  have e' : bodyOf (topSt 42) = spB := rfl
  rw [e', e]
  have b0 : ∀ m, Below m (frS fs) m (frS fs ++ []) := fun m => ⟨rfl, fun _ _ h => h, by rw [List.append_nil]; exact Picks.refl _⟩
  refine Wx.cons (WT.below (b0 _) (WT.mono (WT.beside (c := c) (τ := frS fs) (σ := []) (R := FTeq) (Q := fun f m σ => f = Flow.next ∧ Below m σ (mre (fun _ => 0) (splM buf none)) []) fun g' kg => ?_) ?_))
  · refine WT.mono ((evN_ok (P := Psp 0) hC hk (by decide) J0).s { c with g := g' } (X.setG kg) sp0 ⟨splM buf none, [], [], 0⟩ (fun f st => f = .next ∧ st = ⟨splM buf none, [], [], 0⟩) (fun _ => 0) (Nat.zero_le _) ?_) ?_
    · rw [sp_0]; exact ⟨rfl, rfl⟩
    · rintro f m σ ⟨f', st', ρ', rfl, bl, ag, rfl, rfl⟩
      have e1 : mre ρ' (splM buf none) = mre (fun _ => 0) (splM buf none) := rfl
      exact ⟨rfl, bl⟩
  rintro f m σ ⟨σ'', rfl, rfl, b1, b2, b3⟩
  obtain ⟨τ3, ht3⟩ := b3
  have bl1 : Below m (frS fs ++ σ'') (mre (fun _ => 0) (splM buf none)) (frS fs ++ []) := ⟨b1, b2, Picks.of_perm (τ := τ3) (by rw [List.append_assoc]; exact ht3.perm.append_left _)⟩
  refine WT.below bl1 (Wx.cons (W1.assign rfl hk n3 (We.kw1 ok rfl (We.gl ok hk n4 .vshlex ⟨ex_r, keepOk_K (keep840 _), We.name hk n1 (by kernel_rfl) (.head _) (We.name hk n2 (by kernel_rfl) (.tail _ (.tail _ (.head _))) ?_)⟩))))
  intro v' u' tv tu'
  have hcall := WT.call (c := c) (n := 15) (n' := 15) (m := mre (fun _ => 0) (splM buf none)) (σ := frS fs ++ []) (args := [S buf]) (vs := [v']) (kw := [(N "posix", .bool true)]) (ks := [u']) (Q := fun v m1 σ1 => ∃ ρ' : Nat → Addr, v = .ref (ρ' 0) ∧ m1 = mre (fun _ => 0) (splM buf none) ∧ σ1 = frS fs ++ hre ρ' (liH buf)) ok (Nat.le_refl _) (.cons tv .nil) (.cons tu' .nil)
    (Fn.beside ((li_ret c.w c.os buf).mono fun v σ' ⟨ρ', e1, e2⟩ => ⟨ρ', e1, rfl, by rw [e2]⟩))
  refine WT.mono hcall ?_
  rintro v m1 σ1 ⟨ρ, rfl, rfl, rfl⟩
  refine ⟨mre ρ (splM buf (some (.loc 0))), .there (.there (.there .here)), ?_⟩
  refine seq_next (Wx.append ?_)
  have k23 : WT c FTeq (execs [sp2, sp3] (c.env (scopeOf (topSt 42)))) (mre ρ (splM buf (some (.loc 0)))) (frS fs ++ hre ρ (liH buf)) (fun f m σ => f = Flow.next ∧ Below m σ (mre ρ (splM buf (some (.loc 0)))) (frS fs ++ hre ρ (liH2 buf))) := by
    refine WT.mono (WT.beside (c := c) (τ := frS fs) (R := FTeq) (Q := fun f m σ => f = Flow.next ∧ Below m σ (mre ρ (splM buf (some (.loc 0)))) (hre ρ (liH2 buf))) fun g' kg => ?_) ?_
    · refine WT.mono (evSs_ok (st := ⟨splM buf (some (.loc 0)), [], liH buf, 6⟩) (k := fun f st => f = .next ∧ st = ⟨splM buf (some (.loc 0)), [], liH2 buf, 6⟩) (ρ := ρ) (evN_ok (P := Psp 6) hC hk (by decide) J0) (X.setG kg) ?_) ?_
      · rw [sp_23]; exact ⟨rfl, rfl⟩
      · rintro f m σ ⟨f', st', ρ', rfl, bl, ag, rfl, rfl⟩
        have e1 : mre ρ' (splM buf (some (.loc 0))) = mre ρ (splM buf (some (.loc 0))) := mre_eq (n := 6) ag rfl
        have e2 : hre ρ' (liH2 buf) = hre ρ (liH2 buf) := hre_eq (n := 6) ag (by kernel_rfl)
        refine ⟨rfl, ?_⟩
        rw [← e1, ← e2]; exact bl
    · rintro f m σ ⟨σ'', rfl, rfl, c1, c2, c3⟩
      obtain ⟨τ4, ht4⟩ := c3
      exact ⟨rfl, c1, c2, Picks.of_perm (τ := τ4) (by rw [List.append_assoc]; exact ht4.perm.append_left _)⟩
  refine WT.mono k23 ?_
  rintro f m2 σ2 ⟨rfl, bl2⟩
  have bl3 : Below m2 σ2 (mre ρ (splM buf (some (.loc 0)))) (frS fs ++ hre ρ (lexH wch (endV false) (.str true (N "")) 1 buf (0 : Nat))) := by
    refine bl2.trans ⟨rfl, fun _ _ h => h, ?_⟩
    obtain ⟨τ5, ht5⟩ := liH2_re ρ buf
    exact Picks.of_perm (τ := τ5) (by rw [List.append_assoc]; exact ht5.perm.append_left _)
  refine seq_next (WT.below bl3 (Wx.cons (W1.ret (We.call1 ok (star_cons rfl) (fun env => star_none (es := []) env rfl) (We.bl ok hk n5 .vlist ⟨ex_t, keepOk_t, Was.cons (star_cons rfl) (We.name hk n3 (by kernel_rfl) (.tail _ (.tail _ (.tail _ (.head _)))) (Was.nil ?_))⟩)))))
  intro us hu s1 hs1
  obtain ⟨u1, rfl, tu1⟩ := hu.inv1
  rw [tu1.ref_inv]
  have F2 : Frs (c.env (scopeOf (topSt 42)) :: l) ((c.L, mre ρ (splM buf (some (.loc 0)))) :: fs) := .cons (by show (scopeOf (topSt 42)).kind ≠ .module; rw [hk]; decide) hfr F
  refine list_lex (fs := (c.L, mre ρ (splM buf (some (.loc 0)))) :: fs) (ρ := ρ) (wc := wch) (buf := buf) (vs := ws) (p := 0) (ln := 1) ok.bg ok.room ok.hh F2 (by rw [hA]; exact Around.frames_deeper hAf) hs1 L (Nat.zero_le _) (by rw [List.drop_zero]; exact H) hz ?_
  intro lA s2 hs2
  refine ⟨.ref lA, mre ρ (splM buf (some (.loc 0))), (lA, .list (ws.map S)) :: frS fs, .same _, ?_, hs2.perm (.swap ..)⟩
  intro u2 s3 t2 hs3
  exact ⟨lA, by rw [t2.ref_inv], hs3.sub (List.sublist_cons_self ..)⟩
end
noncomputable def relab (scope sc : Scope) : Scope := { scope with names := scope.names.map fun (n, k) => if (k == .free && sc.kind == .function && sc.names.lookup n == some .cell) then (n, .cell) else (n, k) }
noncomputable def ifsLoop (ifs : List Expr) (env : Env) : Sem Bool := forIn ifs true fun c r => if r = true then do let ok ← isTrue c env (eval c env); pure (ForInStep.yield ok) else pure (ForInStep.yield r)
theorem ifs_nil {c : Fx} {sc : Scope} {m : Loc} {σ : Sto} {Q : Bool → Loc → Sto → Prop} (h : Q true m σ) : WT c Eq (ifsLoop [] (c.env sc)) m σ Q := by
  intro s hs
  unfold ifsLoop
  rw [List.forIn_nil]
  exact wpAny_pure ⟨true, m, σ, rfl, h, hs.toSr0⟩
theorem ifs_one {c : Fx} {sc : Scope} {m : Loc} {σ : Sto} {t : Expr} {Q : Bool → Loc → Sto → Prop} (h : Wb c sc t m σ Q) : WT c Eq (ifsLoop [t] (c.env sc)) m σ Q := by
  intro s hs
  unfold ifsLoop
  rw [List.forIn_cons, if_pos rfl]
  refine wpAny_bind (wpAny_bind (wpAny_mono (h s hs) (fun b s1 z => wpAny_pure ?_) fun _ _ e => e))
  dsimp only
  rw [List.forIn_nil]
  exact wpAny_pure z
noncomputable def turnQ (w : World) (os : OsState) (cl : List (Str × Addr)) (n : Nat) (sc : Scope) (x : Str) (elt : Expr) (σ : Sto) (r : Option Value) (b : Bool) (m1 : Loc) (σ1 : Sto) : Prop := m1.map (·.1) = [x] ∧ Picks σ1 σ ∧ match r with
    | none => b = false
    | some y => b = true ∧ ∀ c2 : Fx, c2.w = w → c2.os = os → c2.cl = cl → c2.Ok n → We c2 sc elt m1 σ1 (fun y' m2 σ2 => y' = y ∧ m2.map (·.1) = [x] ∧ Picks σ2 σ)
noncomputable def Wturn (w : World) (os : OsState) (cl : List (Str × Addr)) (n : Nat) (sc : Scope) (x : Str) (ifs : List Expr) (elt : Expr) (v : Value) (σ : Sto) (r : Option Value) : Prop :=
  ∀ c : Fx, c.w = w → c.os = os → c.cl = cl → c.Ok n → WT c Eq (ifsLoop ifs (c.env sc)) [(x, some v)] σ (turnQ w os cl n sc x elt σ r)
noncomputable def Wcomp (c : Fx) (sc : Scope) (e : Expr) (scope : Scope) (cl : List (Str × Addr)) (use : Option (Value → Sem Unit)) (it : Value) (m : Loc) (σ : Sto) (Q : Value → Loc → Sto → Prop) : Prop :=
  ∀ s, Sr c.w c.os c.g ((c.L, .ns m) :: σ) s → wpAny (MM c.w) c.A (newList []) (fun acc s₃ =>
      wpAny (MM c.w) c.A (newFunctionEnv scope (c.env sc).globals cl [] (c.env sc).qual none .none (some (c.env sc))) (fun cenv s₄ =>
        codeAny (MM c.w) c.A (.compStart e 0 it acc { cenv with scope := relabel scope (c.env sc) }) (compPost (MM c.w) c.A c.E use (fun v s' => ∃ b m' σ', Teq b v ∧ Q b m' σ' ∧ Sr0 c.w c.os c.g ((c.L, .ns m') :: σ') s') acc cenv.locals) s₄) c.E s₃) c.E s
theorem wt_comp {c : Fx} {n : Nat} {sc scope : Scope} {m : Loc} {σ : Sto} {e : Expr} {pos : Pos} {g : Comprehension} {gs : List Comprehension} {cl : List (Str × Addr)} {use : Option (Value → Sem Unit)} {Q : Value → Loc → Sto → Prop}
    (hcl : clausesOf e = g :: gs) (hs : ∀ x, foldedSetIterable g.iter (c.env sc) x = pure x) (hclos : closureFor scope (c.env sc) = pure cl) (hkind : scope.kind = .function) (hnames : ∀ x ∈ scope.names, x.2 = .local → scope.names.lookup x.1 = some .local)
    (h : We c sc g.iter m σ (fun v m1 σ1 => Wo1 c (fun a b => a = b ∧ ∃ r, a = Value.ref r) pyIter v m1 σ1 (fun it m2 σ2 => Wcomp c sc e scope cl use it m2 σ2 Q))) :
    WT c Teq (comprehension e scope (c.env sc) pos (newList []) false (eval g.iter (c.env sc)) use) m σ Q := by
  intro s hs'
  refine wpAny_comprehension_free hcl hs hclos hkind hnames (wm hs'.tk (h s hs') (fun v s1 v' m1 σ1 t1 h1 hs1 => wm hs1.tk (h1 v t1 s1 hs1) (fun it s2 it' m2 σ2 z h2 hs2 => ?_) fun _ _ e => e) fun _ _ e => e)
  obtain ⟨e1, _⟩ := z
  subst e1
  exact h2 s2 hs2
noncomputable def optL : Option Value → List Value
  | none => []
  | some y => [y]
noncomputable def resUp (F : Nat → Option Value) (i : Nat) : List Value := (List.range i).filterMap F
theorem resUp_succ {F : Nat → Option Value} {i : Nat} : resUp F (i + 1) = resUp F i ++ optL (F i) := by
  unfold resUp
  rw [List.range_succ, List.filterMap_append]
  congr 1
  cases e : F i with
  | none => simp [e, optL]
  | some y => simp [e, optL]
theorem resUp_le {F : Nat → Option Value} {i : Nat} : (resUp F i).length ≤ i := by
  unfold resUp
  exact Nat.le_trans (List.length_filterMap_le ..) (by simp)
section
variable {c : Fx} {n : Nat} {sc scope : Scope} {m : Loc} {σ : Sto} {elt iter : Expr} {ifs : List Expr} {x : Str} {px pos : Pos} {cl : List (Str × Addr)} {use : Option (Value → Sem Unit)} {Q : Value → Loc → Sto → Prop} {ia : Addr} {xs : List Value} {F : Nat → Option Value} {itA : Nat → AO} {Src : Sto → Prop}
noncomputable def Wuse (c : Fx) (use : Option (Value → Sem Unit)) (D : Addr) (m : Loc) (σ : Sto) (Q : Value → Loc → Sto → Prop) : Prop := match use with
  | none => Q (.ref D) m σ
  | some u => ∀ g', (∀ b o, c.g.get? b = some o → g'.get? b = some o) → WT { c with g := g' } (fun (_ _ : Unit) => True) (u (.ref D)) m σ (fun _ m' σ' => Q .none m' σ')
theorem comp_end {g' : Heap} {s : Shared} {C D : Addr} {mC : Loc} {ys : List Value} (tk : 1 ≤ s.toks) (hz : Sr0 c.w c.os c.g ((C, .ns mC) :: (c.L, .ns m) :: (D, .list ys) :: σ) s) (h : Wuse c use D m ((D, .list ys) :: σ) Q) :
    compPost (MM c.w) c.A c.E use (fun v s' => ∃ b m' σ', Teq b v ∧ Q b m' σ' ∧ Sr0 c.w c.os c.g ((c.L, .ns m') :: σ') s') (.ref D) C (.ok .next) s := by
  cases use with
  | none =>
    obtain ⟨_, mm, h1, _⟩ := hz.ns
    exact ⟨mm, h1, fun h' hsb => ⟨.ref D, m, _, .same _, h, hz.lose hsb.extBut⟩⟩
  | some u =>
    show wpAny _ _ (u (.ref D)) _ _ s
    have key := WT.beside (c := c) (τ := [(C, AO.ns mC)]) h
    have hz' : Sr c.w c.os c.g ((c.L, .ns m) :: ([(C, AO.ns mC)] ++ ((D, .list ys) :: σ))) s := ⟨hz.perm (.swap ..), tk⟩
    refine wpAny_mono (key s hz') (fun _ s' z => ?_) fun _ _ e => e
    obtain ⟨_, m', σ', _, ⟨σ'', rfl, hq⟩, hs'⟩ := z
    have hs2 : Sr0 c.w c.os c.g ((C, .ns mC) :: (c.L, .ns m') :: σ'') s' := hs'.perm (.swap ..)
    obtain ⟨_, mm, h1, _⟩ := hs2.ns
    exact ⟨mm, h1, fun h' hsb => ⟨.none, m', _, .same _, hq, hs2.lose hsb.extBut⟩⟩
theorem app_list {c : Fx} {m : Loc} {σ : Sto} {D : Addr} {ys : List Value} {y : Value} {Q : Value → Loc → Sto → Prop} (hz : ys.length ≤ sizeLine) (h : Q .none m ((D, .list (ys ++ [y])) :: σ)) : Wcall c (.builtin "list.append") [.ref D, y] m ((D, .list ys) :: σ) Q := c_append .here hz h
theorem comp_turn {cE : Fx} {sc' : Scope} {σ0 : Sto} {D : Addr} {a : AO} {mo : Option Value} {ys : List Value} {r : Option Value} {v u : Value} {P : Shared → Prop} {s : Shared}
    (okG : ∀ g'', (∀ b o, cE.g.get? b = some o → g''.get? b = some o) → Fx.Ok { cE with g := g'' } n) (hx : sc'.names.lookup x = some .local) (hk : sc'.kind = .function)
    (hs : Sr cE.w cE.os cE.g ((cE.L, .ns [(x, mo)]) :: (ia, a) :: (D, .list ys) :: σ0) s) (tu : Teq v u) (turn : Wturn cE.w cE.os cE.cl n sc' x ifs elt v σ0 r) (hz : ys.length ≤ sizeLine)
    (post : ∀ mo s, Sr cE.w cE.os cE.g ((cE.L, .ns [(x, mo)]) :: (ia, a) :: (D, .list (ys ++ optL r)) :: σ0) s → P s) :
    wpAny (MM cE.w) cE.A (assign (.Name x px) (cE.env sc') u) (fun _ s₂ => wpAny (MM cE.w) cE.A (ifsLoop ifs (cE.env sc')) (fun ok s₃ => if ok = true then wpAny (MM cE.w) cE.A (eval elt (cE.env sc')) (fun y s₄ =>
      wpAny (MM cE.w) cE.A (call (.builtin "list.append") [.ref D, y]) (fun _ s₅ => P s₅) cE.E s₄) cE.E s₃ else P s₃) cE.E s₂) cE.E s := by
  have one : ∀ (m1 : Loc), m1.map (·.1) = [x] → ∃ o, m1 = [(x, o)] := by
    intro m1 h
    cases m1 with
    | nil => cases h
    | cons p r =>
      obtain ⟨y, o⟩ := p
      cases r with
      | nil => cases h; exact ⟨o, rfl⟩
      | cons q r => cases h
  have pick : ∀ (σ' : Sto), Picks σ' σ0 → ∀ (m : Loc), Below m ([(ia, a), (D, AO.list ys)] ++ σ') m ([(ia, a), (D, .list ys)] ++ σ0) := fun σ' ⟨τ, ht⟩ m => ⟨rfl, fun _ _ h => h, Picks.of_perm (τ := τ) (by rw [List.append_assoc]; exact ht.perm.append_left _)⟩
  refine wmx hs.tk (a_name (c := cE) (sc := sc') (m := [(x, mo)]) (σ := (ia, a) :: (D, .list ys) :: σ0) (p := px) hk hx .here (Q := fun _ m1 σ1 => m1 = [(x, some v)] ∧ σ1 = [(ia, a), (D, .list ys)] ++ σ0) ⟨rfl, rfl⟩ u tu s hs) (fun _ s1 z => ?_) fun _ _ e => e
  obtain ⟨_, m1, σ1, _, ⟨rfl, rfl⟩, hs1⟩ := z
  have k1 := WT.beside (c := cE) (τ := [(ia, a), (D, AO.list ys)]) (σ := σ0) (R := Eq) (t := ifsLoop ifs (cE.env sc')) (m := [(x, some v)]) (Q := turnQ cE.w cE.os cE.cl n sc' x elt σ0 r) fun g'' kg => turn { cE with g := g'' } rfl rfl rfl (okG g'' kg)
  refine wmx hs1.tk (k1 s1 hs1) (fun b s2 z => ?_) fun _ _ e => e
  obtain ⟨b', m2, σ2, rfl, ⟨σ3, rfl, hm, hp, hr⟩, hs2⟩ := z
  cases r with
  | none =>
    cases (show b' = false from hr)
    rw [if_neg Bool.false_ne_true]
    obtain ⟨o, rfl⟩ := one m2 hm
    refine post o s2 ?_
    have := hs2.below (pick σ3 hp _)
    rw [show optL none = [] from rfl, List.append_nil]
    exact this
  | some y =>
    obtain ⟨rfl, he⟩ := hr
    rw [if_pos rfl]
    have k2 := WT.beside (c := cE) (τ := [(ia, a), (D, AO.list ys)]) (σ := σ3) (R := Teq) (t := eval elt (cE.env sc')) (m := m2) (Q := fun y' m2 σ2 => y' = y ∧ m2.map (·.1) = [x] ∧ Picks σ2 σ0) fun g'' kg => he { cE with g := g'' } rfl rfl rfl (okG g'' kg)
    refine wmx hs2.tk (k2 s2 hs2) (fun yv s3 z => ?_) fun _ _ e => e
    obtain ⟨y', m3, σ4, ty, ⟨σ5, rfl, rfl, hm3, hp3⟩, hs3⟩ := z
    obtain ⟨o, rfl⟩ := one m3 hm3
    have hs4 := hs3.below (pick σ5 hp3 _)
    have hs5 : Sr cE.w cE.os cE.g ((cE.L, .ns [(x, o)]) :: (D, .list ys) :: (ia, a) :: σ0) s3 := hs4.perm (.cons _ (.swap ..))
    refine wmx hs5.tk (app_list (c := cE) (y := y') (Q := fun _ m σ => m = [(x, o)] ∧ σ = (D, .list (ys ++ [y'])) :: (ia, a) :: σ0) hz ⟨rfl, rfl⟩ [.ref D, yv] (.cons (.same _) (.cons ty .nil)) s3 hs5) (fun _ s4 z => ?_) fun _ _ e => e
    obtain ⟨_, m4, σ6, _, ⟨rfl, rfl⟩, hs6⟩ := z
    exact post o s4 (hs6.perm (.cons _ (.swap ..)))
noncomputable def fxE (c : Fx) (scope sc : Scope) (cl : List (Str × Addr)) (C : Addr) (g : Heap) (R : Result → Shared → Prop) : Fx := { c with L := C, g := g, fn := none, cl := cl, E := notedBy (model PG c.w) c.A (compEnvC scope cl C (c.env sc)) fun e s' => R (.error e) s' }
theorem k_pos {i k n : Nat} (h : i + k = n) (l : i < n) : 0 < k := by omega
theorem k_step {i k n : Nat} (h : i + k = n) (l : i < n) : i + 1 + (k - 1) = n := by omega
theorem comp_loop {σ0 : Sto} {C D : Addr} {g' : Heap} {R : Result → Shared → Prop} (ok : c.Ok n) (kg : ∀ b o, c.g.get? b = some o → g'.get? b = some o)
    (hx : (relab scope sc).names.lookup x = some .local) (hk : (relab scope sc).kind = .function) (hsz : xs.length ≤ sizeLine)
    (nx : ∀ (c' : Fx) (i : Nat) (v : Value) (m : Loc) (σ : Sto) (Q : Option Value → Loc → Sto → Prop), xs[i]? = some v → Src σ → Q (some v) m ((ia, itA (i + 1)) :: σ) → WT c' ORel (pyNext (.ref ia)) m ((ia, itA i) :: σ) Q)
    (nend : ∀ (c' : Fx) (m : Loc) (σ : Sto) (Q : Option Value → Loc → Sto → Prop), c'.Ok n → Src σ → Q none m σ → WT c' ORel (pyNext (.ref ia)) m ((ia, itA xs.length) :: σ) Q)
    (hsrc : ∀ p, Src (p :: σ0))
    (turn : ∀ j v, xs[j]? = some v → Wturn c.w c.os cl n (relab scope sc) x ifs elt v σ0 (F j))
    (fin : ∀ mC s, 1 ≤ s.toks → Sr0 c.w c.os g' ((C, .ns mC) :: (D, .list (resUp F xs.length)) :: σ0) s → R (.ok .next) s)
    {s : Shared} (hs : Sr c.w c.os g' ((C, .ns [(x, none)]) :: (ia, itA 0) :: (D, .list []) :: σ0) s) :
    codeAny (MM c.w) c.A (.compLoop (.ListComp elt [⟨.Name x px, iter, ifs, 0⟩] scope pos) 0 (.ref ia) (.ref D) (compEnvC scope cl C (c.env sc))) R s := by
  refine codeAny_compLoop_tests (fun k s => ∃ i mo, i + k = xs.length ∧ Sr c.w c.os g' ((C, .ns [(x, mo)]) :: (ia, itA i) :: (D, .list (resUp F i)) :: σ0) s) (fun k s z => ?_) xs.length ⟨0, none, Nat.zero_add _, hs⟩
  obtain ⟨i, mo, hik, hs⟩ := z
  have ec : compEnvC scope cl C (c.env sc) = Fx.env (fxE c scope sc cl C g' R) (relab scope sc) := rfl
  have okE : ∀ g'', (∀ b o, g'.get? b = some o → g''.get? b = some o) → Fx.Ok (fxE c scope sc cl C g'' R) n := fun g'' k => ⟨ok.bg.keeps fun b o e => k b o (kg b o e), ok.hh, ok.room⟩
  have ok' := okE g' fun _ _ e => e
  rw [ec]
  rcases Nat.lt_or_ge i xs.length with hlt | hge
  · refine wmx hs.tk (nx (fxE c scope sc cl C g' R) i xs[i] [(x, mo)] ((D, .list (resUp F i)) :: σ0) (fun r m' σ' => r = some xs[i] ∧ m' = [(x, mo)] ∧ σ' = (ia, itA (i + 1)) :: (D, .list (resUp F i)) :: σ0) (List.getElem?_eq_getElem hlt) (hsrc _) ⟨rfl, rfl, rfl⟩ s hs) (fun r s1 z => ?_) fun _ _ e => e
    obtain ⟨r', m1, σ1, t1, ⟨rfl, rfl, rfl⟩, hs1⟩ := z
    have hxi : xs[i]? = some xs[i] := List.getElem?_eq_getElem hlt
    cases t1 with
    | some tu =>
      refine comp_turn (cE := (fxE c scope sc cl C g' R)) (P := fun s => ∃ m, m < k ∧ ∃ i mo, i + m = xs.length ∧ Sr c.w c.os g' ((C, .ns [(x, mo)]) :: (ia, itA i) :: (D, .list (resUp F i)) :: σ0) s)
        (okE) hx hk hs1 tu (turn i _ hxi) (Nat.le_trans resUp_le (Nat.le_trans (Nat.le_of_lt hlt) hsz)) fun mo s2 hs2 => ⟨k - 1, Nat.sub_lt (k_pos hik hlt) Nat.zero_lt_one, i + 1, mo, k_step hik hlt, ?_⟩
      rw [resUp_succ]; exact hs2
  · have hi : i = xs.length := Nat.le_antisymm (Nat.le_trans (Nat.le_add_right i k) (Nat.le_of_eq hik)) hge
    subst hi
    refine wmx hs.tk (nend (fxE c scope sc cl C g' R) [(x, mo)] ((D, .list (resUp F xs.length)) :: σ0) (fun r m' σ' => r = none ∧ m' = [(x, mo)] ∧ σ' = (D, .list (resUp F xs.length)) :: σ0) ok' (hsrc _) ⟨rfl, rfl, rfl⟩ s hs) (fun r s1 z => ?_) fun _ _ e => e
    obtain ⟨r', m1, σ1, t1, ⟨rfl, rfl, rfl⟩, hs1⟩ := z
    cases t1 with
    | none => exact fin _ _ hs1.tk hs1.toSr0
end
section
variable {c : Fx} {n : Nat} {sc scope : Scope} {m : Loc} {σ0 : Sto} {elt iter : Expr} {ifs : List Expr} {x : Str} {px pos : Pos} {cl : List (Str × Addr)} {use : Option (Value → Sem Unit)} {Q : Value → Loc → Sto → Prop} {ia : Addr} {xs : List Value} {F : Nat → Option Value} {itA : Nat → AO} {Src : Sto → Prop}
theorem Wcomp_of (ok : c.Ok n) (hcell : ∀ y ∈ scope.names, y.2 ≠ .cell) (hkind : scope.kind = .function) (hx : (relab scope sc).names.lookup x = some .local) (hsz : xs.length ≤ sizeLine)
    (nx : ∀ (c' : Fx) (i : Nat) (v : Value) (m : Loc) (σ : Sto) (Q : Option Value → Loc → Sto → Prop), xs[i]? = some v → Src σ → Q (some v) m ((ia, itA (i + 1)) :: σ) → WT c' ORel (pyNext (.ref ia)) m ((ia, itA i) :: σ) Q)
    (nend : ∀ (c' : Fx) (m : Loc) (σ : Sto) (Q : Option Value → Loc → Sto → Prop), c'.Ok n → Src σ → Q none m σ → WT c' ORel (pyNext (.ref ia)) m ((ia, itA xs.length) :: σ) Q)
    (nself : ∀ (c' : Fx) (m : Loc) (σ : Sto) (Q : Value → Loc → Sto → Prop), Q (.ref ia) m ((ia, itA 0) :: σ) → WT c' (fun a b => a = b) (pyIter (.ref ia)) m ((ia, itA 0) :: σ) Q)
    (hsrc : ∀ p, Src (p :: σ0))
    (turn : ∀ j v, xs[j]? = some v → Wturn c.w c.os cl n (relab scope sc) x ifs elt v σ0 (F j))
    (fin : ∀ D, Wuse c use D m ((D, .list (resUp F xs.length)) :: σ0) Q) :
    Wcomp c sc (.ListComp elt [⟨.Name x px, iter, ifs, 0⟩] scope pos) scope cl use (.ref ia) m ((ia, itA 0) :: σ0) Q := by
  intro s hs
  refine wpAny_newObj_type (wpAny_newFunctionEnv hcell (by intro y hy; simp at hy) (fun h₁ hns₁ hsb₁ => ?_) hkind)
  dsimp only at hns₁ hsb₁ ⊢
  have z1 := hs.toSr0.new2 (x := .list []) (o := { cls := .type "list", dict := none, data := .seq ([] : List Value).toArray }) rfl ⟨#[], _, rfl, .nil⟩ s.toks
  have z2 := z1.new (x := .ns [(x, none)]) (o := { cls := .type "dict", data := .dict #[] }) rfl ⟨by simp, #[], _, rfl, (by intro e he; simp at he), fun y u hm => by simp at hm⟩ s.toks
  obtain ⟨oC, es, ep, ho, hd, hkk, hf⟩ := hns₁
  have z3 := z2.put (y := .ns [(x, none)]) .here hsb₁ ho ⟨by simp, es, ep, hd, hkk, fun y u hm => by simp at hm⟩ s.toks
  generalize s.heap.objs.size = D at *
  generalize hC : (s.heap.push { cls := .type "list", dict := none, data := .seq ([] : List Value).toArray }).objs.size = C at *
  have z4 : Sr c.w c.os c.g ([(c.L, .ns m)] ++ ((C, .ns [(x, none)]) :: (ia, itA 0) :: (D, .list []) :: σ0)) { s with heap := h₁, toks := s.toks + ([] : List (Str × Value)).length } := by
    refine ⟨?_, hs.tk⟩
    refine Sr0.perm z3 ?_
    exact (List.Perm.swap ..).trans (.cons _ (.cons _ (.swap ..)))
  clear z1 z2 z3 hs hC hsb₁ ho
  obtain ⟨g', k1, k2, k3, k4⟩ := z4.hr.frame
  have hs5 : Sr c.w c.os g' ((C, .ns [(x, none)]) :: (ia, itA 0) :: (D, .list []) :: σ0) { s with heap := h₁, toks := s.toks + ([] : List (Str × Value)).length } := ⟨⟨k2, z4.gens, z4.os⟩, z4.tk⟩
  generalize ({ s with heap := h₁, toks := s.toks + ([] : List (Str × Value)).length } : Shared) = s1 at hs5 z4 k2 k3 ⊢
  have hk : (relab scope sc).kind = .function := hkind
  have loop : ∀ s2, Sr c.w c.os g' ((C, .ns [(x, none)]) :: (ia, itA 0) :: (D, .list []) :: σ0) s2 → codeAny (MM c.w) c.A (.compLoop (.ListComp elt [⟨.Name x px, iter, ifs, 0⟩] scope pos) 0 (.ref ia) (.ref D) (compEnvC scope cl C (c.env sc)))
      (compPost (MM c.w) c.A c.E use (fun v s' => ∃ b m' σ', Teq b v ∧ Q b m' σ' ∧ Sr0 c.w c.os c.g ((c.L, .ns m') :: σ') s') (.ref D) C) s2 := by
    intro s2 hs2
    refine comp_loop (σ0 := σ0) (g' := g') ok k1 hx hk hsz nx nend hsrc turn (fun mC s3 tk z => ?_) hs2
    have z5 : Sr0 c.w c.os c.g ([(c.L, .ns m)] ++ ((C, .ns mC) :: (D, .list (resUp F xs.length)) :: σ0)) s3 := ⟨k4 _ _ z.hr, z.gens, z.os⟩
    exact comp_end (g' := g') tk (z5.perm (.swap ..)) (fin D)
  refine codeAny_compStart_list (loop s1 hs5) ?_
  refine wm0 hs5.tk (nself { c with L := C, g := g', fn := none, cl := cl, E := _ } [(x, none)] ((D, .list []) :: σ0) (fun v m' σ' => v = .ref ia ∧ m' = [(x, none)] ∧ σ' = (ia, itA 0) :: (D, .list []) :: σ0) ⟨rfl, rfl, rfl⟩ s1 ?_) (fun v s2 tk z => ?_) fun _ _ e => e
  · exact hs5
  · obtain ⟨b, m', σ', rfl, ⟨rfl, rfl, rfl⟩, hz⟩ := z
    exact loop s2 ⟨hz, tk⟩
end
structure FOkC (w : World) (fa : Addr) (st : Stmt) : Prop where
  ho : (KK w).lookup fa = some ⟨.type "function", none, .func (fdAt w fa), #[]⟩
  hcd : codeIn (KK w) (fdAt w fa).code (fdAt w fa).qualname = true
  hbody : (fdAt w fa).body = .stmts (bodyOf st)
  hsc : (fdAt w fa).scope = scopeOf st
  g1 : (fdAt w fa).globals = mainGlobals
  g2 : (fdAt w fa).builtins = builtinsNs
  g3 : (fdAt w fa).closure = []
  hco : (scopeOf st).isCoroutine = false
  hgen : (scopeOf st).isGenerator = false
  hk : (scopeOf st).kind = .function
theorem mem_lookup {α : Type} : ∀ {l : List (Str × α)} {n : Str} {c : α}, (l.map (·.1)).Nodup → (n, c) ∈ l → l.lookup n = some c
  | (k, v) :: r, n, c, nd, h => by
    rw [List.map_cons, List.nodup_cons] at nd
    rw [List.lookup_cons]
    rcases List.mem_cons.mp h with e | h
    · cases e; simp
    · have : (n == k) = false := by
        cases q : n == k with
        | false => rfl
        | true => cases eq_of_beq q; exact (nd.1 (List.mem_map_of_mem (f := (·.1)) h)).elim
      rw [this]; exact mem_lookup nd.2 h
theorem stTk {M : Model} {A : Around} {E : Value → Shared → Prop} {s₀ s : Shared} {m cm : Str → Option Value} {env : Env} {n : Str} {v : Value} {Q : Unit → Shared → Prop} (x : InCallC s₀ env.locals m env.cells cm s) (hk : env.scope.kind = .function) (hl : env.kindOf n = some .local)
    (h : ∀ s', 1 ≤ s'.toks → InCallC s₀ env.locals (fun y => if y = n then some v else m y) env.cells cm s' → Q () s') : wpAny M A (storeName env n v) Q E s := by
  refine wpAny_storeName_local hl x.toInCall.ns (fun h' hn' hs' => h _ (Nat.le_add_left 1 _) ⟨⟨?_, hn', fun b o e => ?_, x.toInCall.fresh⟩, fun k c hc => ?_, x.apart, x.above⟩) (by rw [hk]; rfl)
  · obtain ⟨h₁, tk, e⟩ := x.toInCall.same
    exact ⟨h', s.toks + 1, by rw [e]⟩
  · exact hs'.extBut b o (Nat.ne_of_lt (Nat.lt_of_lt_of_le (Heap.lt_size e) x.toInCall.fresh)) (x.toInCall.keep b o e)
  · exact (x.cell k c hc).sameBut hs' (Nat.ne_of_gt (x.above k c (mem_of_lookup hc)))
theorem envC {M : Model} {A : Around} {E : Value → Shared → Prop} {s : Shared} {scope : Scope} {globals : Addr} {binds : List (Str × Value)} {qual : Str} {func : Option Addr} {code : Value} {builtins : Addr} {Q : Env → Shared → Prop}
    (htk : 1 ≤ s.toks ∨ ∃ n v, binds = [(n, v)] ∧ scope.names.lookup n = some .local) (hk : scope.kind = .function)
    (hkind : ∀ x ∈ binds, scope.names.lookup x.1 = some .local ∨ (scope.names.lookup x.1 = some .cell ∧ ((cellsFrom (s.heap.objs.size + 1) scope.names []).lookup x.1).isSome = true))
    (hQ : ∀ env, env = newEnv scope s.heap.objs.size globals (cellsFrom (s.heap.objs.size + 1) scope.names []) qual func code none builtins →
      ∀ s', 1 ≤ s'.toks → InCallC s env.locals (bindL env.kindOf binds fun _ => none) env.cells (bindC env.kindOf binds fun _ => none) s' → Q env s') :
    wpAny M A (newFunctionEnv scope globals [] binds qual func code none builtins) Q E s := by
  rcases htk with tk | ⟨n, v, rfl, hl⟩
  · exact wpAny_with_toks tk (wpAny_newFunctionEnv_cells hk hkind fun env he s' x q => hQ env he s' q x)
  · simp only [newFunctionEnv, Option.isSome_none, Bool.false_eq_true, if_false]
    refine wpAny_bind (wpAny_alloc ?_)
    refine wpAny_bind (wpAny_layCells _ (fun name kind cells => by cases hkc : kind == NameKind.cell <;> simp [hkc]) _ _ _ _ ?_)
    have ok := cellsFrom_ok scope.names (s.heap.push { cls := .type "frame", data := .dict #[] }) (s.heap.objs.size + 1) [] ⟨fun _ _ hm => (nomatch hm), List.Pairwise.nil⟩ (by rw [Heap.size_push]; exact Nat.le_refl _)
    rw [Heap.size_push] at ok
    rw [show ({ s with heap := s.heap.push { cls := .type "frame", data := .dict #[] } } : Shared).heap.objs.size = s.heap.objs.size + 1 from Heap.size_push ..]
    rw [List.forIn_cons]
    refine wpAny_bind (wpAny_bind (wpAny_bind (stTk (s₀ := s) (m := fun _ => none) (cm := fun _ => none) (env := newEnv scope s.heap.objs.size globals (cellsFrom (s.heap.objs.size + 1) scope.names []) qual func code none builtins)
      ⟨⟨⟨_, _, rfl⟩, (Heap.Ns.new s.heap (.type "frame")).keeps (pushCells_keeps _ _), fun b o e => pushCells_keeps _ _ b o (Heap.get?_push_of_some _ e), Nat.le_refl _⟩,
        fun n c hc => (ok.empty n c (mem_of_lookup hc)).1, ok.apart, fun n c hm => (ok.empty n c hm).2⟩ hk hl fun s' tk x => wpAny_pure ?_)))
    dsimp only
    rw [List.forIn_nil]
    refine wpAny_pure (wpAny_pure (hQ _ rfl s' tk ?_))
    have hl' : (newEnv scope s.heap.objs.size globals (cellsFrom (s.heap.objs.size + 1) scope.names []) qual func code none builtins).kindOf n = some .local := hl
    unfold bindL bindC; rw [if_pos hl', if_pos hl']; exact x
noncomputable def cellS (cl : List (Str × Addr)) (cv : Str → Option Value) : Sto := cl.map fun p => (p.2, AO.cell (cv p.1))
noncomputable def fxC (w : World) (A : Around) (g : Heap) (os : OsState) (L fa : Addr) (st : Stmt) (R : Result → Shared → Prop) : Fx := { w := w, A := A.deeper (callEnvC (fdAt w fa) L fa), g := g, os := os, L := L, q := (fdAt w fa).qualname ++ ".<locals>.", fn := some fa, cd := (fdAt w fa).code, fr := some L, cl := cellsFrom (L + 1) (scopeOf st).names [], E := fun e s' => wpAny (MM w) (A.deeper (callEnvC (fdAt w fa) L fa)) (leaving (callEnvC (fdAt w fa) L fa) e) (fun _ s'' => R (.error e) s'') (fun e' s'' => R (.error e') s'') s' }
theorem call_c {w : World} {os : OsState} {n : Nat} {fa : Addr} {st : Stmt} (F : FOkC w fa st) {A : Around} {g : Heap} {σ : Sto} {s : Shared} {u : Value} {binds : List (Str × Value)} {mm : Loc} {cv : Str → Option Value} {R : Result → Shared → Prop} (b : Bg w g) (r : Room (n + 1) A) (hh : A.handled = none) (htk : 1 ≤ s.toks ∨ ∃ n v, binds = [(n, v)] ∧ (scopeOf st).names.lookup n = some .local) (hs : Sr0 w os g σ s)
    (hbi : ∃ fd, fd = fdAt w fa ∧ bindArgs fd ⟨[u], []⟩ = pure binds) (hkind : ∀ L, ∀ x ∈ binds, (scopeOf st).names.lookup x.1 = some .local ∨ ((scopeOf st).names.lookup x.1 = some .cell ∧ ((cellsFrom (L + 1) (scopeOf st).names []).lookup x.1).isSome = true))
    (hnd : decide ((mm.map (·.1)).Nodup) = true) (hcn : ∀ L, ((cellsFrom (L + 1) (scopeOf st).names []).map (·.1)).Nodup)
    (hm : ∀ x v, (x, some v) ∈ mm → ∃ v', bindL (fun n => (scopeOf st).names.lookup n) binds (fun _ => none) x = some v' ∧ Teq v v') (hcv : ∀ x, ORel (cv x) (bindC (fun n => (scopeOf st).names.lookup n) binds (fun _ => none) x))
    (h : ∀ c : Fx, c.w = w → c.os = os → c.g = g → c.cl = cellsFrom (c.L + 1) (scopeOf st).names [] → c.Ok n → c.A = A.deeper (c.env (scopeOf st)) → c.fr = some c.L →
      Wx c (scopeOf st) (bodyOf st) mm (cellS c.cl cv ++ σ) (fun f m' σ' => ∀ u s', Teq (retOf f) u → Sr0 w os g ((c.L, .ns m') :: σ') s' → R (.ok (.ret u)) s')) : codeAny (MM w) A (.call (.ref fa) ⟨[u], []⟩) R s := by
  obtain ⟨fd, hfd, hbi⟩ := hbi
  have X := (hs.bg b).kk
  refine codeAny_call_function (fd := fdAt w fa) (body := bodyOf st) (by unfold Room at r; omega) (X _ _ F.ho) rfl (by rw [F.hsc]; exact F.hco) (by rw [F.hsc]; exact F.hgen) F.hbody (codeRec_of X F.hcd) ?_
  rw [← hfd, hbi, hfd]
  refine wpAny_pure ?_
  rw [F.g3]
  refine envC (by rw [F.hsc]; exact htk) (by rw [F.hsc]; exact F.hk) (by rw [F.hsc]; exact hkind _) (fun env he s1 tk x => ?_)
  have he : env = callEnvC (fdAt w fa) s.heap.objs.size fa := he
  refine ⟨(hs.bg b).nolim.keeps x.toInCall.keep, ?_⟩
  subst he
  have hL : (callEnvC (fdAt w fa) s.heap.objs.size fa).locals = s.heap.objs.size := rfl
  have hC : (callEnvC (fdAt w fa) s.heap.objs.size fa).cells = cellsFrom (s.heap.objs.size + 1) (scopeOf st).names [] := by rw [← F.hsc]; rfl
  have hK : (callEnvC (fdAt w fa) s.heap.objs.size fa).kindOf = fun n => (scopeOf st).names.lookup n := by rw [← F.hsc]; rfl
  have ee : Fx.env (fxC w A g os s.heap.objs.size fa st R) (scopeOf st) = callEnvC (fdAt w fa) s.heap.objs.size fa := by
    unfold fxC
    rw [← F.hsc]
    show _ = newEnv _ _ _ _ _ _ _ _ _
    unfold newEnv Fx.env
    rw [F.g1, F.g2]
  refine codeAny_func ?_
  have hwp := h (fxC w A g os s.heap.objs.size fa st R) rfl rfl rfl rfl
    ⟨b, hh, by show A.depth + 1 + 2 * n < recursionLimit ∧ A.units + 3 + 30 * n < cLine; unfold Room at r; omega⟩ (by rw [ee]; rfl) rfl s1 ?_
  · rw [ee] at hwp
    refine wpm hwp (fun f s' f' m' σ' t1 h1 hs1 => ?_) fun _ _ e => e
    cases t1 with
    | ret t => exact h1 _ s' t hs1
    | next => exact h1 _ s' (.same _) hs1
    | brk => exact h1 _ s' (.same _) hs1
    | cont => exact h1 _ s' (.same _) hs1
  · rw [hC, hK] at x
    rw [hL] at x
    obtain ⟨o, es, ep, ho', hd', hsk, hf'⟩ := x.toInCall.ns
    have gn : ∀ a, s.heap.objs.size ≤ a → g.get? a = none := fun a ha => by
      cases e : g.get? a with
      | none => rfl
      | some o => exact absurd (Nat.lt_of_lt_of_le (Heap.lt_size (hs.hr.keep _ _ e)) ha) (Nat.lt_irrefl _)
    have sn : ∀ p ∈ σ, p.1 < s.heap.objs.size := fun p hp => by
      obtain ⟨_, o, ho, _⟩ := hs.hr.own p hp
      exact Heap.lt_size ho
    obtain ⟨h2, tk2, es1⟩ := x.toInCall.same
    refine ⟨⟨⟨fun b o e => x.toInCall.keep _ _ (hs.hr.keep b o e), fun p hp => ?_, ?_⟩, by rw [es1]; exact hs.gens, by rw [es1]; exact hs.os⟩, tk⟩
    · rcases List.mem_cons.mp hp with rfl | hp
      · refine ⟨gn _ (Nat.le_refl _), o, ho', of_decide_eq_true hnd, es, ep, hd', hsk, fun y v hmem => ?_⟩
        rw [hf']; exact hm y v hmem
      · rcases List.mem_append.mp hp with hp | hp
        · obtain ⟨q, hq, rfl⟩ := List.mem_map.mp hp
          have hq : (q.1, q.2) ∈ cellsFrom (s.heap.objs.size + 1) (scopeOf st).names [] := hq
          have hab := x.above _ _ hq
          obtain ⟨oc, hoc, hdc⟩ := x.cell _ _ (mem_lookup (hcn _) hq)
          exact ⟨gn _ (Nat.le_of_lt hab), oc, hoc, _, hdc, hcv _⟩
        · obtain ⟨z, o, ho, hi⟩ := hs.hr.own p hp
          exact ⟨z, o, x.toInCall.keep _ _ ho, hi⟩
    · rw [List.map_cons, List.nodup_cons, List.map_append, List.nodup_append]
      refine ⟨fun hmem => ?_, ?_, hs.hr.nd, ?_⟩
      · rcases List.mem_append.mp hmem with q | q
        · obtain ⟨p, hp, e⟩ := List.mem_map.mp q
          obtain ⟨q', hq', rfl⟩ := List.mem_map.mp hp
          have := x.above q'.1 q'.2 hq'
          have e : q'.2 = s.heap.objs.size := e
          rw [e] at this; exact Nat.lt_irrefl _ this
        · obtain ⟨p, hp, e⟩ := List.mem_map.mp q
          have := sn p hp
          have e : p.1 = s.heap.objs.size := e
          rw [e] at this; exact Nat.lt_irrefl _ this
      · show (List.map (·.1) (List.map (fun p : Str × Addr => (p.2, AO.cell (cv p.1))) (cellsFrom (s.heap.objs.size + 1) (scopeOf st).names []))).Nodup
        rw [List.map_map]
        exact List.pairwise_map.mpr x.apart
      · intro a ha b hb e
        obtain ⟨p, hp, rfl⟩ := List.mem_map.mp ha
        obtain ⟨q', hq', rfl⟩ := List.mem_map.mp hp
        obtain ⟨p2, hp2, rfl⟩ := List.mem_map.mp hb
        have h1 := x.above q'.1 q'.2 hq'
        have h2 := sn p2 hp2
        have e : q'.2 = p2.1 := e
        rw [e] at h1; exact absurd (Nat.lt_trans h1 h2) (Nat.lt_irrefl _)
section
variable {c : Fx} {n : Nat} {sc : Scope} {m : Loc} {σ : Sto} {l : Addr}
theorem ints_items : ∀ {is : List Int} {vs : List Value}, TeqL (is.map I) vs → ∃ xs : List (Int × Tok), vs = xs.map (fun p => Value.int p.1 p.2) ∧ xs.map (·.1) = is
  | [], vs, h => by cases h; exact ⟨[], rfl, rfl⟩
  | i :: r, vs, h => by
    cases h with
    | cons t h =>
      obtain ⟨u, rfl⟩ := t.int_inv
      obtain ⟨xs, rfl, e⟩ := ints_items h
      exact ⟨(i, u) :: xs, rfl, by simp [e]⟩
theorem c_max {is : List Int} {Q : Value → Loc → Sto → Prop} (ok : c.Ok n) (hm : (l, .list (is.map I)) ∈ σ) (hne : is ≠ []) (h : ∀ M, M ∈ is → (∀ a ∈ is, a ≤ M) → Q (I M) m σ) : Wcall c (.builtin "max") [.ref l] m σ Q := by
  intro vs hv s hs
  obtain ⟨v1, rfl, t1⟩ := hv.inv1
  rw [t1.ref_inv]
  obtain ⟨arr, k, ho, hL, ht, hsz⟩ := hs.list (.tail _ hm)
  obtain ⟨xs, e1, e2⟩ := ints_items ht
  have ea : arr = intItems xs.toArray := by
    apply Array.ext'
    rw [e1]; simp [intItems]
  rw [ea] at hL
  have hpos : 0 < xs.toArray.size := by
    have : xs.length = is.length := by rw [← e2, List.length_map]
    have : is.length ≠ 0 := fun q => hne (List.length_eq_zero_iff.mp q)
    simp; omega
  refine max_intList ok.hh hL hpos fun v h' tk hv hk => ?_
  obtain ⟨t, rfl⟩ := intItems_at hv
  obtain ⟨h1, h2⟩ := argBest_gt (numAt xs.toArray) (xs.toArray.size - 1)
  have hns : is = xs.toArray.toList.map (·.1) := by rw [← e2]
  refine ⟨_, m, σ, .i, h _ ?_ fun a ha => ?_, hs.toSr0.keeps hk⟩
  · rw [hns, numAt_eq]
    rw [List.getD_eq_getElem?_getD]
    have hlt : argBest (fun i j => decide (numAt xs.toArray i > numAt xs.toArray j)) (xs.toArray.size - 1) < (xs.toArray.toList.map (·.1)).length := by rw [List.length_map, Array.length_toList]; omega
    rw [List.getElem?_eq_getElem hlt]; exact List.getElem_mem hlt
  · rw [hns] at ha
    obtain ⟨j, hj, rfl⟩ := List.getElem_of_mem ha
    rw [List.length_map, Array.length_toList] at hj
    have := h2 j (by omega)
    rw [numAt_eq xs.toArray j, List.getD_eq_getElem?_getD, List.getElem?_eq_getElem (by rw [List.length_map, Array.length_toList]; exact hj)] at this
    exact this
end
noncomputable def cMax (C : CT) : CT := fun f vs kw st k => match f with
  | .bi b => (match b with
    | .max => oneK vs kw (fun v => match v with | .loc i => getK st i (fun _ => False) fun xs => xs ≠ [] ∧ ∀ M, M ∈ xs → (∀ a ∈ xs, a ≤ M) → k (.int false M) st | _ => C f vs kw st k) (C f vs kw st k)
    | _ => C f vs kw st k)
  | _ => C f vs kw st k
theorem cMax_ok {w : World} {os : OsState} {n : Nat} {C : CT} (hC : CTok w os n C) : CTok w os n (cMax C) := by
  intro f vs kw st k h c e1 e2 ok ρ us ks ht hk
  have F := fun h => hC f vs kw st k h c e1 e2 ok ρ us ks ht hk
  cases f with
  | bi b =>
    cases b with
    | max =>
      rcases oneK_ok h with ⟨v, rfl, rfl, h⟩ | h
      · cases v with
        | loc i =>
          cases hk
          rcases getK_ok h with ⟨_, _, h⟩ | ⟨xs, e, h⟩
          · exact h.elim
          · exact c_max ok (St.get_mem e) h.1 (fun M h1 h2 => Post.here (b := V.int _ _) (h.2 M h1 h2)) us ht
        | _ => exact F h
      · exact F h
    | _ => exact F h
  | _ => exact F h
section
variable {c : Fx} {n : Nat} {sc scope : Scope} {m : Loc} {σ : Sto} {elt iter : Expr} {ifs : List Expr} {x y : Str} {px py pos spos : Pos} {cl : List (Str × Addr)}
theorem we_comp {Q : Value → Loc → Sto → Prop} (hs : ∀ x, foldedSetIterable iter (c.env sc) x = pure x) (hclos : closureFor scope (c.env sc) = pure cl) (hkind : scope.kind = .function) (hnames : ∀ x ∈ scope.names, x.2 = .local → scope.names.lookup x.1 = some .local)
    (h : We c sc iter m σ (fun v m1 σ1 => Wo1 c (fun a b => a = b ∧ ∃ r, a = Value.ref r) pyIter v m1 σ1 (fun it m2 σ2 => Wcomp c sc (.ListComp elt [⟨.Name x px, iter, ifs, 0⟩] scope pos) scope cl none it m2 σ2 Q))) :
    We c sc (.ListComp elt [⟨.Name x px, iter, ifs, 0⟩] scope pos) m σ Q := by
  show WT c Teq (eval (.ListComp elt [⟨.Name x px, iter, ifs, 0⟩] scope pos) (c.env sc)) m σ Q
  rw [eval_ListComp]
  exact wt_comp (n := 0) (g := ⟨.Name x px, iter, ifs, 0⟩) (gs := []) rfl hs hclos hkind hnames h
theorem w1_comp {Q : Flow → Loc → Sto → Prop} (hsw : swapsWith (.ListComp elt [⟨.Name x px, iter, ifs, 0⟩] scope pos) (some (.Name y py)) spos.line (c.env sc) = pure true) (hs : ∀ x, foldedSetIterable iter (c.env sc) x = pure x) (hclos : closureFor scope (c.env sc) = pure cl) (hkind : scope.kind = .function) (hnames : ∀ x ∈ scope.names, x.2 = .local → scope.names.lookup x.1 = some .local)
    (h : We c sc iter m σ (fun v m1 σ1 => Wo1 c (fun a b => a = b ∧ ∃ r, a = Value.ref r) pyIter v m1 σ1 (fun it m2 σ2 => Wcomp c sc (.ListComp elt [⟨.Name x px, iter, ifs, 0⟩] scope pos) scope cl (some (assign (.Name y py) (c.env sc))) it m2 σ2 (fun _ m3 σ3 => Q .next m3 σ3)))) :
    W1 c sc (.Assign [.Name y py] (.ListComp elt [⟨.Name x px, iter, ifs, 0⟩] scope pos) spos) m σ Q := by
  intro s hs'
  rw [exec_Assign_Name_used _ _ _ _ hsw]
  refine wpAny_bind (wpAny_standAt (wpAny_bind ?_))
  show wpAny _ _ (do let _ ← comprehension (.ListComp elt [⟨.Name x px, iter, ifs, 0⟩] scope pos) scope (c.env sc) _ (newList []) false (eval iter (c.env sc)) (some (assign (.Name y py) (c.env sc)))) _ _ s
  refine wpAny_bind (wpAny_mono (wt_comp (n := 0) (g := ⟨.Name x px, iter, ifs, 0⟩) (gs := []) rfl hs hclos hkind hnames h s hs') (fun v s1 ⟨b, m1, σ1, _, hq, z⟩ => wpAny_pure (wpAny_pure ⟨.next, m1, σ1, .next, hq, z⟩)) fun _ _ e => e)
theorem use_name {D : Addr} {m' : Loc} {Q : Value → Loc → Sto → Prop} (hk : sc.kind = .function) (hl : sc.names.lookup y = some .local) (hp : SetL m y (.ref D) m') (h : Q .none m' σ) : Wuse c (some (assign (.Name y py) (c.env sc))) D m σ Q := by
  intro g' kg
  have := a_name (c := { c with g := g' }) (sc := sc) (m := m) (σ := σ) (p := py) (Q := fun _ m1 σ1 => m1 = m' ∧ σ1 = σ) hk hl hp ⟨rfl, rfl⟩ (.ref D) (.same _)
  refine WT.mono this ?_
  rintro _ m1 σ1 ⟨rfl, rfl⟩
  exact h
end
noncomputable def cElt : Expr → Expr
  | .ListComp e _ _ _ => e
  | e => e
noncomputable def cIf : Expr → Expr
  | .ListComp _ (⟨_, _, t :: _, _⟩ :: _) _ _ => t
  | e => e
noncomputable def cSc : Expr → Scope
  | .ListComp _ _ s _ => s
  | _ => default
noncomputable def asgV : Stmt → Expr
  | .Assign _ e _ => e
  | .Return (some e) _ => e
  | .If t _ _ _ => t
  | _ => .Constant .none 0 ⟨0, 0, 0, 0⟩
noncomputable def arg0 : Expr → Expr
  | .Call _ (a :: _) _ _ => a
  | e => e
noncomputable def ltB : List Stmt := bodyOf (topSt 49)
noncomputable abbrev ltSc : Scope := scopeOf (topSt 49)
noncomputable def ltC1 : Expr := asgV (nth ltB 0)
noncomputable def ltC3 : Expr := arg0 (asgV (nth ltB 2))
noncomputable def lt2 : Stmt := nth ltB 1
noncomputable def lt4 : Stmt := nth ltB 3
noncomputable def ltT1 : Expr := cIf ltC1
noncomputable def ltS1 : Scope := cSc ltC1
noncomputable def ltE1 : Expr := cElt ltC1
noncomputable def ltT3 : Expr := cIf ltC3
noncomputable def ltE3 : Expr := cElt ltC3
noncomputable def ltS3 : Scope := cSc ltC3
theorem lt_shape : ∃ p1 p3 p4 p5 p6 p7 p8 p9 p10 p11 k0 p12 p13 p14 p15 p16 p17 p18, ltB = [.Assign [.Name (N "roots") p1] (.ListComp ltE1 [⟨.Name (N "k") p3, .Call (.Name (N "range") p4) [.Call (.Name (N "len") p5) [.Name (N "words") p6] [] p7] [] p8, [ltT1], 0⟩] ltS1 p9) p10, lt2,
    .Assign [.Name (N "text") p11] (.Call (.Attribute (.Constant (.str (N "")) k0 p12) (N "join") p13) [.ListComp ltE3 [⟨.Name (N "word") p14, .Name (N "rest") p15, [ltT3], 0⟩] ltS3 p16] [] p17) p18, lt4] ∧ Nat.beq p13.endLine p17.line = true ∧ Nat.beq p1.line p9.line = true := ⟨_, _, _, _, _, _, _, _, _, _, _, _, _, _, _, _, _, _, by with_unfolding_all rfl, by with_unfolding_all rfl, by with_unfolding_all rfl⟩
noncomputable abbrev Plt (pn : Nat) : Pm := ⟨cMax c2, scopeOf (topSt 49), [N "words"], pn⟩
noncomputable abbrev Pl1 : Pm := ⟨c2, relab ltS1 ltSc, [N "words"], 1⟩
noncomputable abbrev Pl3 : Pm := ⟨c2, relab ltS3 ltSc, [], 0⟩
section
variable {w : World} {os : OsState} {n j : Nat} {P : Pm} {cl : List (Str × Addr)} {τ : Sto} {st : St} {ρ : Nat → Addr} {x : Str} {v : V} {t elt : Expr} {r : Option V}
noncomputable def eltK (x : Str) (st : St) (y v' : V) (st2 : St) : Prop := (∀ ρ, v'.re ρ = y.re ρ) ∧ ∃ o hX nx', st2 = ⟨[(x, o)], st.c, hX ++ st.h, nx'⟩
theorem elt_ev (hk : P.sc.kind = .function) (hC : CTok w os n P.C) (hn : 2 ≤ n) (hcl : cl.map (·.1) = P.cn) (hok : st.ok = true) {y : V} (he : (evN P j).e elt st (eltK x st y)) (hy : ∀ ρ', y.re ρ' = y.re ρ) {c : Fx} (e1 : c.w = w) (e2 : c.os = os) (e3 : c.cl = cl) (ok : c.Ok n) :
    We c P.sc elt (mre ρ st.m) (τ ++ st.sto cl ρ) (fun y' m2 σ2 => y' = y.re ρ ∧ m2.map (·.1) = [x] ∧ Picks σ2 (τ ++ st.sto cl ρ)) := by
  subst e1 e2 e3
  refine WT.mono (WT.beside (c := c) (τ := τ) (R := Teq) (Q := fun y' m2 σ2 => y' = y.re ρ ∧ m2.map (·.1) = [x] ∧ Picks σ2 (st.sto c.cl ρ)) fun g' kg => ?_) ?_
  · have X : Cx c.w c.os n P.cn { c with g := g' } := ⟨rfl, rfl, hcl, ⟨ok.bg.keeps kg, ok.hh, ok.room⟩⟩
    refine WT.mono ((evN_ok hC hk hn j).e { c with g := g' } X elt st _ ρ he) ?_
    rintro y' m σ ⟨v', st2, ρ', rfl, rfl, rfl, ag, _, h1, o, hX, nx', rfl⟩
    refine ⟨(h1 ρ').trans (hy ρ'), rfl, ?_⟩
    obtain ⟨_, q⟩ := st.ok_eq ag hok c.cl
    rw [← q]
    refine Picks.of_perm (τ := hre ρ' hX) ?_
    show ((cre ρ' c.cl st.c ++ hre ρ' st.h) ++ hre ρ' hX).Perm (cre ρ' c.cl st.c ++ hre ρ' (hX ++ st.h))
    have e : hre ρ' (hX ++ st.h) = hre ρ' hX ++ hre ρ' st.h := by unfold hre; rw [List.map_append]
    rw [e, List.append_assoc]
    exact List.Perm.append_left _ List.perm_append_comm
  · rintro y' m σ ⟨σ'', rfl, h1, h2, τ3, h3⟩
    exact ⟨h1, h2, Picks.of_perm (τ := τ3) (by rw [List.append_assoc]; exact h3.perm.append_left _)⟩
theorem turn_ev (hk : P.sc.kind = .function) (hC : CTok w os n P.C) (hn : 2 ≤ n) (hcl : cl.map (·.1) = P.cn) (hok : st.ok = true) (hm : st.m = [(x, some v)]) (ht : (evN P j).t t st (fun b st1 => b = r.isSome ∧ st1 = st)) (he : ∀ y, r = some y → (evN P j).e elt st (eltK x st y)) (hy : ∀ y, r = some y → ∀ ρ', y.re ρ' = y.re ρ) :
    Wturn w os cl n P.sc x [t] elt (v.re ρ) (τ ++ st.sto cl ρ) (r.map (V.re ρ)) := by
  rintro c rfl rfl rfl ok
  have em : mre ρ st.m = [(x, some (v.re ρ))] := by rw [hm]; rfl
  rw [← em]
  refine ifs_one (WT.mono (WT.beside (c := c) (τ := τ) (R := Eq) (t := isTrue t (c.env P.sc) (eval t (c.env P.sc))) (Q := fun b m1 σ1 => b = r.isSome ∧ m1 = mre ρ st.m ∧ σ1 = st.sto c.cl ρ) fun g' kg => ?_) ?_)
  · have X : Cx c.w c.os n P.cn { c with g := g' } := ⟨rfl, rfl, hcl, ⟨ok.bg.keeps kg, ok.hh, ok.room⟩⟩
    refine WT.mono ((evN_ok hC hk hn j).t { c with g := g' } X t st _ ρ ht) ?_
    rintro b m σ ⟨b', st1, ρ', rfl, rfl, rfl, ag, _, rfl, rfl⟩
    obtain ⟨q1, q2⟩ := st1.ok_eq ag hok c.cl
    exact ⟨rfl, q1, q2⟩
  · rintro b m σ ⟨σ'', rfl, rfl, rfl, rfl⟩
    refine ⟨by rw [em]; rfl, Picks.refl _, ?_⟩
    cases r with
    | none => rfl
    | some y => exact ⟨rfl, fun c2 f1 f2 f3 ok2 => elt_ev hk hC hn hcl hok (he y rfl) (hy y rfl) f1 f2 f3 ok2⟩
theorem turn_ev0 (hk : P.sc.kind = .function) (hC : CTok w os n P.C) (hn : 2 ≤ n) (hcl : cl.map (·.1) = P.cn) (hok : st.ok = true) (hm : st.m = [(x, some v)]) {y : V} (he : (evN P j).e elt st (eltK x st y)) (hy : ∀ ρ', y.re ρ' = y.re ρ) :
    Wturn w os cl n P.sc x [] elt (v.re ρ) (τ ++ st.sto cl ρ) (some (y.re ρ)) := by
  rintro c rfl rfl rfl ok
  have em : mre ρ st.m = [(x, some (v.re ρ))] := by rw [hm]; rfl
  rw [← em]
  refine ifs_nil ⟨by rw [em]; rfl, Picks.refl _, rfl, fun c2 f1 f2 f3 ok2 => elt_ev hk hC hn hcl hok he hy f1 f2 f3 ok2⟩
end
theorem self_list {c' : Fx} {ia l : Addr} {m : Loc} {σ : Sto} {Q : Value → Loc → Sto → Prop} (h : Q (.ref ia) m ((ia, liter l 0) :: σ)) : WT c' (fun a b => a = b) (pyIter (.ref ia)) m ((ia, liter l 0) :: σ) Q := by
  intro s hs
  obtain ⟨oi, hoi, hi1, hi2⟩ := hs.at (a := ia) (.tail _ (.head _))
  exact wpAny_pyIter_listiter ⟨oi, hoi, hi1, hi2⟩ ⟨_, m, _, rfl, h, hs.toSr0⟩
theorem self_range {c' : Fx} {ia : Addr} {a b : Int} {m : Loc} {σ : Sto} {Q : Value → Loc → Sto → Prop} (h : Q (.ref ia) m ((ia, riter a b 1) :: σ)) : WT c' (fun a b => a = b) (pyIter (.ref ia)) m ((ia, riter a b 1) :: σ) Q := by
  intro s hs
  obtain ⟨oi, hoi, hi1⟩ := hs.at (a := ia) (.tail _ (.head _))
  have hi1 : oi = _ := hi1
  subst hi1
  exact wpAny_pyIter_rangeiter hoi ⟨_, m, _, rfl, h, hs.toSr0⟩
noncomputable def rootB (ws : List Str) (j : Nat) : Bool := Txt.slice (ws.getD j (N "")) none (some 1) == N "/"
noncomputable def rootsP (ws : List Str) : List Int := ((List.range ws.length).filter (rootB ws)).map fun (j : Nat) => (j : Int)
noncomputable def fullW (x : Str) : Str := match Txt.item x (-1) == N "/" with | true => x | false => x ++ N "/"
noncomputable def textW (rest : List Str) : Str := Txt.join (N "") ((rest.filter (fun x => x != N "")).map fullW)
noncomputable def lastW (rest : List Str) : Str := rest.getD (idx rest.length (-1)) (N "")
noncomputable def lawT (rest : List Str) : Str := match !([N "", N "/"].any fun x => x == Txt.slice (lastW rest) (some (-1)) none) with
  | true => Txt.slice (textW rest) none (some (-1))
  | false => textW rest
theorem f_text (w : World) : FOkC w 886 (topSt 49) := ⟨by kernel_rfl, by kernel_rfl, by kernel_rfl, by kernel_rfl, by kernel_rfl, by kernel_rfl, by kernel_rfl, by kernel_rfl, by kernel_rfl, by kernel_rfl⟩
theorem lt_names : ltSc.kind = .function ∧ ltSc.names.lookup (N "words") = some .cell ∧ ltSc.names.lookup (N "roots") = some .local ∧ ltSc.names.lookup (N "rest") = some .local ∧ ltSc.names.lookup (N "text") = some .local ∧ ltSc.names.lookup (N "range") = some .globalImplicit ∧ ltSc.names.lookup (N "len") = some .globalImplicit := ⟨by kernel_rfl, by kernel_rfl, by kernel_rfl, by kernel_rfl, by kernel_rfl, by kernel_rfl, by kernel_rfl⟩
theorem lt_s1 : ltS1.kind = .function ∧ (ltS1.names.all fun y => y.2 != .cell) = true ∧ (ltS1.names.all fun y => y.2 != .local || ltS1.names.lookup y.1 == some .local) = true ∧ (relab ltS1 ltSc).names.lookup (N "k") = some .local ∧ (relab ltS1 ltSc).kind = .function := ⟨by kernel_rfl, by kernel_rfl, by kernel_rfl, by kernel_rfl, by kernel_rfl⟩
theorem lt_s3 : ltS3.kind = .function ∧ (ltS3.names.all fun y => y.2 != .cell) = true ∧ (ltS3.names.all fun y => y.2 != .local || ltS3.names.lookup y.1 == some .local) = true ∧ (relab ltS3 ltSc).names.lookup (N "word") = some .local ∧ (relab ltS3 ltSc).kind = .function := ⟨by kernel_rfl, by kernel_rfl, by kernel_rfl, by kernel_rfl, by kernel_rfl⟩
theorem all_ne {l : List (Str × NameKind)} (h : (l.all fun y => y.2 != .cell) = true) : ∀ y ∈ l, y.2 ≠ .cell := fun y hy e => by
  have := List.all_eq_true.mp h y hy
  rw [e] at this; exact absurd this (by decide)
theorem all_loc {l : List (Str × NameKind)} (h : (l.all fun y => y.2 != .local || l.lookup y.1 == some .local) = true) : ∀ y ∈ l, y.2 = .local → l.lookup y.1 = some .local := fun y hy e => by
  have := List.all_eq_true.mp h y hy
  rw [e] at this
  simpa using this
theorem lt_cells (L : Addr) : cellsFrom (L + 1) ltSc.names [] = [(N "words", L + 1)] := by kernel_rfl
theorem lt_clos1 (env : Env) (a : Addr) (h : env.cells = [(N "words", a)]) : closureFor ltS1 env = pure [(N "words", a)] := by
  obtain ⟨sc, lo, gl, ce, q, f, cd, fr, bb⟩ := env
  dsimp only at h
  subst h
  kernel_rfl
theorem lt_clos3 (env : Env) : closureFor ltS3 env = pure [] := by
  obtain ⟨sc, lo, gl, ce, q, f, cd, fr, bb⟩ := env
  kernel_rfl
theorem lt_vcT1 (ws : List Str) (j : Int) (k : Bool → St → Prop) : (evN Pl1 J0).t ltT1 ⟨[(N "k", some (.int false j))], [(N "words", some (.loc 0))], [(0, .strs ws)], 1⟩ k =
  ((((Neg.neg ((List.length ws) : Int)) ≤ j) ∧ ((j < ((List.length ws) : Int)) ∧ ((List.length ws) ≤ sizeLine))) ∧
  (((List.getD ws (Mine.idx (List.length ws) j) (N "")).length ≤ sizeLine) ∧
   (((((Txt.slice (List.getD ws (Mine.idx (List.length ws) j) (N "")) none (some 1)) == (N "/")) = true) →
      k true ⟨[((N "k"), (some (.int false j)))], [((N "words"), (some (.loc 0)))], [(0, (.strs ws))], 1⟩) ∧
    ((((Txt.slice (List.getD ws (Mine.idx (List.length ws) j) (N "")) none (some 1)) == (N "/")) = false) →
      k false ⟨[((N "k"), (some (.int false j)))], [((N "words"), (some (.loc 0)))], [(0, (.strs ws))], 1⟩)))) := by kernel_rfl
theorem lt_vcE1 (ws : List Str) (j : Int) (k : V → St → Prop) : (evN Pl1 J0).e ltE1 ⟨[(N "k", some (.int false j))], [(N "words", some (.loc 0))], [(0, .strs ws)], 1⟩ k = k (.int false j) ⟨[(N "k", some (.int false j))], [(N "words", some (.loc 0))], [(0, .strs ws)], 1⟩ := by kernel_rfl
theorem lt_vcT3 (x : Str) (k : Bool → St → Prop) : (evN Pl3 J0).t ltT3 ⟨[(N "word", some (.str false x))], [], [], 0⟩ k =
  ((((x != (N "")) = true) → k true ⟨[((N "word"), (some (.str false x)))], [], [], 0⟩) ∧ (((x != (N "")) = false) → k false ⟨[((N "word"), (some (.str false x)))], [], [], 0⟩)) := by kernel_rfl
theorem lt_vcE3 (x : Str) (k : V → St → Prop) : (evN Pl3 J0).e ltE3 ⟨[(N "word", some (.str false x))], [], [], 0⟩ k =
  ((((Neg.neg (x.length : Int)) ≤ (-1)) ∧ (((-1) < (x.length : Int)) ∧ (x.length ≤ sizeLine))) ∧
  (((((Txt.item x (-1)) == (N "/")) = true) → k (.str false x) ⟨[((N "word"), (some (.str false x)))], [], [], 0⟩) ∧
   ((((Txt.item x (-1)) == (N "/")) = false) →
     (((x.length + (N "/").length) ≤ sizeLine) ∧ k (.str false (x ++ (N "/"))) ⟨[((N "word"), (some (.str false x)))], [], [], 0⟩)))) := by kernel_rfl
theorem lt_vc2 (ws : List Str) (rs : List Int) (k : Fl → St → Prop) : (evN (Plt 2) J0).s lt2 ⟨[(N "roots", some (.loc 1)), (N "rest", none), (N "text", none)], [(N "words", some (.loc 0))], [(1, .ints rs), (0, .strs ws)], 2⟩ k =
  (((1 + (List.length rs)) ≤ sizeLine) ∧ ((([0] ++ rs) ≠ []) ∧ (∀ M, M ∈ ([0] ++ rs) → (∀ (a : Int), a ∈ [0] ++ rs → a ≤ M) →
       ((0 ≤ M) ∧ (((List.length ws) ≤ sizeLine) ∧
        k .next ⟨[((N "roots"), (some (.loc 1))), ((N "rest"), (some (.loc 4))), ((N "text"), none)], [((N "words"), (some (.loc 0)))], [(4, (.strs (List.drop (Int.toNat M) ws))), (3, (.ints ([0] ++ rs))), (2, (.ints [0])), (1, (.ints rs)), (0, (.strs ws))], 5⟩))))) := by kernel_rfl
theorem lt_vc4 (rest : List Str) (text : Str) (k : Fl → St → Prop) : (evN (Plt 1) J0).s lt4 ⟨[(N "roots", none), (N "rest", some (.loc 0)), (N "text", some (.str false text))], [], [(0, .strs rest)], 1⟩ k =
  ((((Neg.neg ((List.length rest) : Int)) ≤ (-1)) ∧ (((-1) < ((List.length rest) : Int)) ∧ ((List.length rest) ≤ sizeLine))) ∧
  (((lastW rest).length ≤ sizeLine) ∧
   ((((![N "", N "/"].any fun x => x == Txt.slice (lastW rest) (some (-1)) none) = true) →
      ((text.length ≤ sizeLine) ∧
      k (.ret (.str false (Txt.slice text none (some (-1))))) ⟨[((N "roots"), none), ((N "rest"), (some (.loc 0))), ((N "text"), (some (.str false text)))], [], [(1, (.tup [(.str true (N "")), (.str true (N "/"))])), (0, (.strs rest))], 2⟩)) ∧
    (((![N "", N "/"].any fun x => x == Txt.slice (lastW rest) (some (-1)) none) = false) →
      k (.ret (.str false text)) ⟨[((N "roots"), none), ((N "rest"), (some (.loc 0))), ((N "text"), (some (.str false text)))], [], [(1, (.tup [(.str true (N "")), (.str true (N "/"))])), (0, (.strs rest))], 2⟩)))) := by kernel_rfl
theorem swaps_yes {c : Fx} {sc scope : Scope} {elt : Expr} {gens : List Comprehension} {pos py : Pos} {y : Str} {ln : Nat} (h1 : sc.kind = .function) (h2 : sc.names.lookup y = some .local) (h3 : Nat.beq py.line pos.line = true) (h4 : (scope.names.any fun (n, k) => n == y && (k == .local || k == .cell)) = false) :
    swapsWith (.ListComp elt gens scope pos) (some (.Name y py)) ln (c.env sc) = pure true := by
  have e1 : (c.env sc).blockKind = .function := by
    unfold Env.blockKind
    show (if sc.kind.isAnnotationScope = true then _ else sc.kind) = _
    rw [h1]; rfl
  have e2 : (c.env sc).kindOf y = some .local := h2
  have e3 : (py.line == pos.line) = true := by rw [Nat.eq_of_beq_eq_true h3]; simp
  show (pure ((c.env sc).blockKind == .function && (c.env sc).kindOf y == some .local && py.line == pos.line && !(scope.names.any fun (n, k) => n == y && (k == .local || k == .cell))) : Sem Bool) = pure true
  rw [e1, e2, e3, h4]
  rfl
theorem resUp_ints (ws : List Str) : resUp (fun j => if rootB ws j then some (I (j : Int)) else none) ws.length = (rootsP ws).map I := by
  unfold resUp rootsP
  rw [List.map_map]
  generalize List.range ws.length = l
  induction l with
  | nil => rfl
  | cons a r ih =>
    rw [List.filterMap_cons, List.filter_cons]
    cases e : rootB ws a with
    | true => simp [ih]
    | false => simp [ih]
theorem resUp_full (rest : List Str) : resUp (fun j => if (rest.getD j (N "") != N "") then some (S (fullW (rest.getD j (N "")))) else none) rest.length = ((rest.filter (fun x => x != N "")).map fullW).map S := by
  unfold resUp
  rw [List.map_map]
  have key : ∀ (l : List Str) (k : Nat) (f : Nat → Str), (∀ j, f (k + j) = l.getD j (N "")) → (List.range' k l.length).filterMap (fun j => if (f j != N "") = true then some (S (fullW (f j))) else none) = (l.filter (fun x => x != N "")).map (S ∘ fullW) := by
    intro l
    induction l with
    | nil => intro k f _; rfl
    | cons a r ih =>
      intro k f hf
      rw [List.length_cons, List.range'_succ, List.filterMap_cons, List.filter_cons]
      have h0 : f k = a := by have := hf 0; simpa using this
      have ih' := ih (k + 1) f (fun j => by have := hf (j + 1); rw [show k + 1 + j = k + (j + 1) by omega, this]; rfl)
      rw [h0, ih']
      cases e : a != N "" with
      | true => simp
      | false => simp
  rw [List.range_eq_range']
  exact key rest 0 (fun j => rest.getD j (N "")) (fun j => by rw [Nat.zero_add])
noncomputable def IsMax (M : Int) (l : List Int) : Prop := M ∈ l ∧ ∀ a ∈ l, a ≤ M
theorem rootsP_lt {ws : List Str} {M : Int} (hne : ws ≠ []) (h : IsMax M ([0] ++ rootsP ws)) : 0 ≤ M ∧ M.toNat < ws.length := by
  have hpos : 0 < ws.length := by
    rcases Nat.eq_zero_or_pos ws.length with q | q
    · exact (hne (List.length_eq_zero_iff.mp q)).elim
    · exact q
  rcases List.mem_append.mp h.1 with q | q
  · have := List.mem_singleton.mp q
    subst this
    exact ⟨Int.le_refl _, hpos⟩
  · unfold rootsP at q
    obtain ⟨j, hj, rfl⟩ := List.mem_map.mp q
    have := List.mem_range.mp (List.mem_filter.mp hj).1
    exact ⟨by exact Int.natCast_nonneg _, by assumption⟩
theorem rootsP_len (ws : List Str) : (rootsP ws).length ≤ ws.length := by
  unfold rootsP
  rw [List.length_map]
  exact Nat.le_trans (List.length_filter_le _ _) (by simp)
theorem idx_nat (n j : Nat) : idx n (j : Int) = j := by unfold idx; rw [if_neg (by omega)]; omega
section
variable {w : World} {os : OsState} {l : Addr} {ws : List Str}
theorem lt_bind (w : World) (u : Value) : ∃ fd, fd = fdAt w 886 ∧ bindArgs fd ⟨[u], []⟩ = pure [(N "words", u)] := ⟨_, rfl, by kernel_rfl⟩
theorem lt_kinds (u : Value) : ∀ L, ∀ x ∈ [(N "words", u)], ltSc.names.lookup x.1 = some .local ∨ (ltSc.names.lookup x.1 = some .cell ∧ ((cellsFrom (L + 1) ltSc.names []).lookup x.1).isSome = true) := by
  intro L x hx
  rw [List.mem_singleton.mp hx]
  exact .inr ⟨lt_names.2.1, by rw [lt_cells]; rfl⟩
theorem lt_bindC (u : Value) (x : Str) : ORel (if x = N "words" then some u else none) (bindC (fun n => ltSc.names.lookup n) [(N "words", u)] (fun _ => none) x) := by
  have e : bindC (fun n => ltSc.names.lookup n) [(N "words", u)] (fun _ => none) x = if x = N "words" then some u else none := by
    unfold bindC
    rw [if_neg (by rw [lt_names.2.1]; decide)]
    rfl
  rw [e]
  split
  · exact .some (.same _)
  · exact .none
theorem lt_turn1 {a : Addr} {τ : Sto} {ρ : Nat → Addr} (hz : ws.length ≤ 1000) (hw : ∀ x ∈ ws, x.length ≤ 1000) {j : Nat} (hj : j < ws.length) :
    Wturn w os [(N "words", a)] 7 (relab ltS1 ltSc) (N "k") [ltT1] ltE1 (I (j : Int)) (τ ++ St.sto [(N "words", a)] ρ ⟨[(N "k", some (.int false (j : Int)))], [(N "words", some (.loc 0))], [(0, .strs ws)], 1⟩) (if rootB ws j then some (I (j : Int)) else none) := by
  have hlen : (ws.getD j (N "")).length ≤ 1000 := by
    rw [List.getD_eq_getElem?_getD, List.getElem?_eq_getElem hj]
    exact hw _ (List.getElem_mem hj)
  have key := turn_ev (w := w) (os := os) (n := 7) (j := J0) (P := Pl1) (cl := [(N "words", a)]) (τ := τ) (ρ := ρ) (st := ⟨[(N "k", some (.int false (j : Int)))], [(N "words", some (.loc 0))], [(0, .strs ws)], 1⟩) (x := N "k") (v := .int false (j : Int)) (t := ltT1) (elt := ltE1) (r := if rootB ws j then some (.int false (j : Int)) else none) lt_s1.2.2.2.2 ((c2_ok w os).le (by decide)) (by decide) rfl rfl rfl ?_ ?_ ?_
  · have e : (Option.map (V.re ρ) (if rootB ws j = true then some (V.int false (j : Int)) else none)) = if rootB ws j = true then some (I (j : Int)) else none := by
      cases rootB ws j <;> rfl
    rw [e] at key
    exact key
  · rw [lt_vcT1, idx_nat]
    refine ⟨⟨by omega, by exact Int.ofNat_le.2 (by assumption), by exact sz (by assumption) rfl⟩, by exact sz (by assumption) rfl, fun h => ⟨?_, rfl⟩, fun h => ⟨?_, rfl⟩⟩
    · have : rootB ws j = true := h
      rw [this]; rfl
    · have : rootB ws j = false := h
      rw [this]; rfl
  · intro y hy
    rw [lt_vcE1]
    cases e : rootB ws j with
    | true =>
      rw [e, if_pos rfl] at hy
      cases hy
      exact ⟨fun _ => rfl, _, [], _, rfl⟩
    | false => rw [e] at hy; cases hy
  · intro y hy ρ'
    cases e : rootB ws j with
    | true => rw [e, if_pos rfl] at hy; cases hy; rfl
    | false => rw [e] at hy; cases hy
theorem lt_turn3 {τ : Sto} {x : Str} (hx : x.length ≤ 1000) :
    Wturn w os [] 7 (relab ltS3 ltSc) (N "word") [ltT3] ltE3 (S x) (τ ++ []) (if (x != N "") then some (S (fullW x)) else none) := by
  have key := turn_ev (w := w) (os := os) (n := 7) (j := J0) (P := Pl3) (cl := []) (τ := τ) (ρ := fun _ => 0) (st := ⟨[(N "word", some (.str false x))], [], [], 0⟩) (x := N "word") (v := .str false x) (t := ltT3) (elt := ltE3) (r := if (x != N "") then some (.str false (fullW x)) else none) lt_s3.2.2.2.2 ((c2_ok w os).le (by decide)) (by decide) rfl rfl rfl ?_ ?_ ?_
  · have e : (Option.map (V.re fun _ => 0) (if (x != N "") = true then some (V.str false (fullW x)) else none)) = if (x != N "") = true then some (S (fullW x)) else none := by
      cases x != N "" <;> rfl
    rw [e] at key
    exact key
  · rw [lt_vcT3]
    refine ⟨fun h => ⟨?_, rfl⟩, fun h => ⟨?_, rfl⟩⟩
    · rw [h]; rfl
    · rw [h]; rfl
  · intro y hy
    cases e : x != N "" with
    | false => rw [e] at hy; cases hy
    | true =>
      rw [e, if_pos rfl] at hy
      cases hy
      have hpos : 0 < x.length := by
        rcases Nat.eq_zero_or_pos x.length with q | q
        · have : x = N "" := by
            obtain ⟨a⟩ := x
            have : a = #[] := Array.eq_empty_of_size_eq_zero q
            subst this; rfl
          rw [this] at e; exact absurd e (by decide)
        · exact q
      rw [lt_vcE3]
      refine ⟨⟨by omega, by exact Int.natCast_nonneg _, by exact sz (by assumption) rfl⟩, fun h => ?_, fun h => ⟨by rw [sizeLine_eq]; show x.length + 1 ≤ _; omega, ?_⟩⟩
      · have : fullW x = x := by unfold fullW; rw [h]
        exact ⟨fun _ => by rw [this], _, [], _, rfl⟩
      · have : fullW x = x ++ N "/" := by unfold fullW; rw [h]
        exact ⟨fun _ => by rw [this], _, [], _, rfl⟩
  · intro y hy ρ'
    cases e : x != N "" with
    | true => rw [e, if_pos rfl] at hy; cases hy; rfl
    | false => rw [e] at hy; cases hy
end
theorem lt_len (rest : List Str) (hz : rest.length ≤ 1000) (hw : ∀ x ∈ rest, x.length ≤ 1000) : JoinOk (N "") ((rest.filter (fun x => x != N "")).map fullW) = true ∧ (textW rest).length ≤ 16000000 := by
  have h1 : ((rest.filter (fun x => x != N "")).map fullW).length ≤ 1000 := by
    rw [List.length_map]; exact Nat.le_trans (List.length_filter_le _ _) hz
  have h2 : ∀ y ∈ (rest.filter (fun x => x != N "")).map fullW, y.length ≤ 1001 := by
    intro y hy
    obtain ⟨x, hx, rfl⟩ := List.mem_map.mp hy
    have := hw x (List.mem_filter.mp hx).1
    unfold fullW
    split
    · exact sz (by assumption) rfl
    · rw [Str.length_append]; show _ + 1 ≤ _; exact Nat.lt_succ_of_le (by assumption)
  have h3 : ((rest.filter (fun x => x != N "")).map fullW).length * 1001 ≤ 1000 * 1001 := Nat.mul_le_mul_right _ h1
  refine ⟨joinOk_of h2 ?_, ?_⟩
  · show _ + _ * 0 ≤ _; exact sz (by assumption) rfl
  · have := join_le (sep := N "") h2
    unfold textW
    have e : (N "").length = 0 := rfl
    rw [e] at this
    omega
set_option maxHeartbeats 4000000 in
theorem lt_fn (w : World) (os : OsState) (l : Addr) (ws : List Str) (hne : ws ≠ []) (hz : ws.length ≤ 1000) (hw : ∀ x ∈ ws, x.length ≤ 1000) :
    Fn w os 8 (.ref 886) [.ref l] [] [(l, .list (ws.map S))] (fun v σ' => (∃ M, IsMax M ([0] ++ rootsP ws) ∧ v = S (lawT (ws.drop M.toNat))) ∧ σ' = [(l, .list (ws.map S))]) := by
  intro A g E s vs ks b r hh ht hkw hs
  obtain ⟨v1, rfl, t1⟩ := ht.inv1
  rw [t1.ref_inv]
  have hks : ks = [] := hkw.inv0
  subst hks
  obtain ⟨hk, nw, nroots, nrest, ntext, nrange, nlen⟩ := lt_names
  refine call_c (n := 7) (mm := [(N "roots", none), (N "rest", none), (N "text", none)]) (cv := fun x => if x = N "words" then some (.ref l) else none) (f_text w) b r hh (.inl hs.tk) hs.toSr0 (lt_bind w (.ref l)) (lt_kinds (.ref l)) (by decide +kernel) (fun L => by rw [lt_cells]; simp) (fun x v hm => ?_) (lt_bindC (.ref l)) ?_
  · rcases List.mem_cons.mp hm with e | hm
    · cases e
    · rcases List.mem_cons.mp hm with e | hm
      · cases e
      · rcases List.mem_cons.mp hm with e | hm
        · cases e
        · cases hm
  rintro c rfl rfl rfl ecl ok hA hfr
  rw [lt_cells] at ecl
  have hzz : ws.length ≤ sizeLine := by exact sz (by assumption) rfl
  have X : Cx c.w c.os 7 [N "words"] c := ⟨rfl, rfl, by rw [ecl]; rfl, ok⟩
  have hC : CTok c.w c.os 7 (cMax c2) := cMax_ok ((c2_ok c.w c.os).le (by decide))
  have eσ : cellS c.cl (fun x => if x = N "words" then some (.ref l) else none) ++ [(l, AO.list (ws.map S))] = [(c.L + 1, AO.cell (some (.ref l))), (l, AO.list (ws.map S))] := by rw [ecl]; rfl
  rw [eσ]
  have hcell : c.cl.lookup (N "words") = some (c.L + 1) := by rw [ecl]; rfl
  obtain ⟨p1, p3, p4, p5, p6, p7, p8, p9, p10, p11, k0, p12, p13, p14, p15, p16, p17, p18, e, epos, epos2⟩ := lt_shape
  have e' : bodyOf (topSt 49) = ltB := rfl
  rw [e', e]
  -- the first statement
  refine Wx.cons (w1_comp (swaps_yes hk nroots epos2 (by kernel_rfl)) (fun _ => rfl) (lt_clos1 _ _ ecl) lt_s1.1 (all_loc lt_s1.2.2.1) ?_)
  refine We.call1 ok (star_cons rfl) (fun env => star_none (es := []) env rfl) (We.bl ok hk nrange .vrange ⟨ex_t, keepOk_t, Was.cons (star_cons rfl) (We.call1 ok (star_cons rfl) (fun env => star_none (es := []) env rfl) (We.bl ok hk nlen .vlen ⟨ex_b, keepOk_b, Was.cons (star_cons rfl) (We.cell hk nw (by kernel_rfl) hcell (.head _) (Was.nil ?_))⟩))⟩)
  refine c_lenl (xs := ws.map S) (.tail _ (.head _)) (by rw [List.length_map]; exact hzz) (Was.nil ?_)
  rw [List.length_map]
  refine c_range fun ra o ho => ?_
  refine i_range (k := ws.length) ho (.head _) hzz fun it => ?_
  have er : riter 0 (ws.length : Int) 1 = (fun i : Nat => riter (i : Int) ((ws.length : Int) - i) 1) 0 := by simp
  rw [er]
  have turn1 : ∀ j v, ((List.range ws.length).map fun (i : Nat) => I (i : Int))[j]? = some v → Wturn c.w c.os [(N "words", c.L + 1)] 7 (relab ltS1 ltSc) (N "k") [ltT1] ltE1 v ((ra, AO.obj o) :: [(c.L + 1, AO.cell (some (.ref l))), (l, AO.list (ws.map S))]) (if rootB ws j then some (I (j : Int)) else none) := by
    intro j v hv
    obtain ⟨hj, rfl⟩ := range_get hv
    have := lt_turn1 (w := c.w) (os := c.os) (ws := ws) (a := c.L + 1) (τ := [(ra, AO.obj o)]) (ρ := fun _ => l) hz hw hj
    have e2 : St.sto [(N "words", c.L + 1)] (fun _ => l) ⟨[(N "k", some (.int false (j : Int)))], [(N "words", some (.loc 0))], [(0, .strs ws)], 1⟩ = [(c.L + 1, AO.cell (some (.ref l))), (l, AO.list (ws.map S))] := rfl
    rw [e2] at this
    exact this
  refine Wcomp_of (xs := (List.range ws.length).map fun (i : Nat) => I (i : Int)) (F := fun j => if rootB ws j then some (I (j : Int)) else none) (itA := fun i : Nat => riter (i : Int) ((ws.length : Int) - i) 1) (Src := fun _ => True) ok (all_ne lt_s1.2.1) lt_s1.1 lt_s1.2.2.2.1 (by simp; exact hzz) ?_ ?_ ?_ (fun _ => trivial) turn1 ?_
  · intro c' i v m σ Q h1 _ h3
    obtain ⟨h4, rfl⟩ := range_get h1
    exact n_range h4 h3
  · intro c' m σ Q ok' _ h3
    simp only [List.length_map, List.length_range]
    exact n_range_end ok' h3
  · intro c' m σ Q h
    exact self_range h
  intro D
  simp only [List.length_map, List.length_range]
  rw [resUp_ints]
  refine use_name hk nroots .here (seq_next ?_)
  -- the second
  have hsub : Below [(N "roots", some (Value.ref D)), (N "rest", none), (N "text", none)] ((D, AO.list ((rootsP ws).map I)) :: (ra, AO.obj o) :: [(c.L + 1, AO.cell (some (.ref l))), (l, AO.list (ws.map S))]) (mre (fun i => if i = 0 then l else D) [(N "roots", some (.loc 1)), (N "rest", none), (N "text", none)])
      (St.sto c.cl (fun i => if i = 0 then l else D) ⟨[(N "roots", some (.loc 1)), (N "rest", none), (N "text", none)], [(N "words", some (.loc 0))], [(1, .ints (rootsP ws)), (0, .strs ws)], 2⟩) := by
    refine ⟨rfl, fun x u hm => hm, ?_⟩
    have e3 : St.sto c.cl (fun i => if i = 0 then l else D) ⟨[(N "roots", some (.loc 1)), (N "rest", none), (N "text", none)], [(N "words", some (.loc 0))], [(1, .ints (rootsP ws)), (0, .strs ws)], 2⟩ = [(c.L + 1, AO.cell (some (.ref l))), (D, AO.list ((rootsP ws).map I)), (l, AO.list (ws.map S))] := by rw [ecl]; rfl
    rw [e3]
    refine Picks.of_perm (τ := [(ra, AO.obj o)]) ?_
    refine (List.perm_append_comm (l₁ := [(c.L + 1, AO.cell (some (.ref l))), (D, AO.list ((rootsP ws).map I)), (l, AO.list (ws.map S))]) (l₂ := [(ra, AO.obj o)])).trans ?_
    exact (List.Perm.cons _ (.swap ..)).trans (.swap ..)
  refine WT.below hsub (Wx.cons (WT.mono ((evN_ok (P := Plt 2) hC hk (by decide) J0).s c X lt2 ⟨[(N "roots", some (.loc 1)), (N "rest", none), (N "text", none)], [(N "words", some (.loc 0))], [(1, .ints (rootsP ws)), (0, .strs ws)], 2⟩ (fun f st => f = .next ∧ ∃ M, IsMax M ([0] ++ rootsP ws) ∧ st = ⟨[((N "roots"), (some (.loc 1))), ((N "rest"), (some (.loc 4))), ((N "text"), none)], [((N "words"), (some (.loc 0)))], [(4, (.strs (List.drop (Int.toNat M) ws))), (3, (.ints ([0] ++ rootsP ws))), (2, (.ints [0])), (1, (.ints (rootsP ws))), (0, (.strs ws))], 5⟩) (fun i => if i = 0 then l else D) (Nat.le_refl _) ?_) ?_))
  · rw [lt_vc2]
    have hrl := rootsP_len ws
    refine ⟨by rw [sizeLine_eq]; omega, by simp, fun M h1 h2 => ⟨(rootsP_lt hne ⟨h1, h2⟩).1, hzz, rfl, M, ⟨h1, h2⟩, rfl⟩⟩
  rintro f m σ ⟨f', st', ρ, rfl, bl, ag, rfl, M, hM, rfl⟩
  have hrl := rootsP_lt hne hM
  generalize hrest : ws.drop M.toNat = rest at *
  have hrz : rest.length ≤ 1000 := by rw [← hrest, List.length_drop]; omega
  have hrw : ∀ x ∈ rest, x.length ≤ 1000 := fun x hx => hw x (List.mem_of_mem_drop (hrest ▸ hx))
  have hrpos : 0 < rest.length := by rw [← hrest, List.length_drop]; omega
  obtain ⟨hj1, hj2⟩ := lt_len rest hrz hrw
  have e0 : ρ 0 = l := ag 0 (by decide)
  have bl2 : Below m σ [(N "roots", none), (N "rest", some (.ref (ρ 4))), (N "text", none)] [(ρ 4, AO.list (rest.map S)), (l, AO.list (ws.map S))] := by
    refine bl.trans ⟨rfl, fun x u hm => ?_, ?_⟩
    · rcases List.mem_cons.mp hm with e | hm
      · cases e
      · exact List.mem_cons_of_mem _ hm
    · have e3 : St.sto c.cl ρ ⟨[((N "roots"), (some (.loc 1))), ((N "rest"), (some (.loc 4))), ((N "text"), none)], [((N "words"), (some (.loc 0)))], [(4, (.strs rest)), (3, (.ints ([0] ++ rootsP ws))), (2, (.ints [0])), (1, (.ints (rootsP ws))), (0, (.strs ws))], 5⟩ = [(c.L + 1, AO.cell (some (.ref (ρ 0)))), (ρ 4, AO.list (rest.map S)), (ρ 3, AO.list (([0] ++ rootsP ws).map I)), (ρ 2, AO.list ([0].map I)), (ρ 1, AO.list ((rootsP ws).map I)), (ρ 0, AO.list (ws.map S))] := by rw [ecl]; rfl
      rw [e3, e0]
      refine Picks.trans Picks.tail (Picks.cons2 ?_)
      exact Picks.trans Picks.tail (Picks.trans Picks.tail (Picks.trans Picks.tail (Picks.refl _)))
  refine seq_next (WT.below bl2 (Wx.cons (W1.assign rfl hk ntext (We.meth1 ok (endLine_ok rfl rfl rfl epos) (star_cons rfl) (fun env => star_none (es := []) env rfl) (We.cstr ?_)))))
  refine g_str F.slot_str_join F.type_str_join ⟨ex_b, keepOk_b, Was.cons (star_cons rfl) (we_comp (fun _ => rfl) (lt_clos3 _) lt_s3.1 (all_loc lt_s3.2.2.1) (We.name hk nrest (by kernel_rfl) (.tail _ (.head _)) (i_list (xs := rest.map S) (.head _) fun it => ?_)))⟩
  have turn3 : ∀ j v, (rest.map S)[j]? = some v → Wturn c.w c.os [] 7 (relab ltS3 ltSc) (N "word") [ltT3] ltE3 v [(ρ 4, AO.list (rest.map S)), (l, AO.list (ws.map S))] (if (rest.getD j (N "") != N "") then some (S (fullW (rest.getD j (N "")))) else none) := by
    intro j v hv
    rw [List.getElem?_map] at hv
    obtain ⟨x, hx, rfl⟩ := Option.map_eq_some_iff.mp hv
    have ex : rest.getD j (N "") = x := by rw [List.getD_eq_getElem?_getD, hx]; rfl
    rw [ex]
    have := lt_turn3 (w := c.w) (os := c.os) (τ := [(ρ 4, AO.list (rest.map S)), (l, AO.list (ws.map S))]) (hrw x (List.mem_of_getElem? hx))
    rw [List.append_nil] at this
    exact this
  refine Wcomp_of (xs := rest.map S) (F := fun j => if (rest.getD j (N "") != N "") then some (S (fullW (rest.getD j (N "")))) else none) (itA := fun i => liter (ρ 4) i) (Src := fun σ => (ρ 4, AO.list (rest.map S)) ∈ σ) ok (all_ne lt_s3.2.1) lt_s3.1 lt_s3.2.2.2.1 (by rw [List.length_map, sizeLine_eq]; exact sz (by assumption) rfl) ?_ ?_ ?_ (fun p => .tail _ (.head _)) turn3 ?_
  · intro c' i v m σ Q h1 h2 h3
    exact n_list h1 h2 h3
  · intro c' m σ Q ok' h2 h3
    exact n_list_end ok' (by simp) h2 h3
  · intro c' i v m Q
    exact self_list Q
  intro D2
  rw [List.length_map, resUp_full]
  refine Was.nil (c_join (x := N "") (ws := (rest.filter (fun x => x != N "")).map fullW) (.head _) hj1 ?_)
  refine ⟨[(N "roots", none), (N "rest", some (.ref (ρ 4))), (N "text", some (S (textW rest)))], .there (.there .here), seq_next ?_⟩
  -- the last
  have bl3 : Below [(N "roots", none), (N "rest", some (Value.ref (ρ 4))), (N "text", some (S (textW rest)))] ((D2, AO.list (((rest.filter (fun x => x != N "")).map fullW).map S)) :: [(ρ 4, AO.list (rest.map S)), (l, AO.list (ws.map S))]) (mre (fun _ => ρ 4) [(N "roots", none), (N "rest", some (.loc 0)), (N "text", some (.str false (textW rest)))]) ([(l, AO.list (ws.map S))] ++ St.sto c.cl (fun _ => ρ 4) ⟨[(N "roots", none), (N "rest", some (.loc 0)), (N "text", some (.str false (textW rest)))], [], [(0, .strs rest)], 1⟩) := by
    refine ⟨rfl, fun x u hm => hm, Picks.trans Picks.tail (Picks.of_perm (τ := []) ?_)⟩
    rw [List.append_nil]
    exact List.Perm.swap ..
  refine WT.below bl3 (Wx.cons (WT.mono (WT.beside (c := c) (τ := [(l, AO.list (ws.map S))]) (R := FTeq) (t := exec lt4 (c.env (scopeOf (topSt 49)))) (Q := fun f m σ => f = Flow.ret (S (lawT rest))) fun g' kg => ?_) ?_))
  · refine WT.mono ((evN_ok (P := Plt 1) hC hk (by decide) J0).s { c with g := g' } (X.setG kg) lt4 ⟨[(N "roots", none), (N "rest", some (.loc 0)), (N "text", some (.str false (textW rest)))], [], [(0, .strs rest)], 1⟩ (fun f st => ∃ b, f = .ret (.str b (lawT rest))) (fun _ => ρ 4) (Nat.le_refl _) ?_) ?_
    · rw [lt_vc4]
      have hl : (lastW rest).length ≤ 1000 := by
        unfold lastW
        rw [List.getD_eq_getElem?_getD]
        cases q : rest[idx rest.length (-1)]? with
        | none => exact Nat.zero_le _
        | some x => exact hrw x (List.mem_of_getElem? q)
      refine ⟨⟨by omega, by exact Int.natCast_nonneg _, by exact sz (by assumption) rfl⟩, by exact sz (by assumption) rfl, fun h => ⟨by exact sz (by assumption) rfl, false, ?_⟩, fun h => ⟨false, ?_⟩⟩
      · unfold lawT; rw [h]
      · unfold lawT; rw [h]
    · rintro f m σ ⟨f', st', ρ', rfl, _, _, b, rfl⟩
      rfl
  rintro f m σ ⟨σ'', rfl, rfl⟩
  intro u s' tu z
  refine ⟨S (lawT rest), [(l, AO.list (ws.map S))], tu, ⟨⟨M, hM, by rw [hrest]⟩, rfl⟩, z.sub ?_⟩
  exact ((List.sublist_append_left [(l, AO.list (ws.map S))] σ'')).cons _
noncomputable abbrev Ls (x : Str) : List Nat := x.cps.toList
noncomputable def mk (l : List Nat) : Str := ⟨l.toArray⟩
theorem Ls_mk (l : List Nat) : Ls (mk l) = l := rfl
theorem mk_Ls (x : Str) : mk (Ls x) = x := by cases x; rfl
theorem Ls_app (x y : Str) : Ls (x ++ y) = Ls x ++ Ls y := by
  show (x.cps ++ y.cps).toList = _
  simp
theorem Ls_len (x : Str) : (Ls x).length = x.length := by simp [Str.length]
theorem Ls_inj {x y : Str} (h : Ls x = Ls y) : x = y := by rw [← mk_Ls x, ← mk_Ls y, h]
theorem Ls_beq (x y : Str) : (x == y) = (Ls x == Ls y) := by
  rw [Bool.eq_iff_iff, beq_iff_eq, beq_iff_eq]
  exact ⟨fun h => by rw [h], Ls_inj⟩
theorem Ls_bne (x y : Str) : (x != y) = (Ls x != Ls y) := by
  unfold bne; rw [Ls_beq]
theorem slash : Ls (N "/") = [47] := by decide +kernel
theorem empty_ : Ls (N "") = [] := by decide +kernel
theorem idx_form (lo hi : Option Int) (n : Nat) : Builtin.Str.strSliceIndices lo hi 1 n = sliceRange (match lo with | none => (0 : Int) | some i => max 0 (min (if i < 0 then i + n else i) n)) (match hi with | none => (n : Int) | some i => max 0 (min (if i < 0 then i + n else i) n)) 1 := by
  cases lo <;> cases hi <;> kernel_rfl
theorem clip_eq {a n : Nat} (h : a ≤ n) : max (0 : Int) (min (if (a : Int) < 0 then (a : Int) + n else a) n) = a := by
  rw [if_neg (Int.not_lt.2 (Int.natCast_nonneg a)), Int.min_eq_left (Int.ofNat_le.2 h), Int.max_eq_right (Int.natCast_nonneg a)]
theorem idx_eq (lo hi : Option Int) (n a b : Nat) (hab : a ≤ b) (hb : b ≤ n) (h1 : (match lo with | none => (0 : Int) | some i => max 0 (min (if i < 0 then i + n else i) n)) = (a : Int)) (h2 : (match hi with | none => (n : Int) | some i => max 0 (min (if i < 0 then i + n else i) n)) = (b : Int)) :
    Builtin.Str.strSliceIndices lo hi 1 n = Builtin.Str.strSliceIndices (some (a : Int)) (some (b : Int)) 1 n := by
  rw [idx_form, idx_form (some (a : Int)), h1, h2]
  dsimp only
  rw [clip_eq (Nat.le_trans hab hb), clip_eq hb]
theorem Ls_slice {x : Str} {lo hi : Option Int} {a b : Nat} (hab : a ≤ b) (hb : b ≤ x.length) (h1 : (match lo with | none => (0 : Int) | some i => max 0 (min (if i < 0 then i + x.length else i) x.length)) = (a : Int)) (h2 : (match hi with | none => (x.length : Int) | some i => max 0 (min (if i < 0 then i + x.length else i) x.length)) = (b : Int)) :
    Ls (Txt.slice x lo hi) = ((Ls x).drop a).take (b - a) := by
  have e : Txt.slice x lo hi = StrLaws.sliceText x lo hi := rfl
  have e2 : StrLaws.sliceText x lo hi = StrLaws.sliceText x (some (a : Int)) (some (b : Int)) := by
    unfold StrLaws.sliceText
    rw [idx_eq lo hi x.length a b hab hb h1 h2]
  rw [e, e2, StrLaws.sliceText_nat x hab hb]
theorem Ls_upto (x : Str) (b : Nat) : Ls (Txt.slice x none (some (b : Int))) = (Ls x).take b := by
  rw [Ls_slice (a := 0) (b := min b x.length) (Nat.zero_le _) (Nat.min_le_right _ _) rfl (by dsimp only; rw [if_neg (by omega)]; omega)]
  rw [List.drop_zero, Nat.sub_zero]
  rcases Nat.le_total b x.length with h | h
  · rw [Nat.min_eq_left h]
  · rw [Nat.min_eq_right h, List.take_of_length_le (by rw [Ls_len]; exact Nat.le_refl _), List.take_of_length_le (by rw [Ls_len]; exact h)]
theorem Ls_from (x : Str) (a : Nat) : Ls (Txt.slice x (some (a : Int)) none) = (Ls x).drop a := by
  rw [Ls_slice (a := min a x.length) (b := x.length) (Nat.min_le_right _ _) (Nat.le_refl _) (by dsimp only; rw [if_neg (by omega)]; omega) rfl]
  rcases Nat.le_total a x.length with h | h
  · rw [Nat.min_eq_left h, List.take_of_length_le (by rw [List.length_drop, Ls_len]; exact Nat.le_refl _)]
  · rw [Nat.min_eq_right h, Nat.sub_self, List.take_zero, List.drop_of_length_le (by rw [Ls_len]; exact h)]
theorem Ls_but (x : Str) : Ls (Txt.slice x none (some (-1))) = (Ls x).dropLast := by
  rw [Ls_slice (a := 0) (b := x.length - 1) (Nat.zero_le _) (Nat.sub_le _ _) rfl (by dsimp only; rw [if_pos (by exact Int.natCast_nonneg _)]; omega)]
  rw [List.drop_zero, Nat.sub_zero, List.dropLast_eq_take, Ls_len]
theorem Ls_last (x : Str) : Ls (Txt.slice x (some (-1)) none) = (Ls x).drop ((Ls x).length - 1) := by
  rw [Ls_slice (a := x.length - 1) (b := x.length) (Nat.sub_le _ _) (Nat.le_refl _) (by dsimp only; rw [if_pos (by exact Int.natCast_nonneg _)]; omega) rfl]
  rw [Ls_len, List.take_of_length_le (by rw [List.length_drop, Ls_len]; exact Nat.le_refl _)]
theorem drop_last {l : List Nat} {c : Nat} : (l ++ [c]).drop ((l ++ [c]).length - 1) = [c] := by
  rw [List.length_append, List.length_singleton, Nat.add_sub_cancel, List.drop_append_of_le_length (Nat.le_refl _), List.drop_length]; rfl
theorem Ls_item_last {x : Str} {l : List Nat} {c : Nat} (h : Ls x = l ++ [c]) : Txt.item x (-1) = mk [c] := by
  have e : x = N "" ++ ⟨(l ++ [c]).toArray⟩ := by
    apply Ls_inj
    rw [Ls_app, empty_, h]; rfl
  rw [e]
  exact item_last_right _ _ _
theorem starts_slash (x : Str) : Txt.startswith x (N "/") = ((Ls x).take 1 == [47]) := by
  unfold Txt.startswith
  rw [StrLaws.subAt_eq]
  have e : (N "/").length = 1 := rfl
  have e2 : (N "/").cps.toList = [47] := slash
  rw [e, e2, List.drop_zero]
  cases hx : Ls x with
  | nil =>
    have : x.length = 0 := by rw [← Ls_len, hx]; rfl
    have hx' : x.cps.toList = [] := hx
    rw [this, hx']; rfl
  | cons a r =>
    have : x.length = r.length + 1 := by rw [← Ls_len, hx]; rfl
    have hx' : x.cps.toList = a :: r := hx
    rw [this, hx']
    simp
theorem ends_slash (x : Str) : Txt.endswith x (N "/") = ((Ls x).drop ((Ls x).length - 1) == [47]) := by
  unfold Txt.endswith
  rw [StrLaws.subAt_eq]
  have e : (N "/").length = 1 := rfl
  have e2 : (N "/").cps.toList = [47] := slash
  rw [e, e2]
  cases hx : Ls x with
  | nil =>
    have : x.length = 0 := by rw [← Ls_len, hx]; rfl
    have hx' : x.cps.toList = [] := hx
    rw [this, hx']; rfl
  | cons a r =>
    have hl : x.length = r.length + 1 := by rw [← Ls_len, hx]; rfl
    have hx' : x.cps.toList = a :: r := hx
    rw [hl, hx', List.length_cons, Nat.add_sub_cancel]
    have : decide (0 + 1 ≤ r.length + 1) = true := by simp
    rw [this, Bool.true_and, List.take_of_length_le (by rw [List.length_drop, List.length_cons]; omega)]
theorem Ls_join0 (ws : List Str) : Ls (Txt.join (N "") ws) = (ws.map Ls).flatten := by
  show Ls (Builtin.Str.glued (N "") ws) = _
  rw [StrLaws.glued_eq_join]
  induction ws with
  | nil => rfl
  | cons a r ih =>
    cases r with
    | nil => simp [Str.join]
    | cons b r =>
      rw [show Str.join (N "") (a :: b :: r) = a ++ N "" ++ Str.join (N "") (b :: r) from rfl]
      rw [Ls_app, Ls_app, empty_, List.append_nil, ih]; rfl
theorem mk_slash (c : Nat) : (mk [c] == N "/") = (c == 47) := by
  rw [Ls_beq, Ls_mk, slash]
  by_cases h : c = 47
  · subst h; rfl
  · rw [Bool.eq_iff_iff, beq_iff_eq, beq_iff_eq]; simp
theorem ne_empty_or (x : Str) : x = N "" ∨ ∃ l c, Ls x = l ++ [c] := by
  rcases List.eq_nil_or_concat (Ls x) with h | ⟨l, c, h⟩
  · left; apply Ls_inj; rw [h, empty_]
  · right; exact ⟨l, c, by rw [h, List.concat_eq_append]⟩
theorem app_empty (x : Str) : x ++ N "" = x := by apply Ls_inj; rw [Ls_app, empty_, List.append_nil]
theorem empty_app (x : Str) : N "" ++ x = x := by apply Ls_inj; rw [Ls_app, empty_, List.nil_append]
theorem app_assoc (x y z : Str) : x ++ y ++ z = x ++ (y ++ z) := by apply Ls_inj; simp only [Ls_app, List.append_assoc]
theorem ends_of {x : Str} {l : List Nat} {c : Nat} (h : Ls x = l ++ [c]) : Txt.endswith x (N "/") = (c == 47) := by
  rw [ends_slash, h, drop_last]
  rw [Bool.eq_iff_iff, beq_iff_eq, beq_iff_eq]; simp
theorem len_ne {x : Str} {l : List Nat} {c : Nat} (h : Ls x = l ++ [c]) : (x.length == 0) = false := by
  rw [← Ls_len, h]; simp
theorem ne_empty {x : Str} {l : List Nat} {c : Nat} (h : Ls x = l ++ [c]) : (x != N "") = true := by
  rw [Ls_bne, h, empty_]; simp
theorem fullW_of {x : Str} {l : List Nat} {c : Nat} (h : Ls x = l ++ [c]) : fullW x = if c = 47 then x else x ++ N "/" := by
  unfold fullW
  rw [Ls_item_last h, mk_slash]
  by_cases e : c = 47
  · rw [if_pos e, e]; rfl
  · rw [if_neg e, show (c == 47) = false from by simpa using e]
theorem textW_snoc (pre : List Str) (b : Str) : textW (pre ++ [b]) = textW pre ++ (if b = N "" then N "" else fullW b) := by
  apply Ls_inj
  unfold textW
  rw [Ls_app, Ls_join0, Ls_join0, List.filter_append, List.map_append, List.map_append, List.flatten_append]
  congr 1
  by_cases h : b = N ""
  · subst h; rw [if_pos rfl]; rfl
  · rw [if_neg h, List.filter_cons, if_pos (by simpa using h)]; simp
theorem textW_end (pre : List Str) : textW pre = N "" ∨ ∃ l, Ls (textW pre) = l ++ [47] := by
  rcases List.eq_nil_or_concat pre with h | ⟨p, b, h⟩
  · subst h; exact .inl (by apply Ls_inj; unfold textW; rw [Ls_join0]; rfl)
  · rw [List.concat_eq_append] at h
    rw [h, textW_snoc]
    rcases ne_empty_or b with hb | ⟨l, c, hb⟩
    · subst hb
      rw [if_pos rfl, app_empty]
      exact textW_end p
    · have : b ≠ N "" := by have := ne_empty hb; simpa using this
      rw [if_neg this, fullW_of hb]
      right
      split
      · next e => subst e; exact ⟨Ls (textW p) ++ l, by rw [Ls_app, hb, List.append_assoc]⟩
      · exact ⟨Ls (textW p) ++ Ls b, by rw [Ls_app, Ls_app, slash, List.append_assoc]⟩
termination_by pre.length
decreasing_by subst h; simp
theorem join_one (pre : List Str) (b0 b : Str) (h : Txt.startswith b (N "/") = false) : joinStep (textW pre ++ b0) b = textW (pre ++ [b0]) ++ b := by
  unfold joinStep
  rw [h, Bool.false_or, textW_snoc]
  rcases ne_empty_or b0 with hb | ⟨l, c, hb⟩
  · subst hb
    rw [if_pos rfl, app_empty]
    rcases textW_end pre with e | ⟨l, e⟩
    · rw [e, empty_app]; rfl
    · rw [len_ne e, ends_of e]; rfl
  · have hne : b0 ≠ N "" := by have := ne_empty hb; simpa using this
    rw [if_neg hne, fullW_of hb]
    have e : Ls (textW pre ++ b0) = (Ls (textW pre) ++ l) ++ [c] := by rw [Ls_app, hb, List.append_assoc]
    rw [len_ne e, ends_of e]
    by_cases q : c = 47
    · rw [if_pos q, q]; rfl
    · rw [if_neg q, show (c == 47) = false from by simpa using q]
      rw [if_neg (by simp), if_neg (by simp), app_assoc, app_assoc, app_assoc]
theorem join_snoc (h : Str) (tl : List Str) (hr : ∀ b ∈ tl, Txt.startswith b (N "/") = false) : ∃ pre b, h :: tl = pre ++ [b] ∧ joinP h tl = textW pre ++ b := by
  rcases List.eq_nil_or_concat tl with e | ⟨p, b, e⟩
  · subst e; exact ⟨[], h, rfl, by rw [show textW [] = N "" from by apply Ls_inj; unfold textW; rw [Ls_join0]; rfl, empty_app]; rfl⟩
  · rw [List.concat_eq_append] at e
    obtain ⟨pre, b0, e1, e2⟩ := join_snoc h p fun z hz => hr z (by rw [e]; exact List.mem_append_left _ hz)
    refine ⟨pre ++ [b0], b, by rw [e, ← List.cons_append, e1], ?_⟩
    rw [e]
    unfold joinP at e2 ⊢
    rw [List.foldl_append, e2]
    exact join_one pre b0 b (hr b (by rw [e]; simp))
termination_by tl.length
decreasing_by subst e; simp
theorem lawT_snoc (pre : List Str) (b : Str) : lawT (pre ++ [b]) = textW pre ++ b := by
  have hl : lastW (pre ++ [b]) = b := by
    unfold lastW
    have : idx (pre ++ [b]).length (-1) = pre.length := by
      unfold idx; rw [if_pos (by decide), List.length_append]; simp; omega
    rw [this]; simp [List.getD_eq_getElem?_getD]
  have hs : Ls (Txt.slice b (some (-1)) none) = (Ls b).drop ((Ls b).length - 1) := Ls_last b
  unfold lawT
  rw [hl, textW_snoc]
  rcases ne_empty_or b with hb | ⟨l, c, hb⟩
  · subst hb
    have e : Txt.slice (N "") (some (-1)) none = N "" := by apply Ls_inj; rw [hs, empty_]; rfl
    rw [e, if_pos rfl, app_empty]; rfl
  · have hne : b ≠ N "" := by have := ne_empty hb; simpa using this
    have e : Txt.slice b (some (-1)) none = mk [c] := by apply Ls_inj; rw [hs, hb, drop_last]; rfl
    rw [e, if_neg hne, fullW_of hb]
    have t : (![N "", N "/"].any fun x => x == mk [c]) = !(c == 47) := by
      have e1 : (N "" == mk [c]) = false := by rw [Ls_beq, empty_, Ls_mk]; rfl
      have e2 : (N "/" == mk [c]) = (c == 47) := by rw [BEq.comm, mk_slash]
      simp only [List.any_cons, List.any_nil, e1, e2, Bool.false_or, Bool.or_false]
    rw [t]
    by_cases q : c = 47
    · subst q; rfl
    · rw [if_neg q, show (c == 47) = false from by simpa using q]
      show Txt.slice _ none (some (-1)) = _
      apply Ls_inj
      rw [Ls_but, Ls_app, Ls_app, slash, ← List.append_assoc, List.dropLast_concat, Ls_app]
theorem root_test (ws : List Str) (j : Nat) : rootB ws j = Txt.startswith (ws.getD j (N "")) (N "/") := by
  unfold rootB
  rw [starts_slash, Ls_beq, slash, show (some (1 : Int)) = some ((1 : Nat) : Int) from rfl, Ls_upto]
theorem foldl_root (a b : Str) (l r : List Str) (h : Txt.startswith b (N "/") = true) : (l ++ b :: r).foldl joinStep a = r.foldl joinStep b := by
  rw [List.foldl_append, List.foldl_cons]
  congr 1
  unfold joinStep; rw [h]; rfl
theorem law_text {ws : List Str} {M : Int} (hne : ws ≠ []) (h : IsMax M ([0] ++ rootsP ws)) : lawT (ws.drop M.toNat) = joinP (ws.headD (N "")) ws.tail := by
  obtain ⟨h0, hlt⟩ := rootsP_lt hne h
  obtain ⟨m, rfl⟩ := Int.eq_ofNat_of_zero_le h0
  rw [Int.toNat_natCast] at hlt ⊢
  have hd : ws.drop m = ws.getD m (N "") :: ws.drop (m + 1) := by
    rw [List.drop_eq_getElem_cons hlt, List.getD_eq_getElem?_getD, List.getElem?_eq_getElem hlt]; rfl
  have hr : ∀ b ∈ ws.drop (m + 1), Txt.startswith b (N "/") = false := by
    intro b hb
    obtain ⟨i, hi, e⟩ := List.mem_iff_getElem.mp hb
    rw [List.getElem_drop] at e
    rw [List.length_drop] at hi
    cases q : Txt.startswith b (N "/") with
    | false => rfl
    | true =>
      have : ((m + 1 + i : Nat) : Int) ∈ [0] ++ rootsP ws := by
        refine List.mem_append_right _ ?_
        unfold rootsP
        refine List.mem_map.mpr ⟨m + 1 + i, List.mem_filter.mpr ⟨List.mem_range.mpr (by omega), ?_⟩, rfl⟩
        rw [root_test, List.getD_eq_getElem?_getD, List.getElem?_eq_getElem (by omega), Option.getD_some, e, q]
      have := h.2 _ this
      omega
  obtain ⟨pre, b, e1, e2⟩ := join_snoc (ws.getD m (N "")) (ws.drop (m + 1)) hr
  rw [hd, e1, lawT_snoc, ← e2]
  cases ws with
  | nil => exact absurd rfl hne
  | cons a r =>
    show _ = joinP a r
    cases m with
    | zero => rfl
    | succ m =>
      have hm : ((m + 1 : Nat) : Int) ∈ rootsP (a :: r) := by
        rcases List.mem_append.mp h.1 with q | q
        · have := List.mem_singleton.mp q; omega
        · exact q
      have hs : Txt.startswith ((a :: r).getD (m + 1) (N "")) (N "/") = true := by
        unfold rootsP at hm
        obtain ⟨j, hj, e⟩ := List.mem_map.mp hm
        have e : j = m + 1 := by omega
        subst e
        rw [← root_test]; exact (List.mem_filter.mp hj).2
      have hsplit : r = r.take m ++ (a :: r).getD (m + 1) (N "") :: r.drop (m + 1) := by
        have e0 : (a :: r).getD (m + 1) (N "") :: r.drop (m + 1) = r.drop m := by
          rw [← show (a :: r).drop (m + 1) = r.drop m from rfl, hd]; rfl
        rw [e0, List.take_append_drop]
      unfold joinP
      conv => rhs; rw [hsplit]
      rw [foldl_root _ _ _ _ hs]; rfl
theorem lt_join (w : World) (os : OsState) (l : Addr) (ws : List Str) (hne : ws ≠ []) (hz : ws.length ≤ 1000) (hw : ∀ x ∈ ws, x.length ≤ 1000) :
    Fn w os 8 (.ref 886) [.ref l] [] [(l, .list (ws.map S))] (fun v σ' => v = S (joinP (ws.headD (N "")) ws.tail) ∧ σ' = [(l, .list (ws.map S))]) := by
  refine (lt_fn w os l ws hne hz hw).mono ?_
  rintro v σ' ⟨⟨M, hM, rfl⟩, e⟩
  exact ⟨by rw [law_text hne hM], e⟩
theorem free_cut {c : Nat} : ∀ {p q X Y : List Nat}, c ∉ p → c ∉ q → p ++ c :: X = q ++ c :: Y → p = q ∧ X = Y
  | [], [], X, Y, _, _, h => ⟨rfl, by simpa using h⟩
  | [], a :: q, X, Y, _, hq, h => by
    have : c = a := by simpa using congrArg List.head? h
    exact (hq (by rw [this]; exact .head _)).elim
  | a :: p, [], X, Y, hp, _, h => by
    have : a = c := by simpa using congrArg List.head? h
    exact (hp (by rw [this]; exact .head _)).elim
  | a :: p, b :: q, X, Y, hp, hq, h => by
    rw [List.cons_append, List.cons_append] at h
    injection h with h1 h2
    obtain ⟨e1, e2⟩ := free_cut (fun m => hp (.tail _ m)) (fun m => hq (.tail _ m)) h2
    exact ⟨by rw [h1, e1], e2⟩
noncomputable def one (c : Nat) : Str := ⟨#[c]⟩
theorem Ls_one (c : Nat) : Ls (one c) = [c] := rfl
theorem sj_cons (y p q : Str) (r : List Str) : Str.join y (p :: q :: r) = p ++ y ++ Str.join y (q :: r) := rfl
theorem sj_one (y p : Str) : Str.join y [p] = p := rfl
theorem Ls_sj (c : Nat) (p q : Str) (r : List Str) : Ls (Str.join (one c) (p :: q :: r)) = Ls p ++ c :: Ls (Str.join (one c) (q :: r)) := by
  rw [sj_cons, Ls_app, Ls_app, Ls_one, List.append_assoc]; rfl
theorem join_inj (c : Nat) : ∀ P Q : List Str, P ≠ [] → Q ≠ [] → (∀ p ∈ P, c ∉ Ls p) → (∀ q ∈ Q, c ∉ Ls q) → Str.join (one c) P = Str.join (one c) Q → P = Q
  | [], _, h, _, _, _, _ => absurd rfl h
  | _ :: _, [], _, h, _, _, _ => absurd rfl h
  | [p], [q], _, _, _, _, h => by rw [sj_one, sj_one] at h; rw [h]
  | [p], q :: q2 :: r, _, _, hP, _, h => by
    have := congrArg Ls h
    rw [sj_one, Ls_sj] at this
    exact (hP p (.head _) (by rw [this]; simp)).elim
  | p :: p2 :: r, [q], _, _, _, hQ, h => by
    have := congrArg Ls h
    rw [sj_one, Ls_sj] at this
    exact (hQ q (.head _) (by rw [← this]; simp)).elim
  | p :: p2 :: r, q :: q2 :: r2, _, _, hP, hQ, h => by
    have := congrArg Ls h
    rw [Ls_sj, Ls_sj] at this
    obtain ⟨e1, e2⟩ := free_cut (hP p (.head _)) (hQ q (.head _)) this
    rw [Ls_inj e1, join_inj c (p2 :: r) (q2 :: r2) (by simp) (by simp) (fun z m => hP z (.tail _ m)) (fun z m => hQ z (.tail _ m)) (Ls_inj e2)]
theorem split_ne (x y : Str) : Txt.split x y ≠ [] := by
  rcases split_cases x y with h | ⟨cuts, h1, h2⟩
  · rw [h]; simp
  · rw [h2]; intro e; have := congrArg List.length e; rw [length_partsBetween] at this; simp at this
theorem slash_one : N "/" = one 47 := by apply Ls_inj; rw [slash]; rfl
theorem tj (y : Str) (ps : List Str) : Txt.join y ps = Str.join y ps := StrLaws.glued_eq_join ..
theorem split_joined {ps : List Str} (hne : ps ≠ []) (h : ∀ p ∈ ps, 47 ∉ Ls p) : Txt.split (Txt.join (N "/") ps) (N "/") = ps := by
  rw [slash_one]
  refine join_inj 47 _ _ (split_ne _ _) hne (StrLaws.split_free _ 47) h ?_
  rw [tj]; exact StrLaws.join_split _ _
noncomputable def rep (c : Nat) (z : List Nat) (l : List Nat) : List Nat := l.flatMap fun k => if k = c then z else [k]
theorem rep_free (c : Nat) (z : List Nat) : ∀ l : List Nat, c ∉ l → rep c z l = l
  | [], _ => rfl
  | k :: r, h => by
    have h1 : ¬ k = c := fun e => h (e ▸ List.mem_cons_self ..)
    have h2 : c ∉ r := fun m => h (List.mem_cons_of_mem _ m)
    have ih := rep_free c z r h2
    unfold rep at ih ⊢
    rw [List.flatMap_cons, if_neg h1, ih]; rfl
theorem rep_app (c : Nat) (z a b : List Nat) : rep c z (a ++ b) = rep c z a ++ rep c z b := List.flatMap_append
theorem rep_join (c : Nat) (z : Str) : ∀ parts : List Str, (∀ p ∈ parts, c ∉ Ls p) → rep c (Ls z) (Ls (Str.join (one c) parts)) = Ls (Str.join z parts)
  | [], _ => rfl
  | [p], h => rep_free c _ _ (h p (List.mem_singleton.mpr rfl))
  | p :: q :: r, h => by
    have ih := rep_join c z (q :: r) fun a ha => h a (List.mem_cons_of_mem _ ha)
    rw [Ls_sj, sj_cons, Ls_app, Ls_app, ← ih, rep_app, rep_free c _ _ (h p (.head _)), show c :: Ls (Str.join (one c) (q :: r)) = [c] ++ Ls (Str.join (one c) (q :: r)) from rfl, rep_app, List.append_assoc]
    congr 2
    unfold rep
    simp
theorem Ls_replace (x z : Str) (c : Nat) : Ls (Txt.replace x (one c) z) = rep c (Ls z) (Ls x) := by
  rw [show one c = ⟨#[c]⟩ from rfl, StrLaws.replace_one, ← rep_join c z _ (StrLaws.split_free x c)]
  show rep c (Ls z) (Ls (Str.join ⟨#[c]⟩ (Txt.split x ⟨#[c]⟩))) = _
  rw [StrLaws.join_split]
structure Proper (x : Str) : Prop where
  len : x.length ≠ 0
  dot : x ≠ N "."
  dots : x ≠ N ".."
  free : 47 ∉ Ls x
theorem nameP_proper (x : Int) : nameP x = N "" ∨ Proper (nameP x) := by
  unfold nameP
  generalize idx 7 _ = i
  match i with
  | 0 => exact .inr ⟨by decide, by decide, by decide, by decide⟩
  | 1 => exact .inl (by decide)
  | 2 => exact .inr ⟨by decide, by decide, by decide, by decide⟩
  | 3 => exact .inr ⟨by decide, by decide, by decide, by decide⟩
  | 4 => exact .inr ⟨by decide, by decide, by decide, by decide⟩
  | 5 => exact .inr ⟨by decide, by decide, by decide, by decide⟩
  | 6 => exact .inr ⟨by decide, by decide, by decide, by decide⟩
  | i + 7 => exact .inl rfl
theorem moreP_cases (x : Int) : moreP (nameP x) = [] ∨ (moreP (nameP x) = [nameP x] ∧ Proper (nameP x)) := by
  rcases nameP_proper x with h | h
  · left; rw [h]; decide
  · right
    refine ⟨?_, h⟩
    unfold moreP
    have : (nameP x != N "") = true := by
      rw [bne_iff_ne]; intro e; exact h.len (by rw [e]; rfl)
    rw [this]
theorem step_emp (root : Str) (acc : List Str) : normStep root acc (N "") = acc := by unfold normStep; rw [if_pos (by decide)]
theorem step_dot (root : Str) (acc : List Str) : normStep root acc (N ".") = acc := by unfold normStep; rw [if_pos (by decide)]
theorem step_push {x : Str} (root : Str) (acc : List Str) (h : Proper x) : normStep root acc x = acc ++ [x] := by
  unfold normStep
  have e1 : (x.length == 0 || x == N ".") = false := by rw [Bool.or_eq_false_iff]; exact ⟨by simpa using h.len, by simpa using h.dot⟩
  have e2 : (x != N "..") = true := by simpa using h.dots
  rw [e1, if_neg (by decide), e2, Bool.true_or, Bool.true_or, if_pos rfl]
theorem step_pop {y : Str} (root : Str) (acc : List Str) (h : Proper y) : normStep root (acc ++ [y]) (N "..") = acc := by
  unfold normStep
  have e1 : ((N "..").length == 0 || N ".." == N ".") = false := by decide
  have e2 : (N ".." != N "..") = false := by decide
  have e3 : (acc ++ [y]).isEmpty = false := by cases acc <;> rfl
  have e4 : ((acc ++ [y]).getLast? == some (N "..")) = false := by
    rw [List.getLast?_append]; simpa using h.dots
  rw [e1, if_neg (by decide), e2, e3, e4, Bool.and_false, if_neg (by decide), List.dropLast_concat]
theorem dots_nat (n : Nat) : dots (n : Int) = List.replicate n (N "..") := by rw [dots_eq]; rfl
theorem step_up (n : Nat) : normStep (N "") (dots (n : Int)) (N "..") = dots ((n + 1 : Nat) : Int) := by
  rw [dots_nat, dots_nat]
  unfold normStep
  have e1 : ((N "..").length == 0 || N ".." == N ".") = false := by decide
  have e2 : (N ".." != N "..") = false := by decide
  rw [e1, if_neg (by decide), e2, Bool.false_or]
  cases n with
  | zero => rfl
  | succ k =>
    have : ((List.replicate (k + 1) (N "..")).getLast? == some (N "..")) = true := by
      rw [List.replicate_succ', List.getLast?_append]; simp
    rw [this, Bool.or_true, if_pos rfl, ← List.replicate_succ']
theorem step_top {root : Str} (h : root.length ≠ 0) : normStep root [] (N "..") = [] := by
  unfold normStep
  have e1 : ((N "..").length == 0 || N ".." == N ".") = false := by decide
  have e2 : (N ".." != N "..") = false := by decide
  have e3 : (root.length == 0) = false := by simpa using h
  rw [e1, if_neg (by decide), e2, e3]; rfl
theorem fold_pops (root : Str) (base : List Str) : ∀ (k : Nat) (names : List Str), k ≤ names.length → (∀ z ∈ names, Proper z) → (List.replicate k (N "..")).foldl (normStep root) (base ++ names) = base ++ names.take (names.length - k)
  | 0, names, _, _ => by rw [List.replicate_zero, List.foldl_nil, Nat.sub_zero, List.take_length]
  | k + 1, names, hk, hp => by
    rcases List.eq_nil_or_concat names with e | ⟨ns, y, e⟩
    · subst e; cases hk
    · rw [List.concat_eq_append] at e
      subst e
      rw [List.replicate_succ, List.foldl_cons, ← List.append_assoc, step_pop root _ (hp y (by simp))]
      rw [List.length_append, List.length_singleton] at hk
      rw [fold_pops root base k ns (by omega) fun z hz => hp z (List.mem_append_left _ hz)]
      rw [List.length_append, List.length_singleton, show ns.length + 1 - (k + 1) = ns.length - k by omega, List.take_append_of_le_length (by exact Nat.sub_le _ _)]
theorem fold_ups : ∀ (k n : Nat), (List.replicate k (N "..")).foldl (normStep (N "")) (dots (n : Int)) = dots ((n + k : Nat) : Int)
  | 0, n => rfl
  | k + 1, n => by
    rw [List.replicate_succ, List.foldl_cons, step_up, fold_ups k (n + 1), show n + 1 + k = n + (k + 1) by omega]
theorem fold_top {root : Str} (h : root.length ≠ 0) : ∀ k : Nat, (List.replicate k (N "..")).foldl (normStep root) [] = []
  | 0 => rfl
  | k + 1 => by rw [List.replicate_succ, List.foldl_cons, step_top h, fold_top h k]
theorem fold_push (root : Str) : ∀ (names : List Str) (acc : List Str), (∀ z ∈ names, Proper z) → names.foldl (normStep root) acc = acc ++ names
  | [], acc, _ => by rw [List.foldl_nil, List.append_nil]
  | y :: r, acc, h => by
    rw [List.foldl_cons, step_push root acc (h y (.head _)), fold_push root r _ fun z m => h z (.tail _ m), List.append_assoc]; rfl
theorem fold_det (root : Str) (d : Int) (pieces st : List Str) : (detStep d pieces).foldl (normStep root) st = pieces.foldl (normStep root) st := by
  have pb : Proper (N "b c") := ⟨by decide, by decide, by decide, by decide⟩
  have pa : Proper (N "a") := ⟨by decide, by decide, by decide, by decide⟩
  unfold detStep
  split
  · rw [List.foldl_append]
    congr 1
    rw [List.foldl_cons, List.foldl_cons, step_push root st pb, step_pop root st pb]; rfl
  · split
    · rw [List.foldl_append, List.foldl_append]
      rw [List.foldl_cons, step_dot, List.foldl_nil, ← List.foldl_append, List.take_append_drop]
    · split
      · rw [List.foldl_append]
        generalize List.foldl (normStep root) st pieces = s2
        rw [List.foldl_cons, List.foldl_cons, List.foldl_cons, List.foldl_cons, step_push root _ pa, step_emp root (s2 ++ [N "a"]), step_pop root _ pa, step_emp]; rfl
      · rfl
theorem fold_way {root : Str} {u : Nat} {names kept more : List Str} {keep o : Nat} (hn : ∀ z ∈ names, Proper z) (hm : ∀ z ∈ more, Proper z) (hk : kept = names.take keep) (ho : o = 0 ∨ kept = []) (hr : root = N "" ∨ (root.length ≠ 0 ∧ u = 0)) :
    (dots ((names.length : Int) - (kept.length : Int) + (o : Int)) ++ more).foldl (normStep root) (dots (u : Int) ++ names) = dots ((if root = N "" then u + o else u : Nat) : Int) ++ (kept ++ more) := by
  have hkl : kept.length ≤ names.length := by rw [hk, List.length_take]; omega
  have e : (names.length : Int) - (kept.length : Int) + (o : Int) = ((names.length - kept.length + o : Nat) : Int) := by omega
  have htk : names.take (names.length - (names.length - kept.length)) = kept := by
    rw [show names.length - (names.length - kept.length) = kept.length by omega]
    rw [hk, List.length_take]
    rcases Nat.le_total keep names.length with q | q
    · rw [Nat.min_eq_left q]
    · rw [Nat.min_eq_right q, List.take_length, List.take_of_length_le q]
  rw [e, dots_nat (names.length - kept.length + o), ← List.replicate_append_replicate, List.foldl_append, List.foldl_append, fold_pops root _ _ names (Nat.sub_le _ _) hn, htk, fold_push root more _ hm, ← List.append_assoc]
  congr 1
  rcases ho with h | h
  · subst h
    show dots (u : Int) ++ kept = _
    congr 2
    split <;> rfl
  · rw [h, List.append_nil, List.append_nil]
    rcases hr with h | ⟨h, h2⟩
    · subst h; rw [if_pos rfl, fold_ups]
    · subst h2
      rw [if_neg (by intro e; exact h (by rw [e]; rfl))]
      exact fold_top h o
noncomputable abbrev Jn (ps : List Str) : List Nat := Ls (Txt.join (N "/") ps)
theorem Jn_nil : Jn [] = [] := rfl
theorem Jn_one (p : Str) : Jn [p] = Ls p := by unfold Jn; rw [tj, sj_one]
theorem Jn_cons (p q : Str) (r : List Str) : Jn (p :: q :: r) = Ls p ++ 47 :: Jn (q :: r) := by
  unfold Jn; rw [tj, tj, slash_one, Ls_sj]
theorem Jn_app : ∀ (xs ys : List Str), xs ≠ [] → ys ≠ [] → Jn (xs ++ ys) = Jn xs ++ 47 :: Jn ys
  | [], _, h, _ => absurd rfl h
  | [x], [], _, h => absurd rfl h
  | [x], y :: r, _, _ => by rw [Jn_one]; exact Jn_cons x y r
  | x :: x2 :: xs, ys, _, h => by
    rw [show x :: x2 :: xs ++ ys = x :: x2 :: (xs ++ ys) from rfl, Jn_cons x x2 (xs ++ ys), Jn_cons x x2 xs, List.append_assoc, show x2 :: (xs ++ ys) = (x2 :: xs) ++ ys from rfl, Jn_app (x2 :: xs) ys (by simp) h]
    rfl
theorem clip_min (a n : Nat) : max (0 : Int) (min (if (a : Int) < 0 then (a : Int) + n else a) n) = (min a n : Nat) := by
  rw [if_neg (Int.not_lt.2 (Int.natCast_nonneg a)), Int.max_eq_right (Int.le_min.2 ⟨Int.natCast_nonneg a, Int.natCast_nonneg n⟩)]
  rcases Nat.le_total a n with h | h
  · rw [Nat.min_eq_left h, Int.min_eq_left (Int.ofNat_le.2 h)]
  · rw [Nat.min_eq_right h, Int.min_eq_right (Int.ofNat_le.2 h)]
theorem Ls_mid (x : Str) (a b : Nat) (h : a ≤ b) : Ls (Txt.slice x (some (a : Int)) (some (b : Int))) = ((Ls x).drop a).take (b - a) := by
  rw [Ls_slice (lo := some (a : Int)) (hi := some (b : Int)) (a := min a x.length) (b := min b x.length) (Nat.le_min.2 ⟨Nat.le_trans (Nat.min_le_left _ _) h, Nat.min_le_right _ _⟩) (Nat.min_le_right _ _) (clip_min a x.length) (clip_min b x.length)]
  have hl := Ls_len x
  rcases Nat.le_total a x.length with q | q
  · rw [Nat.min_eq_left q]
    rcases Nat.le_total b x.length with p | p
    · rw [Nat.min_eq_left p]
    · rw [Nat.min_eq_right p, List.take_of_length_le (by rw [List.length_drop]; exact Nat.le_refl _), List.take_of_length_le (by rw [List.length_drop]; omega)]
  · rw [Nat.min_eq_right q, Nat.min_eq_right (by exact Nat.le_trans (by assumption) (by assumption)), Nat.sub_self, List.take_zero, List.drop_of_length_le (by assumption), List.take_nil]
noncomputable def HeadOk (l : List Str) : Prop := ∀ x y r, l = x :: y :: r → x ≠ N ""
theorem HeadOk.take {l : List Str} (h : HeadOk l) (hf : ∀ p ∈ l, 47 ∉ Ls p) : (Jn l).take 1 ≠ [47] := by
  match l, h, hf with
  | [], _, _ => rw [Jn_nil]; simp
  | [p], _, hf =>
    rw [Jn_one]
    have := hf p (.head _)
    cases e : Ls p with
    | nil => simp
    | cons a t => rw [e] at this; simp; intro q; subst q; simp at this
  | p :: q :: r, h, hf =>
    rw [Jn_cons]
    have h1 := hf p (.head _)
    have h2 := h p q r rfl
    cases e : Ls p with
    | nil => exact (h2 (Ls_inj (by rw [e, empty_]))).elim
    | cons a t => rw [e] at h1; simp; intro q; subst q; simp at h1
inductive RootOk : Str → List Str → Prop
  | none {l : List Str} : HeadOk l → RootOk (N "") l
  | one {l : List Str} : HeadOk l → RootOk (N "/") l
  | three {r : List Str} : r ≠ [] → RootOk (N "/") (N "" :: N "" :: r)
  | two {l : List Str} : HeadOk l → RootOk (N "//") l
theorem slash2 : Ls (N "//") = [47, 47] := by decide +kernel
theorem slash3 : Ls (N "///") = [47, 47, 47] := by decide +kernel
theorem bne_slash (x : Str) : (x != N "/") = (Ls x != [47]) := by rw [Ls_bne, slash]
theorem beq_slash (x : Str) : (x == N "/") = (Ls x == [47]) := by rw [Ls_beq, slash]
theorem s01 (x : Str) : Ls (Txt.slice x none (some 1)) = (Ls x).take 1 := Ls_upto x 1
theorem s12 (x : Str) : Ls (Txt.slice x (some 1) (some 2)) = ((Ls x).drop 1).take 1 := Ls_mid x 1 2 (by decide)
theorem s23 (x : Str) : Ls (Txt.slice x (some 2) (some 3)) = ((Ls x).drop 2).take 1 := Ls_mid x 2 3 (by decide)
theorem s1_ (x : Str) : Ls (Txt.slice x (some 1) none) = (Ls x).drop 1 := Ls_from x 1
theorem s2_ (x : Str) : Ls (Txt.slice x (some 2) none) = (Ls x).drop 2 := Ls_from x 2
theorem s02 (x : Str) : Ls (Txt.slice x none (some 2)) = (Ls x).take 2 := Ls_upto x 2
theorem root_split {root text : Str} {comps : List Str} (h : RootOk root comps) (hf : ∀ p ∈ comps, 47 ∉ Ls p) (ht : Ls text = Ls root ++ Jn comps) : splitrootP text = (root, Txt.join (N "/") comps) := by
  unfold splitrootP
  rw [bne_slash, bne_slash, beq_slash, s01, s12, s23]
  cases h with
  | none h =>
    have := h.take hf
    rw [empty_, List.nil_append] at ht
    rw [ht, if_pos (by rw [bne_iff_ne]; exact this)]
    congr 1
    exact Ls_inj ht
  | one h =>
    have := h.take hf
    rw [slash] at ht
    rw [ht, if_neg (by simp), if_pos (by
      rw [Bool.or_eq_true]; left; rw [bne_iff_ne]; exact this)]
    congr 1
    apply Ls_inj; rw [s1_, ht]; rfl
  | three h =>
    next r =>
    rw [slash] at ht
    have e : Jn (N "" :: N "" :: r) = 47 :: 47 :: Jn r := by
      cases r with
      | nil => exact absurd rfl h
      | cons a t => rw [Jn_cons, Jn_cons, empty_]; rfl
    rw [ht, if_neg (by simp), if_pos (by
      rw [Bool.or_eq_true]; right; rw [e]; rfl)]
    congr 1
    apply Ls_inj; rw [s1_, ht]; rfl
  | two h =>
    have := h.take hf
    rw [slash2] at ht
    rw [ht, if_neg (by simp), if_neg (by
      rw [Bool.or_eq_true]; rintro (q | q)
      · simp at q
      · rw [beq_iff_eq] at q; exact this q)]
    congr 1
    · apply Ls_inj; rw [s02, ht, slash2]; rfl
    · apply Ls_inj; rw [s2_, ht]; rfl
noncomputable def TOk (root : Str) (stack : List Str) (text : Str) : Prop := ∃ comps : List Str, comps ≠ [] ∧ (∀ c ∈ comps, 47 ∉ Ls c) ∧ Ls text = Ls root ++ Jn comps ∧ RootOk root comps ∧ comps.foldl (normStep root) [] = stack
theorem norm_else (p : Str) : normpathP p = (let path := (splitrootP p).1 ++ Txt.join (N "/") (normComps (splitrootP p).1 (Txt.split (splitrootP p).2 (N "/"))); if path.length == 0 then N "." else path) := by
  unfold normpathP
  split
  · next h =>
    have : p = N "" := by
      apply Ls_inj; rw [empty_]; apply List.length_eq_zero_iff.mp; rw [Ls_len]; simpa using h
    subst this
    decide +kernel
  · rfl
theorem TOk.norm {root text : Str} {stack : List Str} (h : TOk root stack text) : normpathP text = (if (root ++ Txt.join (N "/") stack).length == 0 then N "." else root ++ Txt.join (N "/") stack) := by
  obtain ⟨comps, h1, h2, h3, h4, h5⟩ := h
  rw [norm_else, root_split h4 h2 h3]
  dsimp only
  rw [split_joined h1 h2]
  unfold normComps
  rw [h5]
theorem TOk.place {root text : Str} {u : Nat} {names : List Str} (h : TOk root (dots (u : Int) ++ names) text) (hu : root ≠ N "" → u = 0) : normpathP text = placeP root u names := by
  rw [h.norm]
  unfold placeP
  by_cases e : root = N ""
  · subst e
    rw [empty_app, show (N "" == N "") = true from by decide]
    dsimp only
    cases q : (Txt.join (N "/") (dots (u : Int) ++ names)).length == 0 with
    | true => rw [show ((Txt.join (N "/") (dots (u : Int) ++ names)).length != 0) = false from by unfold bne; rw [q]; rfl]; rfl
    | false => rw [show ((Txt.join (N "/") (dots (u : Int) ++ names)).length != 0) = true from by unfold bne; rw [q]; rfl]; rfl
  · rw [hu e, show (root == N "") = false from by simpa using e]
    have : root.length ≠ 0 := by
      intro q; apply e; apply Ls_inj; rw [empty_]; apply List.length_eq_zero_iff.mp; rw [Ls_len]; exact q
    have e0 : dots ((0 : Nat) : Int) = [] := rfl
    rw [e0, List.nil_append, if_neg (by rw [Str.length_append, beq_iff_eq]; omega)]
structure PcOk (l : List Str) : Prop where
  free : ∀ p ∈ l, 47 ∉ Ls p
  head : ∀ p r, l = p :: r → p ≠ N ""
noncomputable def pp (l : List Str) : List Str := match l with
  | [] => [N ""]
  | a :: r => a :: r
theorem pp_ne (l : List Str) : pp l ≠ [] := by cases l <;> simp [pp]
theorem pp_Jn (l : List Str) : Jn (pp l) = Jn l := by
  cases l with
  | nil => rw [show pp [] = [N ""] from rfl, Jn_one, Jn_nil, empty_]
  | cons a r => rfl
theorem pp_fold (root : Str) (l st : List Str) : (pp l).foldl (normStep root) st = l.foldl (normStep root) st := by
  cases l with
  | nil => exact step_emp root st
  | cons a r => rfl
theorem PcOk.pfree {l : List Str} (h : PcOk l) : ∀ p ∈ pp l, 47 ∉ Ls p := by
  cases l with
  | nil => intro p hp; cases List.mem_singleton.mp hp; decide
  | cons a r => exact h.free
theorem PcOk.phead {l : List Str} (h : PcOk l) : HeadOk (pp l) := by
  cases l with
  | nil => intro x y r e; simp [pp] at e
  | cons a r => intro x y r' e; exact h.head x (y :: r') e
theorem PcOk.start {l : List Str} (h : PcOk l) : Txt.startswith (Txt.join (N "/") l) (N "/") = false := by
  rw [starts_slash]
  have := h.phead.take h.pfree
  rw [pp_Jn] at this
  simpa using this
theorem TOk.step {root text : Str} {st pieces : List Str} (h : TOk root st text) (hp : PcOk pieces) : TOk root (pieces.foldl (normStep root) st) (joinStep text (Txt.join (N "/") pieces)) := by
  obtain ⟨comps, h1, h2, h3, h4, h5⟩ := h
  rcases List.eq_nil_or_concat comps with e | ⟨c0, c, e⟩
  · exact absurd e h1
  rw [List.concat_eq_append] at e
  subst e
  have hb : Ls (Txt.join (N "/") pieces) = Jn (pp pieces) := (pp_Jn pieces).symm
  unfold joinStep
  rw [hp.start, Bool.false_or]
  by_cases hc : c = N ""
  · subst hc
    have ht : (Ls text = [] ∨ ∃ l, Ls text = l ++ [47]) := by
      by_cases hc0 : c0 = []
      · subst hc0
        rw [h3, List.nil_append, Jn_one, empty_, List.append_nil]
        cases h4 with
        | none _ => left; exact empty_
        | one _ => right; exact ⟨[], slash⟩
        | two _ => right; exact ⟨[47], slash2⟩
      · right
        rw [h3, Jn_app c0 _ hc0 (by simp), Jn_one, empty_]
        exact ⟨Ls root ++ Jn c0, by rw [List.append_assoc]⟩
    have hj : (if (text.length == 0) = true then Txt.join (N "/") pieces else if Txt.endswith text (N "/") = true then text ++ Txt.join (N "/") pieces else text ++ (N "/" ++ Txt.join (N "/") pieces)) = text ++ Txt.join (N "/") pieces := by
      rcases ht with e | ⟨l, e⟩
      · have : text = N "" := by apply Ls_inj; rw [e, empty_]
        rw [this, empty_app]; rfl
      · rw [len_ne e, ends_of e]; rfl
    rw [hj]
    refine ⟨c0 ++ pp pieces, by simp [pp_ne], ?_, ?_, ?_, ?_⟩
    · intro z hz
      rcases List.mem_append.mp hz with q | q
      · exact h2 z (List.mem_append_left _ q)
      · exact hp.pfree z q
    · rw [Ls_app, hb, h3]
      by_cases hc0 : c0 = []
      · subst hc0; rw [List.nil_append, List.nil_append, Jn_one, empty_, List.append_nil]
      · rw [Jn_app c0 _ hc0 (by simp), Jn_app c0 _ hc0 (pp_ne _), Jn_one, empty_, List.append_assoc, List.append_assoc]; rfl
    · have hh : HeadOk (c0 ++ [N ""]) → HeadOk (c0 ++ pp pieces) := by
        intro H
        cases c0 with
        | nil => exact hp.phead
        | cons a r =>
          intro x y t e
          have e1 : a = x := by rw [List.cons_append] at e; injection e
          cases r with
          | nil => exact e1 ▸ H a (N "") [] rfl
          | cons d r => exact e1 ▸ H a d (r ++ [N ""]) rfl
      generalize hl : c0 ++ [N ""] = l at h4 hh
      cases h4 with
      | none h => exact .none (hh h)
      | one h => exact .one (hh h)
      | two h => exact .two (hh h)
      | three h =>
        next r =>
        match c0, hl with
        | [], hl => simp at hl
        | [a], hl => simp at hl; exact absurd hl.2 h
        | a :: b :: t, hl =>
          simp at hl
          obtain ⟨e1, e2, _⟩ := hl
          rw [e1, e2]
          exact .three (by simp [pp_ne])
    · rw [List.foldl_append, pp_fold]
      rw [List.foldl_append, List.foldl_cons, step_emp, List.foldl_nil] at h5
      rw [h5]
  · have hcl : ∃ l a, Ls c = l ++ [a] ∧ a ≠ 47 := by
      rcases ne_empty_or c with q | ⟨l, a, q⟩
      · exact absurd q hc
      · refine ⟨l, a, q, ?_⟩
        have := h2 c (by simp)
        rw [q] at this
        intro e; subst e; simp at this
    obtain ⟨l, a, e1, e2⟩ := hcl
    have ht : ∃ l2, Ls text = l2 ++ [a] := by
      rw [h3]
      by_cases hc0 : c0 = []
      · subst hc0; rw [List.nil_append, Jn_one, e1]; exact ⟨Ls root ++ l, by rw [List.append_assoc]⟩
      · rw [Jn_app c0 _ hc0 (by simp), Jn_one, e1]; exact ⟨Ls root ++ (Jn c0 ++ 47 :: l), by simp⟩
    obtain ⟨l2, ht⟩ := ht
    rw [len_ne ht, ends_of ht, if_neg (by simp), if_neg (by simpa using e2)]
    refine ⟨(c0 ++ [c]) ++ pp pieces, by simp, ?_, ?_, ?_, ?_⟩
    · intro z hz
      rcases List.mem_append.mp hz with q | q
      · exact h2 z q
      · exact hp.pfree z q
    · rw [Ls_app, Ls_app, hb, h3, Jn_app _ _ h1 (pp_ne _), slash, List.append_assoc]; rfl
    · have hh : HeadOk (c0 ++ [c]) → HeadOk ((c0 ++ [c]) ++ pp pieces) := by
        intro H x y t e
        match c0, H, e with
        | [], _, e =>
          have : c = x := by simp at e; exact e.1
          exact this ▸ hc
        | [d], H, e =>
          have : d = x := by simp at e; exact e.1
          exact this ▸ H d c [] rfl
        | d :: f :: r, H, e =>
          have : d = x := by simp at e; exact e.1
          exact this ▸ H d f (r ++ [c]) rfl
      generalize hl : c0 ++ [c] = l at h4 hh
      cases h4 with
      | none h => exact .none (hh h)
      | one h => exact .one (hh h)
      | two h => exact .two (hh h)
      | three h => exact .three (by simp [h])
    · rw [List.foldl_append, pp_fold, h5]
theorem TOk.root {root front text : Str} {pieces : List Str} (hp : PcOk pieces) (hr : (root = N "/" ∧ (front = N "/" ∨ front = N "///")) ∨ (root = N "//" ∧ front = N "//")) :
    TOk root (pieces.foldl (normStep root) []) (joinStep text (front ++ Txt.join (N "/") pieces)) := by
  have hb : Ls (Txt.join (N "/") pieces) = Jn (pp pieces) := (pp_Jn pieces).symm
  have hs : Txt.startswith (front ++ Txt.join (N "/") pieces) (N "/") = true := by
    rw [starts_slash, Ls_app]
    rcases hr with ⟨_, rfl | rfl⟩ | ⟨_, rfl⟩
    · rw [slash]; rfl
    · rw [slash3]; rfl
    · rw [slash2]; rfl
  unfold joinStep
  rw [hs, Bool.true_or, if_pos rfl]
  rcases hr with ⟨rfl, rfl | rfl⟩ | ⟨rfl, rfl⟩
  · exact ⟨pp pieces, pp_ne _, hp.pfree, by rw [Ls_app, hb], .one hp.phead, pp_fold _ _ _⟩
  · refine ⟨N "" :: N "" :: pp pieces, by simp, ?_, ?_, .three (pp_ne _), ?_⟩
    · intro z hz
      rcases List.mem_cons.mp hz with q | q
      · subst q; decide
      · rcases List.mem_cons.mp q with q | q
        · subst q; decide
        · exact hp.pfree z q
    · have : Jn (N "" :: N "" :: pp pieces) = 47 :: 47 :: Jn (pp pieces) := by
        rw [show N "" :: N "" :: pp pieces = [N "", N ""] ++ pp pieces from rfl, Jn_app _ _ (by simp) (pp_ne _), Jn_cons, Jn_one, empty_]; rfl
      rw [Ls_app, hb, this, slash3, slash]; rfl
    · rw [List.foldl_cons, step_emp, List.foldl_cons, step_emp, pp_fold]
  · exact ⟨pp pieces, pp_ne _, hp.pfree, by rw [Ls_app, hb], .two hp.phead, pp_fold _ _ _⟩
noncomputable def Nf (z : Str) : Prop := z ≠ N "" ∧ 47 ∉ Ls z
theorem Proper.nf {z : Str} (h : Proper z) : Nf z := ⟨fun e => h.len (by rw [e]; rfl), h.free⟩
theorem det_pc {d : Int} {pieces : List Str} (h : ∀ z ∈ pieces, Nf z) : PcOk (detStep d pieces) := by
  have hd : ∀ (l : List Str), (∀ z ∈ l, Nf z) → PcOk l := fun l h => ⟨fun z m => (h z m).2, fun p r e => (h p (by rw [e]; exact .head _)).1⟩
  have nbc : Nf (N "b c") := ⟨by decide, by decide⟩
  have ndd : Nf (N "..") := ⟨by decide, by decide⟩
  have ndt : Nf (N ".") := ⟨by decide, by decide⟩
  have na : Nf (N "a") := ⟨by decide, by decide⟩
  unfold detStep
  split
  · refine hd _ fun z m => ?_
    rcases List.mem_append.mp m with m | m
    · rcases List.mem_cons.mp m with e | m
      · exact e ▸ nbc
      · exact List.mem_singleton.mp m ▸ ndd
    · exact h z m
  · split
    · refine hd _ fun z m => ?_
      rcases List.mem_append.mp m with m | m
      · rcases List.mem_append.mp m with m | m
        · exact h z (List.mem_of_mem_take m)
        · exact List.mem_singleton.mp m ▸ ndt
      · exact h z (List.mem_of_mem_drop m)
    · split
      · refine ⟨fun z m => ?_, fun p r e => ?_⟩
        · rcases List.mem_append.mp m with m | m
          · exact (h z m).2
          · simp only [List.mem_cons, List.not_mem_nil, or_false] at m
            rcases m with e | e | e | e <;> subst e
            · exact na.2
            · decide
            · exact ndd.2
            · decide
        · cases pieces with
          | nil => simp at e; rw [← e.1]; exact na.1
          | cons a t => simp at e; rw [← e.1]; exact (h a (.head _)).1
      · exact hd _ h
theorem dots_nf (n : Int) : ∀ z ∈ dots n, Nf z := by
  intro z m
  rw [dots_eq] at m
  rw [(List.mem_replicate.mp m).2]
  exact ⟨by decide, by decide⟩
structure TInv (s : TS) (text : Str) : Prop where
  names : ∀ z ∈ s.names, Proper z
  tok : ∃ u : Nat, s.ups = u ∧ (s.root = N "" ∨ (s.root.length ≠ 0 ∧ u = 0)) ∧ TOk s.root (dots (u : Int) ++ s.names) text
theorem TInv.place {s : TS} {text : Str} (h : TInv s text) : normpathP text = placeP s.root s.ups s.names := by
  obtain ⟨u, e, hr, t⟩ := h.tok
  rw [e]
  exact t.place fun q => hr.elim (fun e => absurd e q) fun e => e.2
noncomputable def wordOf (s : TS) (x : Int) (j : Nat) : Str :=
  let p := wayStep s.root s.ups s.names (s.names.take (keepP x j)) (moreP (nameP x)) (wayP x j) j
  p.2.2.1 ++ Txt.join (N "/") (detStep (detP x j) p.2.2.2)
theorem step_words (s : TS) (x : Int) (j : Nat) : (tourStep s x j).words = s.words ++ [wordOf s x j] := rfl
theorem step_places (s : TS) (x : Int) (j : Nat) : (tourStep s x j).places = s.places ++ [placeP (tourStep s x j).root (tourStep s x j).ups (tourStep s x j).names] := rfl
theorem TInv.step {s : TS} {text : Str} (h : TInv s text) (x : Int) (j : Nat) : TInv (tourStep s x j) (joinStep text (wordOf s x j)) := by
  obtain ⟨u, e, hr, t⟩ := h.tok
  have hm : ∀ z ∈ moreP (nameP x), Proper z := by
    rcases moreP_cases x with q | ⟨q, p⟩
    · rw [q]; intro z m; cases m
    · rw [q]; intro z m; exact List.mem_singleton.mp m ▸ p
  have hk : ∀ z ∈ s.names.take (keepP x j), Proper z := fun z m => h.names z (List.mem_of_mem_take m)
  have hkm : ∀ z ∈ s.names.take (keepP x j) ++ moreP (nameP x), Proper z := fun z m => (List.mem_append.mp m).elim (hk z) (hm z)
  have hn : (tourStep s x j).names = s.names.take (keepP x j) ++ moreP (nameP x) := rfl
  refine ⟨hn ▸ hkm, ?_⟩
  rw [hn]
  have hw := wayP_le x j
  unfold wordOf tourStep wayStep
  generalize wayP x j = way at hw
  generalize hmo : moreP (nameP x) = more at hm hkm
  generalize hke : s.names.take (keepP x j) = kept at hk hkm
  cases hway : decide (way < 2) with
  | true =>
    have hlt : way < 2 := by simpa using hway
    obtain ⟨o, rfl⟩ := Int.eq_ofNat_of_zero_le hw.1
    dsimp only
    rw [empty_app]
    have main : ∀ (ov : Nat) (up : Int), (ov = 0 ∨ kept = []) → up = ((if s.root = N "" then u + ov else u : Nat) : Int) → ∃ u : Nat, up = u ∧ (s.root = N "" ∨ (s.root.length ≠ 0 ∧ u = 0)) ∧ TOk s.root (dots (u : Int) ++ (kept ++ more)) (joinStep text (Txt.join (N "/") (detStep (detP x j) (dots ((s.names.length : Int) - (kept.length : Int) + (ov : Int)) ++ more)))) := by
      intro ov up hov2 hup
      have hpc : PcOk (detStep (detP x j) (dots ((s.names.length : Int) - (kept.length : Int) + (ov : Int)) ++ more)) := det_pc fun z m => (List.mem_append.mp m).elim (dots_nf _ z) fun m => (hm z m).nf
      have := t.step hpc
      rw [fold_det, fold_way (keep := keepP x j) h.names hm hke.symm hov2 hr] at this
      refine ⟨if s.root = N "" then u + ov else u, hup, ?_, this⟩
      rcases hr with q | ⟨q, q2⟩
      · exact .inl q
      · refine .inr ⟨q, ?_⟩
        rw [if_neg (by intro e; exact q (by rw [e]; rfl)), q2]
    have hroot : ∀ ov : Nat, (s.root == N "") = true → s.ups + (ov : Int) = ((if s.root = N "" then u + ov else u : Nat) : Int) := fun ov q => by
      rw [if_pos (by simpa using q), e]; rfl
    have hroot' : ∀ ov : Nat, (s.root == N "") = false → s.ups = ((if s.root = N "" then u + ov else u : Nat) : Int) := fun ov q => by
      rw [if_neg (by simpa using q), e]
    cases q : kept == [] with
    | true =>
      have hk0 : kept = [] := by simpa using q
      cases q2 : s.root == N "" with
      | true => exact main o _ (.inr hk0) (hroot o q2)
      | false => exact main o _ (.inr hk0) (hroot' o q2)
    | false =>
      cases q2 : s.root == N "" with
      | true => exact main 0 _ (.inl rfl) (hroot 0 q2)
      | false => exact main 0 _ (.inl rfl) (hroot' 0 q2)
  | false =>
    dsimp only
    have hpc : PcOk (detStep (detP x j) (kept ++ more)) := det_pc fun z m => (hkm z m).nf
    have key : ∀ root front, ((root = N "/" ∧ (front = N "/" ∨ front = N "///")) ∨ (root = N "//" ∧ front = N "//")) → ∃ u : Nat, (0 : Int) = u ∧ (root = N "" ∨ (root.length ≠ 0 ∧ u = 0)) ∧ TOk root (dots (u : Int) ++ (kept ++ more)) (joinStep text (front ++ Txt.join (N "/") (detStep (detP x j) (kept ++ more)))) := by
      intro root front hf
      refine ⟨0, rfl, .inr ⟨?_, rfl⟩, ?_⟩
      · rcases hf with ⟨rfl, _⟩ | ⟨rfl, _⟩ <;> decide
      · have := TOk.root (text := text) hpc hf
        rw [fold_det, fold_push _ _ _ hkm] at this
        exact this
    cases way == 2 with
    | true =>
      dsimp only
      cases Int.fmod (j : Int) 2 == 1 with
      | true => exact key _ _ (.inl ⟨rfl, .inr rfl⟩)
      | false => exact key _ _ (.inl ⟨rfl, .inl rfl⟩)
    | false => exact key _ _ (.inr ⟨rfl, rfl⟩)
structure TAll (s : TS) (j : Nat) : Prop where
  len : s.words.length = j + 1
  head : ∃ r, s.words = N "" :: r ∧ TInv s (joinP (N "") r)
  places : s.places = (List.range (j + 1)).map fun i => normpathP (joinP ((s.words.take (i + 1)).headD (N "")) (s.words.take (i + 1)).tail)
theorem tour_all (sc : List Int) : ∀ j, TAll (tourAcc sc j) j
  | 0 => by
    refine ⟨rfl, ⟨[], rfl, ⟨fun z m => (by cases m), 0, rfl, .inl rfl, ?_⟩⟩, ?_⟩
    · exact ⟨[N ""], by simp, by intro z m; cases List.mem_singleton.mp m; decide, rfl, .none (fun x y r e => by simp at e), rfl⟩
    · show [N "."] = (List.range 1).map fun i => normpathP (joinP (([N ""].take (i + 1)).headD (N "")) ([N ""].take (i + 1)).tail)
      decide +kernel
  | j + 1 => by
    have ih := tour_all sc j
    obtain ⟨r, e1, e2⟩ := ih.head
    have st := e2.step (sc.getD j 0) j
    have hw : (tourAcc sc (j + 1)).words = N "" :: (r ++ [wordOf (tourAcc sc j) (sc.getD j 0) j]) := by
      show (tourStep _ _ _).words = _
      rw [step_words, e1]; rfl
    have hj : joinP (N "") (r ++ [wordOf (tourAcc sc j) (sc.getD j 0) j]) = joinStep (joinP (N "") r) (wordOf (tourAcc sc j) (sc.getD j 0) j) := by
      unfold joinP; rw [List.foldl_append]; rfl
    have hl : r.length = j := by have := ih.len; rw [e1] at this; simpa using this
    refine ⟨by rw [hw]; simp [hl], ⟨_, hw, by rw [hj]; exact st⟩, ?_⟩
    rw [List.range_succ, List.map_append]
    show (tourStep _ _ _).places = _
    rw [step_places, ih.places]
    congr 1
    · refine List.map_congr_left fun i hi => ?_
      have hi := List.mem_range.mp hi
      have : (tourAcc sc (j + 1)).words.take (i + 1) = (tourAcc sc j).words.take (i + 1) := by
        show (tourStep _ _ _).words.take (i + 1) = _
        rw [step_words, List.take_append_of_le_length (by rw [ih.len]; omega)]
      rw [this]
    · rw [List.map_singleton]
      have : (tourAcc sc (j + 1)).words.take (j + 1 + 1) = (tourAcc sc (j + 1)).words := List.take_of_length_le (by rw [hw]; simp [hl])
      rw [this, hw]
      show [placeP _ _ _] = [normpathP (joinP (N "") (r ++ [_]))]
      rw [hj, st.place]
noncomputable def wabc : List Nat := [97, 98, 99, 105, 116, 115, 32, 39, 92, 34, 46, 47]
theorem wabc_B : ∀ x ∈ wabc, isB x = (x == 92) := by decide +kernel
theorem wabc_Q : ∀ x ∈ wabc, isQ x = (x == 39 || x == 34) := by decide +kernel
theorem wabc_safe : ∀ x ∈ wabc, unsafeC x = false → isWs x = false ∧ isQ x = false ∧ isB x = false := by decide +kernel
theorem chr_sq (x : Nat) : (chr x == N "'") = (x == 39) := by
  rw [Ls_beq, show Ls (N "'") = [39] from by decide, show Ls (chr x) = [x] from rfl, Bool.eq_iff_iff, beq_iff_eq, beq_iff_eq]; simp
theorem chr_dq (x : Nat) : (chr x == N "\"") = (x == 34) := by
  rw [Ls_beq, show Ls (N "\"") = [34] from by decide, show Ls (chr x) = [x] from rfl, Bool.eq_iff_iff, beq_iff_eq, beq_iff_eq]; simp
theorem chr_bs (x : Nat) : (chr x == N "\\") = (x == 92) := by
  rw [Ls_beq, show Ls (N "\\") = [92] from by decide, show Ls (chr x) = [x] from rfl, Bool.eq_iff_iff, beq_iff_eq, beq_iff_eq]; simp
theorem readP_cons (m : Md) (q : Bool) (t : Str) (x : Nat) (r : List Nat) : readP m q t (x :: r) = match lexStep m q t x with
    | .go m' q' t' => readP m' q' t' r
    | .out q' t' => some (tokOf q' t', false, r) := by cases m <;> rfl
noncomputable def Run (m : Md) (q : Bool) (t : Str) (l : List Nat) (m' : Md) (q' : Bool) (t' : Str) : Prop := ∀ r, readP m q t (l ++ r) = readP m' q' t' r
theorem Run.nil {m : Md} {q : Bool} {t : Str} : Run m q t [] m q t := fun _ => rfl
theorem Run.app {m m' m2 : Md} {q q' q2 : Bool} {t t' t2 : Str} {l l' : List Nat} (h : Run m q t l m' q' t') (g : Run m' q' t' l' m2 q2 t2) : Run m q t (l ++ l') m2 q2 t2 := fun r => by rw [List.append_assoc, h, g]
theorem Run.one {m m' : Md} {q q' : Bool} {t t' : Str} {x : Nat} (h : lexStep m q t x = .go m' q' t') : Run m q t [x] m' q' t' := fun r => by
  show readP m q t (x :: r) = _
  rw [readP_cons, h]
theorem Run.cons {m m' m2 : Md} {q q' q2 : Bool} {t t' t2 : Str} {x : Nat} {l : List Nat} (h : lexStep m q t x = .go m' q' t') (g : Run m' q' t' l m2 q2 t2) : Run m q t (x :: l) m2 q2 t2 := (Run.one h).app g
theorem app_chr (t : Str) (a : Nat) (l : List Nat) : t ++ chr a ++ mk l = t ++ mk (a :: l) := by apply Ls_inj; simp only [Ls_app]; rw [List.append_assoc]; rfl
theorem app_mk (t : Str) (a l : List Nat) : t ++ mk a ++ mk l = t ++ mk (a ++ l) := by apply Ls_inj; simp only [Ls_app, Ls_mk, List.append_assoc]
theorem app_nil (t : Str) : t ++ mk [] = t := by apply Ls_inj; rw [Ls_app]; exact List.append_nil _
theorem run_safe : ∀ (l : List Nat) (q : Bool) (t : Str), (∀ x ∈ l, isWs x = false ∧ isQ x = false ∧ isB x = false) → Run .wd q t l .wd q (t ++ mk l)
  | [], q, t, _ => by rw [app_nil]; exact .nil
  | a :: l, q, t, h => by
    obtain ⟨h1, h2, h3⟩ := h a (.head _)
    rw [← app_chr]
    refine Run.cons (q' := q) (t' := t ++ chr a) ?_ (run_safe l q (t ++ chr a) fun x m => h x (.tail _ m))
    unfold lexStep
    simp only [h1, h2, h3, Bool.false_eq_true, if_false]
theorem sq_plain {q : Bool} {t : Str} {a : Nat} (h : a ≠ 39) : lexStep .sq q t a = .go .sq true (t ++ chr a) := by
  unfold lexStep
  rw [show (chr a == N "'") = false from by rw [chr_sq]; simpa using h]; rfl
theorem sq_end {q : Bool} {t : Str} : lexStep .sq q t 39 = .go .wd true t := rfl
noncomputable def Stands (z : List Nat) : Prop := ∀ (q : Bool) (t : Str), Run .sq q t z .sq true (t ++ chr 39)
theorem sq_open (q : Bool) (t : Str) : lexStep .wd q t 39 = .go .sq q t := by
  have e1 : isWs 39 = false := by decide +kernel
  have e2 : isQ 39 = true := by decide +kernel
  have e3 : qMd 39 = .sq := rfl
  unfold lexStep
  rw [e1, e2, e3]; rfl
theorem dq_open (q : Bool) (t : Str) : lexStep .wd q t 34 = .go .dq q t := by
  have e1 : isWs 34 = false := by decide +kernel
  have e2 : isQ 34 = true := by decide +kernel
  have e3 : qMd 34 = .dq := rfl
  unfold lexStep
  rw [e1, e2, e3]; rfl
theorem dq_end {q : Bool} {t : Str} : lexStep .dq q t 34 = .go .wd true t := rfl
theorem dq_plain {q : Bool} {t : Str} {a : Nat} (h : a ≠ 34) (h2 : isB a = false) : lexStep .dq q t a = .go .dq true (t ++ chr a) := by
  unfold lexStep
  rw [show (chr a == N "\"") = false from by rw [chr_dq]; simpa using h, h2]; rfl
theorem wd_bs (q : Bool) (t : Str) : lexStep .wd q t 92 = .go .ea q t := by
  have e1 : isWs 92 = false := by decide +kernel
  have e2 : isQ 92 = false := by decide +kernel
  have e3 : isB 92 = true := by decide +kernel
  unfold lexStep
  rw [e1, e2, e3]; rfl
theorem ea_all (q : Bool) (t : Str) (a : Nat) : lexStep .ea q t a = .go .wd q (t ++ chr a) := rfl
theorem stands0 : Stands [39, 34, 39, 34, 39] := fun q t => .cons sq_end (.cons (dq_open true t) (.cons (dq_plain (by decide) (by decide +kernel)) (.cons dq_end (.cons (sq_open true _) .nil))))
theorem stands1 : Stands [39, 92, 39, 39] := fun q t => .cons sq_end (.cons (wd_bs true t) (.cons (ea_all true t 39) (.cons (sq_open true _) .nil)))
theorem run_rep {z : List Nat} (hz : Stands z) : ∀ (l : List Nat) (q : Bool) (t : Str), ∃ q', Run .sq q t (rep 39 z l) .sq q' (t ++ mk l)
  | [], q, t => ⟨q, by rw [app_nil]; exact .nil⟩
  | a :: l, q, t => by
    have e : rep 39 z (a :: l) = (if a = 39 then z else [a]) ++ rep 39 z l := by unfold rep; rw [List.flatMap_cons]
    obtain ⟨q', g⟩ := run_rep hz l true (t ++ chr a)
    refine ⟨q', ?_⟩
    rw [e, ← app_chr]
    by_cases h : a = 39
    · subst h
      rw [if_pos rfl]
      exact (hz q t).app g
    · rw [if_neg h]
      exact Run.cons (sq_plain h) g
theorem sq_first : lexStep .ws false (N "") 39 = .go .sq false (N "") := by
  have e1 : isWs 39 = false := by decide +kernel
  have e2 : isQ 39 = true := by decide +kernel
  have e4 : isB 39 = false := by decide +kernel
  have e3 : qMd 39 = .sq := rfl
  unfold lexStep
  rw [e1, e2, e3, e4]; rfl
theorem dq_first : lexStep .ws false (N "") 34 = .go .dq false (N "") := by
  have e1 : isWs 34 = false := by decide +kernel
  have e2 : isQ 34 = true := by decide +kernel
  have e4 : isB 34 = false := by decide +kernel
  have e3 : qMd 34 = .dq := rfl
  unfold lexStep
  rw [e1, e2, e3, e4]; rfl
theorem run_sq {z : List Nat} (hz : Stands z) (l : List Nat) (q : Bool) (t : Str) : Run .sq q t (rep 39 z l ++ [39]) .wd true (t ++ mk l) := by
  obtain ⟨q', g⟩ := run_rep hz l q t
  exact g.app (Run.one sq_end)
noncomputable def escB : List Nat → Bool
  | [] => true
  | d :: _ => d == 34 || d == 92
noncomputable def esc : List Nat → List Nat
  | [] => []
  | c :: r => (if c = 34 ∨ (c = 92 ∧ escB r = true) then [92, c] else [c]) ++ esc r
theorem dq_bs {q : Bool} {t : Str} : lexStep .dq q t 92 = .go .ed true t := by
  have e : isB 92 = true := by decide +kernel
  unfold lexStep
  rw [show (chr 92 == N "\"") = false from by rw [chr_dq]; rfl, e]; rfl
theorem ed_esc {q : Bool} {t : Str} {a : Nat} (h : a = 34 ∨ a = 92) : lexStep .ed q t a = .go .dq q (t ++ chr a) := by
  unfold lexStep
  unfold bne
  rw [chr_bs, chr_dq]
  rcases h with rfl | rfl <;> rfl
theorem ed_plain {q : Bool} {t : Str} {a : Nat} (h : a ≠ 34) (h2 : a ≠ 92) : lexStep .ed q t a = .go .dq q (t ++ N "\\" ++ chr a) := by
  unfold lexStep
  unfold bne
  rw [chr_bs, chr_dq, show (a == 34) = false from by simpa using h, show (a == 92) = false from by simpa using h2]; rfl
theorem bs_chr : N "\\" = chr 92 := by decide
theorem run_esc : ∀ (n : Nat) (l : List Nat) (q : Bool) (t : Str), l.length ≤ n → (∀ x ∈ l, x ∈ wabc) → ∃ q', Run .dq q t (esc l) .dq q' (t ++ mk l)
  | _, [], q, t, _, _ => ⟨q, by rw [app_nil]; exact .nil⟩
  | 0, a :: l, _, _, h, _ => by cases h
  | n + 1, a :: l, q, t, h, hw => by
    have hl : l.length ≤ n := by simpa using h
    have ha := hw a (.head _)
    have hw' : ∀ x ∈ l, x ∈ wabc := fun x m => hw x (.tail _ m)
    by_cases c : a = 34 ∨ (a = 92 ∧ escB l = true)
    · obtain ⟨q', g⟩ := run_esc n l true (t ++ chr a) hl hw'
      refine ⟨q', ?_⟩
      rw [← app_chr, show esc (a :: l) = 92 :: a :: esc l from by
        show (if a = 34 ∨ (a = 92 ∧ escB l = true) then [92, a] else [a]) ++ esc l = _
        rw [if_pos c]; rfl]
      exact .cons dq_bs (.cons (ed_esc (c.imp id And.left)) g)
    · have e : esc (a :: l) = a :: esc l := by
        show (if a = 34 ∨ (a = 92 ∧ escB l = true) then [92, a] else [a]) ++ esc l = _
        rw [if_neg c]; rfl
      rw [e]
      by_cases hb : a = 92
      · subst hb
        match l, hl, hw', c with
        | [], _, _, c => exact absurd (.inr ⟨rfl, rfl⟩) c
        | d :: l, hl, hw', c =>
          have hd : d ≠ 34 ∧ d ≠ 92 := by
            constructor
            · rintro rfl; exact c (.inr ⟨rfl, rfl⟩)
            · rintro rfl; exact c (.inr ⟨rfl, rfl⟩)
          have e2 : esc (d :: l) = d :: esc l := by
            show (if d = 34 ∨ (d = 92 ∧ escB l = true) then [92, d] else [d]) ++ esc l = _
            rw [if_neg (by rintro (h | ⟨h, _⟩); exact hd.1 h; exact hd.2 h)]; rfl
          obtain ⟨q', g⟩ := run_esc n l true (t ++ chr 92 ++ chr d) (by simp at hl; omega) fun x m => hw' x (.tail _ m)
          refine ⟨q', ?_⟩
          rw [e2, ← app_chr, ← app_chr]
          refine .cons dq_bs (.cons (t' := t ++ chr 92 ++ chr d) ?_ g)
          rw [ed_plain hd.1 hd.2, bs_chr]
      · obtain ⟨q', g⟩ := run_esc n l true (t ++ chr a) hl hw'
        refine ⟨q', ?_⟩
        rw [← app_chr]
        refine .cons (dq_plain (fun h => c (.inl h)) ?_) g
        rw [wabc_B a ha]; simpa using hb
theorem run_dq (l : List Nat) (q : Bool) (t : Str) (hw : ∀ x ∈ l, x ∈ wabc) : Run .dq q t (esc l ++ [34]) .wd true (t ++ mk l) := by
  obtain ⟨q', g⟩ := run_esc _ l q t (Nat.le_refl _) hw
  exact g.app (Run.one dq_end)
theorem sq_one : N "'" = one 39 := by decide
theorem Ls_sq : Ls (N "'") = [39] := by decide
theorem Ls_dq : Ls (N "\"") = [34] := by decide
theorem Ls_bs : Ls (N "\\") = [92] := by decide
theorem Ls_z0 : Ls (N "'\"'\"'") = [39, 34, 39, 34, 39] := by decide
theorem Ls_z1 : Ls (N "'\\''") = [39, 92, 39, 39] := by decide
theorem Ls_spell1 (x : Str) : Ls (spell1 x) = 39 :: (rep 39 [39, 92, 39, 39] (Ls x) ++ [39]) := by
  unfold spell1
  rw [Ls_app, Ls_app, Ls_sq]
  rw [sq_one, Ls_replace, Ls_z1, List.append_assoc]; rfl
theorem run_spell1_wd (x : Str) (q : Bool) (t : Str) : Run .wd q t (Ls (spell1 x)) .wd true (t ++ x) := by
  rw [Ls_spell1]
  have := run_sq stands1 (Ls x) q t
  rw [mk_Ls] at this
  exact .cons (sq_open q t) this
theorem run_spell1 (x : Str) : Run .ws false (N "") (Ls (spell1 x)) .wd true x := by
  rw [Ls_spell1]
  have := run_sq stands1 (Ls x) false (N "")
  rw [mk_Ls, empty_app] at this
  exact .cons sq_first this
theorem item_chr {x : Str} {j : Nat} {c : Nat} {r : List Nat} (h : (Ls x).drop j = c :: r) : Txt.item x (j : Int) = chr c ∧ Ls (Txt.slice x (some ((j : Int) + 1)) (some ((j : Int) + 2))) = r.take 1 := by
  constructor
  · have hj : j < (Ls x).length := by
      rcases Nat.lt_or_ge j (Ls x).length with q | q
      · exact q
      · rw [List.drop_eq_nil_of_le q] at h; cases h
    have hc : (Ls x)[j]? = some c := by
      have : ((Ls x).drop j)[0]? = some c := by rw [h]; rfl
      rwa [List.getElem?_drop, Nat.add_zero] at this
    have hs : j < x.length := by rw [← Ls_len]; exact hj
    have e : x.cps[j]? = some c := by rw [← Array.getElem?_toList]; exact hc
    have e2 : PySem.seqIndex? (j : Int) x.length = some j := by
      simp [PySem.seqIndex?]
      have : ¬ ((j : Int) < 0) := by omega
      simp only [this, if_false]
      omega
    unfold Txt.item Txt.charAt
    rw [e2]
    show (⟨#[(x.cps[j]?).getD 0]⟩ : Str) = _
    rw [e]; rfl
  · have := Ls_mid x (j + 1) (j + 2) (by omega)
    rw [show ((j : Int) + 1) = ((j + 1 : Nat) : Int) by omega, show ((j : Int) + 2) = ((j + 2 : Nat) : Int) by omega, this, show j + 2 - (j + 1) = 1 by omega, ← List.drop_drop, h]
    rfl
theorem spTest_esc {x : Str} {j : Nat} {c : Nat} {r : List Nat} (h : (Ls x).drop j = c :: r) : spTest x j = decide (c = 34 ∨ (c = 92 ∧ escB r = true)) := by
  obtain ⟨h1, h2⟩ := item_chr h
  unfold spTest
  rw [h1, chr_dq, chr_bs]
  have e : ([N "", N "\"", N "\\"].any fun y => y == Txt.slice x (some ((j : Int) + 1)) (some ((j : Int) + 2))) = escB r := by
    simp only [List.any_cons, List.any_nil, Bool.or_false]
    rw [Ls_beq, Ls_beq, Ls_beq, h2, empty_, Ls_dq, Ls_bs]
    cases r with
    | nil => rfl
    | cons d r =>
      show ([] == [d] || ([34] == [d] || [92] == [d])) = (d == 34 || d == 92)
      rw [Bool.eq_iff_iff]
      simp only [Bool.or_eq_true, beq_iff_eq, List.cons.injEq, and_true]
      constructor
      · rintro (h | h | h)
        · cases h
        · exact .inl h.symm
        · exact .inr h.symm
      · rintro (h | h)
        · exact .inr (.inl h.symm)
        · exact .inr (.inr h.symm)
  rw [e, Bool.eq_iff_iff]
  simp only [Bool.or_eq_true, Bool.and_eq_true, beq_iff_eq, decide_eq_true_eq]
theorem text_esc (x : Str) : ∀ j, j ≤ x.length → Ls (spellText x j) ++ esc ((Ls x).drop j) = esc (Ls x)
  | 0, _ => by rw [show spellText x 0 = N "" from rfl, empty_]; rfl
  | j + 1, h => by
    have ih := text_esc x j (by exact Nat.le_of_lt (by assumption))
    have hl : j < (Ls x).length := by rw [Ls_len]; assumption
    have e : (Ls x).drop j = (Ls x)[j] :: (Ls x).drop (j + 1) := List.drop_eq_getElem_cons hl
    obtain ⟨h1, _⟩ := item_chr e
    rw [← ih, show spellText x (j + 1) = spellStep x (spellText x j) j from rfl]
    unfold spellStep
    rw [spTest_esc e, h1, e]
    show _ = _ ++ ((if (Ls x)[j] = 34 ∨ ((Ls x)[j] = 92 ∧ escB ((Ls x).drop (j + 1)) = true) then [92, (Ls x)[j]] else [(Ls x)[j]]) ++ esc ((Ls x).drop (j + 1)))
    generalize (Ls x)[j] = c
    by_cases q : c = 34 ∨ (c = 92 ∧ escB ((Ls x).drop (j + 1)) = true)
    · rw [if_pos (by simpa using q), if_pos q, Ls_app, Ls_app, Ls_bs, ← List.append_assoc, List.append_assoc (Ls _)]; rfl
    · rw [if_neg (by simpa using q), if_neg q, Ls_app, ← List.append_assoc]; rfl
theorem Ls_spell2 (x : Str) : Ls (spell2 x) = 34 :: (esc (Ls x) ++ [34]) := by
  have := text_esc x x.length (Nat.le_refl _)
  rw [List.drop_of_length_le (by rw [Ls_len]; exact Nat.le_refl _), show esc [] = [] from rfl, List.append_nil] at this
  unfold spell2
  rw [Ls_app, Ls_app, Ls_dq, this, List.append_assoc]; rfl
theorem run_spell2 (x : Str) (hw : ∀ c ∈ Ls x, c ∈ wabc) : Run .ws false (N "") (Ls (spell2 x)) .wd true x := by
  rw [Ls_spell2]
  have := run_dq (Ls x) false (N "") hw
  rw [mk_Ls, empty_app] at this
  exact .cons dq_first this
theorem half_nat (x : Str) : half x = ((x.length / 2 : Nat) : Int) := by
  unfold half
  rw [Int.fdiv_eq_ediv_of_nonneg _ (by decide)]; rfl
theorem run_spell3 (x : Str) (hw : ∀ c ∈ Ls x, c ∈ wabc) : Run .ws false (N "") (Ls (spell3 x)) .wd true x := by
  unfold spell3
  rw [half_nat, Ls_app]
  have h1 := Ls_upto x (x.length / 2)
  have h2 := Ls_from x (x.length / 2)
  have e : Txt.slice x none (some ((x.length / 2 : Nat) : Int)) ++ Txt.slice x (some ((x.length / 2 : Nat) : Int)) none = x := by
    apply Ls_inj; rw [Ls_app, h1, h2, List.take_append_drop]
  have g := run_spell1_wd (Txt.slice x (some ((x.length / 2 : Nat) : Int)) none) true (Txt.slice x none (some ((x.length / 2 : Nat) : Int)))
  rw [e] at g
  exact (run_spell2 _ (by rw [h1]; exact fun c m => hw c (List.mem_of_mem_take m))).app g
theorem run_quote (x : Str) (hw : ∀ c ∈ Ls x, c ∈ wabc) : ∃ q, Run .ws false (N "") (Ls (quoteP x)) .wd q x ∧ (q = true ∨ x ≠ N "") := by
  unfold quoteP
  by_cases h0 : x = N ""
  · subst h0
    refine ⟨true, ?_, .inl rfl⟩
    rw [if_pos (by decide), show Ls (N "''") = [39, 39] from by decide]
    exact .cons sq_first (.one sq_end)
  · have hl : (x.length == 0) = false := by
      rcases ne_empty_or x with q | ⟨l, c, q⟩
      · exact absurd q h0
      · exact len_ne q
    rw [hl, if_neg (by decide)]
    cases hu : unsafeP x with
    | true =>
      rw [if_pos rfl]
      refine ⟨true, ?_, .inl rfl⟩
      rw [Ls_app, Ls_app, Ls_sq]
      rw [sq_one, Ls_replace, Ls_z0, List.append_assoc]
      have := run_sq stands0 (Ls x) false (N "")
      rw [mk_Ls, empty_app] at this
      exact .cons sq_first this
    | false =>
      rw [if_neg (by decide)]
      refine ⟨false, ?_, .inr h0⟩
      have hs : ∀ c ∈ Ls x, isWs c = false ∧ isQ c = false ∧ isB c = false := by
        intro c m
        refine wabc_safe c (hw c m) ?_
        unfold unsafeP at hu
        cases q : unsafeC c with
        | false => rfl
        | true => rw [List.any_eq_true.mpr ⟨c, m, q⟩] at hu; cases hu
      have key : ∀ l : List Nat, Ls x = l → Run .ws false (N "") l .wd false (mk l) := by
        intro l e
        cases l with
        | nil => exact absurd (Ls_inj (by rw [e, empty_])) h0
        | cons a r =>
          obtain ⟨h1, h2, h3⟩ := hs a (by rw [e]; exact .head _)
          have g := run_safe r false (chr a) fun c m => hs c (by rw [e]; exact .tail _ m)
          have e2 : chr a ++ mk r = mk (a :: r) := by apply Ls_inj; rw [Ls_app]; rfl
          rw [e2] at g
          refine .cons ?_ g
          unfold lexStep
          simp only [h1, h2, h3, Bool.false_eq_true, if_false]
      have := key _ rfl
      rwa [mk_Ls] at this
theorem run_spell (x : Str) (hw : ∀ c ∈ Ls x, c ∈ wabc) (s : Int) : ∃ q, Run .ws false (N "") (Ls (spellP x s)) .wd q x ∧ (q = true ∨ x ≠ N "") := by
  unfold spellP
  split
  · exact run_quote x hw
  · split
    · exact ⟨true, run_spell1 x, .inl rfl⟩
    · split
      · exact ⟨true, run_spell2 x hw, .inl rfl⟩
      · exact ⟨true, run_spell3 x hw, .inl rfl⟩
noncomputable abbrev Sg (t : Str) : Prop := ∀ c ∈ Ls t, c ∈ wabc
theorem Sg.app {x y : Str} (h : Sg x) (g : Sg y) : Sg (x ++ y) := fun c m => by
  rw [Ls_app] at m
  exact (List.mem_append.mp m).elim (h c) (g c)
theorem rep_sub {z : List Nat} (hz : ∀ c ∈ z, c ∈ wabc) {l : List Nat} (h : ∀ c ∈ l, c ∈ wabc) : ∀ c ∈ rep 39 z l, c ∈ wabc := by
  intro c m
  unfold rep at m
  obtain ⟨a, ha, hc⟩ := List.mem_flatMap.mp m
  split at hc
  · exact hz c hc
  · exact List.mem_singleton.mp hc ▸ h a ha
theorem esc_sub : ∀ {l : List Nat}, (∀ c ∈ l, c ∈ wabc) → ∀ c ∈ esc l, c ∈ wabc
  | [], _, c, m => by cases m
  | a :: l, h, c, m => by
    have e : esc (a :: l) = (if a = 34 ∨ (a = 92 ∧ escB l = true) then [92, a] else [a]) ++ esc l := rfl
    rw [e] at m
    rcases List.mem_append.mp m with m | m
    · split at m
      · rcases List.mem_cons.mp m with q | m
        · subst q; decide
        · exact List.mem_singleton.mp m ▸ h a (.head _)
      · exact List.mem_singleton.mp m ▸ h a (.head _)
    · exact esc_sub (fun z q => h z (.tail _ q)) c m
theorem sg_replace {x z : Str} (hx : Sg x) (hz : Sg z) : Sg (Txt.replace x (N "'") z) := by
  intro c m
  rw [sq_one, Ls_replace] at m
  exact rep_sub hz hx c m
theorem sg_spell1 {x : Str} (h : Sg x) : Sg (spell1 x) := by
  unfold spell1
  exact ((by decide : Sg (N "'")).app (sg_replace h (by decide))).app (by decide)
theorem sg_spell2 {x : Str} (h : Sg x) : Sg (spell2 x) := by
  intro c m
  rw [Ls_spell2] at m
  rcases List.mem_cons.mp m with q | m
  · subst q; decide
  · rcases List.mem_append.mp m with m | m
    · exact esc_sub h c m
    · have := List.mem_singleton.mp m; subst this; decide
theorem sg_spell3 {x : Str} (h : Sg x) : Sg (spell3 x) := by
  unfold spell3
  rw [half_nat]
  refine (sg_spell2 ?_).app (sg_spell1 ?_)
  · intro c m; rw [Ls_upto] at m; exact h c (List.mem_of_mem_take m)
  · intro c m; rw [Ls_from] at m; exact h c (List.mem_of_mem_drop m)
theorem sg_spell {x : Str} (h : Sg x) (s : Int) : Sg (spellP x s) := by
  unfold spellP
  split
  · unfold quoteP
    split
    · decide
    · split
      · exact ((by decide : Sg (N "'")).app (sg_replace h (by decide))).app (by decide)
      · exact h
  · split
    · exact sg_spell1 h
    · split
      · exact sg_spell2 h
      · exact sg_spell3 h
theorem white_ok (x : Int) (j : Nat) : ∃ c r, Ls (whiteP x j) = c :: r ∧ isWs c = true ∧ (∀ a ∈ r, isWs a = true) ∧ ∀ a ∈ c :: r, a ∈ abc := by
  unfold whiteP
  have h0 := Int.fmod_nonneg_of_pos (x.fdiv 1344 + (j : Int)) (b := 3) (by decide)
  have h1 := Int.fmod_lt_of_pos (x.fdiv 1344 + (j : Int)) (b := 3) (by decide)
  generalize Int.fmod _ 3 = i at h0 h1
  have hi : i = 0 ∨ i = 1 ∨ i = 2 := by omega
  rcases hi with rfl | rfl | rfl
  · exact ⟨32, [], by decide, by decide +kernel, by decide +kernel, by decide⟩
  · exact ⟨9, [10], by decide, by decide +kernel, by decide +kernel, by decide⟩
  · exact ⟨13, [], by decide, by decide +kernel, by decide +kernel, by decide⟩
noncomputable def Tail (R : List Nat) (ws : List Str) : Prop := ∀ (q : Bool) (t : Str), (q = true ∨ t ≠ N "") → ∃ b R', readP .wd q t R = some (some t, b, R') ∧ LexAll b R' ws
theorem tokOf_some {q : Bool} {t : Str} (h : q = true ∨ t ≠ N "") : tokOf q t = some t := by
  unfold tokOf
  cases q with
  | true => rfl
  | false =>
    rcases h with h | h
    · cases h
    · rw [if_neg (by decide), show (t == N "") = false from by simpa using h]; rfl
theorem Tail.nil : Tail [] [] := fun q t h => ⟨true, [], by show some (tokOf q t, true, []) = _; rw [tokOf_some h], .eof⟩
theorem Tail.all {R : List Nat} {ws : List Str} (h : Tail R ws) {sp : List Nat} {x : Str} {q : Bool} (g : Run .ws false (N "") sp .wd q x) (hq : q = true ∨ x ≠ N "") : LexAll false (sp ++ R) (x :: ws) := by
  obtain ⟨b, R', e, l⟩ := h q x hq
  exact .tok (by rw [g R, e]) l
theorem skip_ws : ∀ (l R : List Nat), (∀ a ∈ l, isWs a = true) → readP .ws false (N "") (l ++ R) = readP .ws false (N "") R
  | [], _, _ => rfl
  | a :: l, R, h => by
    show readP .ws false (N "") (a :: (l ++ R)) = _
    rw [readP_cons]
    have : lexStep .ws false (N "") a = .go .ws false (N "") := by
      unfold lexStep
      simp only [h a (.head _), if_true]
    rw [this]
    exact skip_ws l R fun z m => h z (.tail _ m)
theorem Tail.seg {R : List Nat} {ws : List Str} (h : Tail R ws) {sp wh : List Nat} {c : Nat} {x : Str} {q : Bool} (hc : isWs c = true) (hw : ∀ a ∈ wh, isWs a = true) (g : Run .ws false (N "") sp .wd q x) (hq : q = true ∨ x ≠ N "") : Tail ((c :: wh) ++ (sp ++ R)) (x :: ws) := by
  intro q2 t h2
  have hl : (t.length != 0 || q2) = true := by
    rcases h2 with e | e
    · rw [e, Bool.or_true]
    · rcases ne_empty_or t with r | ⟨l, a, r⟩
      · exact absurd r e
      · unfold bne; rw [len_ne r]; rfl
  refine ⟨false, wh ++ (sp ++ R), ?_, ?_⟩
  · show readP .wd q2 t (c :: (wh ++ (sp ++ R))) = _
    rw [readP_cons]
    have : lexStep .wd q2 t c = .out q2 t := by
      unfold lexStep
      simp only [hc, hl, if_true]
    rw [this]
    show some (tokOf q2 t, false, _) = _
    rw [tokOf_some h2]
  · have := h.all g hq
    cases this with
    | tok e l => exact .tok (by rw [skip_ws _ _ hw, e]) l
theorem line_all (ws : List Str) (sc : List Int) (hw : ∀ x ∈ ws, Sg x) : ∀ n, n < ws.length → ∀ R wsR, Tail R wsR → LexAll false (Ls (lineAcc ws sc n) ++ R) (ws.take (n + 1) ++ wsR)
  | 0, hn, R, wsR, h => by
    have e : ws.take (0 + 1) = [ws.getD 0 (N "")] := by
      cases ws with
      | nil => cases hn
      | cons a r => rfl
    rw [e]
    obtain ⟨q, g, hq⟩ := run_spell (ws.getD 0 (N "")) (hw _ (by rw [List.getD_eq_getElem?_getD, List.getElem?_eq_getElem hn]; exact List.getElem_mem hn)) 0
    exact h.all g hq
  | n + 1, hn, R, wsR, h => by
    have hm : ws.getD (n + 1) (N "") = ws[n + 1] := by rw [List.getD_eq_getElem?_getD, List.getElem?_eq_getElem hn]; rfl
    obtain ⟨q, g, hq⟩ := run_spell (ws.getD (n + 1) (N "")) (hw _ (by rw [hm]; exact List.getElem_mem hn)) (styleP (sc.getD n 0) n)
    obtain ⟨c, r, e1, e2, e3, _⟩ := white_ok (sc.getD n 0) n
    have t := h.seg e2 e3 g hq
    have ih := line_all ws sc hw n (by exact Nat.le_of_lt (by assumption)) _ _ t
    have e4 : Ls (lineAcc ws sc (n + 1)) = Ls (lineAcc ws sc n) ++ ((c :: r) ++ Ls (spellP (ws.getD (n + 1) (N "")) (styleP (sc.getD n 0) n))) := by
      show Ls (lineStep _ _ _ _) = _
      unfold lineStep
      rw [Ls_app, Ls_app, e1]
    have e5 : ws.take (n + 1 + 1) = ws.take (n + 1) ++ [ws.getD (n + 1) (N "")] := by
      rw [hm, List.take_append_getElem]
    rw [e4, e5, List.append_assoc, List.append_assoc]
    rw [List.append_assoc]
    exact ih
theorem wabc_abc : ∀ c ∈ wabc, c ∈ abc := by decide
theorem line_abc (ws : List Str) (sc : List Int) (hw : ∀ x ∈ ws, Sg x) : ∀ n, n < ws.length → ∀ c ∈ Ls (lineAcc ws sc n), c ∈ abc
  | 0, hn, c, m => by
    refine wabc_abc c (sg_spell (hw _ ?_) 0 c m)
    rw [List.getD_eq_getElem?_getD, List.getElem?_eq_getElem hn]; exact List.getElem_mem hn
  | n + 1, hn, c, m => by
    have hm : ws.getD (n + 1) (N "") = ws[n + 1] := by rw [List.getD_eq_getElem?_getD, List.getElem?_eq_getElem hn]; rfl
    have e4 : Ls (lineAcc ws sc (n + 1)) = Ls (lineAcc ws sc n) ++ (Ls (whiteP (sc.getD n 0) n) ++ Ls (spellP (ws.getD (n + 1) (N "")) (styleP (sc.getD n 0) n))) := by
      show Ls (lineStep _ _ _ _) = _
      unfold lineStep
      rw [Ls_app, Ls_app]
    rw [e4] at m
    rcases List.mem_append.mp m with m | m
    · exact line_abc ws sc hw n (by exact Nat.le_of_lt (by assumption)) c m
    · rcases List.mem_append.mp m with m | m
      · obtain ⟨c', r, e1, e2, e3, e5⟩ := white_ok (sc.getD n 0) n
        rw [e1] at m
        exact e5 c m
      · exact wabc_abc c (sg_spell (hw _ (by rw [hm]; exact List.getElem_mem hn)) _ c m)
theorem sg_join : ∀ (l : List Str), (∀ z ∈ l, Sg z) → Sg (Txt.join (N "/") l)
  | [], _ => by intro c m; rw [show Ls (Txt.join (N "/") []) = [] from Jn_nil] at m; cases m
  | [a], h => by intro c m; rw [show Ls (Txt.join (N "/") [a]) = Ls a from Jn_one a] at m; exact h a (.head _) c m
  | a :: b :: r, h => by
    intro c m
    rw [show Ls (Txt.join (N "/") (a :: b :: r)) = Ls a ++ 47 :: Jn (b :: r) from Jn_cons a b r] at m
    rcases List.mem_append.mp m with m | m
    · exact h a (.head _) c m
    · rcases List.mem_cons.mp m with q | m
      · subst q; decide
      · exact sg_join (b :: r) (fun z q => h z (.tail _ q)) c m
theorem sg_name (x : Int) : Sg (nameP x) := by
  unfold nameP
  generalize idx 7 _ = i
  match i with
  | 0 => decide
  | 1 => decide
  | 2 => decide
  | 3 => decide
  | 4 => decide
  | 5 => decide
  | 6 => decide
  | i + 7 => show Sg (N ""); decide
theorem sg_app {l r : List Str} (h : ∀ z ∈ l, Sg z) (g : ∀ z ∈ r, Sg z) : ∀ z ∈ l ++ r, Sg z := fun z m => (List.mem_append.mp m).elim (h z) (g z)
theorem sg_lit {l : List Str} (h : (l.all fun z => decide (Sg z)) = true) : ∀ z ∈ l, Sg z := fun z m => by
  have := List.all_eq_true.mp h z m; simpa using this
theorem sg_det {d : Int} {l : List Str} (h : ∀ z ∈ l, Sg z) : ∀ z ∈ detStep d l, Sg z := by
  unfold detStep
  split
  · exact sg_app (sg_lit (by decide)) h
  · split
    · exact sg_app (sg_app (fun z m => h z (List.mem_of_mem_take m)) (sg_lit (by decide))) fun z m => h z (List.mem_of_mem_drop m)
    · split
      · exact sg_app h (sg_lit (by decide))
      · exact h
theorem sg_dots (n : Int) : ∀ z ∈ dots n, Sg z := by
  intro z m
  rw [dots_eq] at m
  rw [(List.mem_replicate.mp m).2]
  decide
theorem sg_more (x : Int) : ∀ z ∈ moreP (nameP x), Sg z := by
  rcases moreP_cases x with q | ⟨q, p⟩
  · rw [q]; intro z m; cases m
  · rw [q]; intro z m; exact List.mem_singleton.mp m ▸ sg_name x
theorem sg_tour (sc : List Int) : ∀ j, (∀ z ∈ (tourAcc sc j).names, Sg z) ∧ ∀ z ∈ (tourAcc sc j).words, Sg z
  | 0 => ⟨(by intro z m; cases m), by intro z m; cases List.mem_singleton.mp m; decide⟩
  | j + 1 => by
    obtain ⟨ih1, ih2⟩ := sg_tour sc j
    have hk : ∀ z ∈ (tourAcc sc j).names.take (keepP (sc.getD j 0) j), Sg z := fun z m => ih1 z (List.mem_of_mem_take m)
    have hm := sg_more (sc.getD j 0)
    refine ⟨?_, ?_⟩
    · show ∀ z ∈ (tourStep _ _ _).names, Sg z
      exact sg_app hk hm
    · show ∀ z ∈ (tourStep _ _ _).words, Sg z
      rw [step_words]
      refine sg_app ih2 fun z m => ?_
      rw [List.mem_singleton.mp m]
      unfold wordOf wayStep
      generalize (tourAcc sc j).names.take (keepP (sc.getD j 0) j) = kept at hk
      generalize moreP (nameP (sc.getD j 0)) = more at hm
      cases decide (wayP (sc.getD j 0) j < 2) with
      | true => exact (by decide : Sg (N "")).app (sg_join _ (sg_det (sg_app (sg_dots _) hm)))
      | false =>
        refine Sg.app ?_ (sg_join _ (sg_det (sg_app hk hm)))
        dsimp only
        cases wayP (sc.getD j 0) j == 2 with
        | true =>
          cases Int.fmod (j : Int) 2 == 1 with
          | true => decide
          | false => decide
        | false => exact (by decide : Sg (N "//"))
theorem wch_Q : ∀ x ∈ abc, isQ x = true → inS wch (chr x) = false := by decide +kernel
theorem line_lex (sc : List Int) : LexOk wch (lineP (tourP sc).words sc) ∧ LexAll false (Ls (lineP (tourP sc).words sc)) (tourP sc).words := by
  have ok := tourAcc_ok sc (sc.take 6).length
  have sg := (sg_tour sc (sc.take 6).length).2
  have h6 : (sc.take 6).length ≤ 6 := by rw [List.length_take]; omega
  unfold tourP lineP
  have hl := ok.words
  refine ⟨⟨?_, ?_, fun x h m => wch_Q x m h⟩, ?_⟩
  · have hg : ∀ j, ((tourAcc sc (sc.take 6).length).words.getD j (N "")).length ≤ 300 := by
      intro j
      rw [List.getD_eq_getElem?_getD]
      cases q : (tourAcc sc (sc.take 6).length).words[j]? with
      | none => show (N "").length ≤ 300; decide
      | some t => have := ok.wlen t (List.mem_of_getElem? q); show t.length ≤ 300; exact sz (by assumption) rfl
    have := lineAcc_len (tourAcc sc (sc.take 6).length).words sc hg (sc.take 6).length
    omega
  · exact line_abc _ sc sg _ (by omega)
  · have := line_all _ sc sg (sc.take 6).length (by omega) [] [] .nil
    rw [List.append_nil, List.append_nil, show (tourAcc sc (sc.take 6).length).words.take ((sc.take 6).length + 1) = (tourAcc sc (sc.take 6).length).words from List.take_of_length_le (by omega)] at this
    exact this
noncomputable def ifTest : Stmt → Expr
  | .If t _ _ _ => t
  | _ => .Constant .none 0 ⟨0, 0, 0, 0⟩
noncomputable def cmpL : Expr → Expr
  | .Compare l _ _ _ => l
  | e => e
noncomputable def cmpR : Expr → Expr
  | .Compare _ _ (r :: _) _ => r
  | e => e
noncomputable def unStar : Expr → Expr
  | .Starred e _ => e
  | e => e
noncomputable def lwB : List Stmt := bodyOf (topSt 50)
noncomputable abbrev lwSc : Scope := scopeOf (topSt 50)
noncomputable def lw1 : Stmt := nth lwB 0
noncomputable def lw3 : Stmt := nth lwB 2
noncomputable def lwC4 : Expr := asgV (nth lwB 3)
noncomputable def lwS4 : Scope := cSc lwC4
noncomputable def lwE4 : Expr := cElt lwC4
noncomputable def lwA4 : Expr := unStar (arg0 lwE4)
noncomputable def lwC5 : Expr := cmpR (ifTest (nth lwB 4))
noncomputable def lwS5 : Scope := cSc lwC5
noncomputable def lwE5 : Expr := cElt lwC5
noncomputable def lwR5 : List Stmt := inner (nth lwB 4)
noncomputable def lwC6 : Expr := cmpL (asgV (nth lwB 5))
noncomputable def lwS6 : Scope := cSc lwC6
noncomputable def lwE6 : Expr := cElt lwC6
theorem lw_shape : ∃ p1 p2 p3 p4 p5 p6 p7 p8 p9 q1 q2 q3 q4 q5 q6 q7 q8 r1 r2 r3 r4 r5 r6 r7 r8 r9 u1 u2 u3 u4 u5 u6 u7, lwB = [lw1,
    .Assign [.Name (N "told") p1] (.Call (.Name (N "split") p2) [.Call (.Name (N "_law_line") p3) [.Name (N "words") p4, .Name (N "script") p5] [] p6] [] p7) p8, lw3,
    .Assign [.Name (N "joined") p9] (.ListComp lwE4 [⟨.Name (N "k") q1, .Call (.Name (N "range") q2) [.Call (.Name (N "len") q3) [.Name (N "told") q4] [] q5] [] q6, [], 0⟩] lwS4 q7) q8,
    .If (.Compare (.Name (N "joined") r1) [.NotEq] [.ListComp lwE5 [⟨.Name (N "k") r2, .Call (.Name (N "range") r3) [.Call (.Name (N "len") r4) [.Name (N "words") r5] [] r6] [] r7, [], 0⟩] lwS5 r8] r9) lwR5 [] u1,
    .Return (some (.Compare (.ListComp lwE6 [⟨.Name (N "text") u2, .Name (N "joined") u3, [], 0⟩] lwS6 u4) [.Eq] [.Name (N "places") u5] u6)) u7] ∧ Nat.beq p9.line q7.line = true := ⟨_, _, _, _, _, _, _, _, _, _, _, _, _, _, _, _, _, _, _, _, _, _, _, _, _, _, _, _, _, _, _, _, _, by with_unfolding_all rfl, by with_unfolding_all rfl⟩
noncomputable def giveF (pn : Nat) (vs0 : List V) (h0 : List (Nat × O)) (v : V) (h1 : List (Nat × O)) (nx1 : Nat) (vs : List V) (st : St) (k : K1) : Prop := vs = vs0 ∧ st.nx = pn ∧ st.h = h0 ∧ chk st.ok (k v { st with h := h1, nx := nx1 })
theorem giveF_ok {w : World} {os : OsState} {n n' pn nx1 : Nat} {f : Value} {vs0 vs : List V} {v : V} {h0 h1 : List (Nat × O)} (R : RetF w os n' f pn vs0 h0 v h1) (hle : pn ≤ nx1) {c : Fx} (e1 : c.w = w) (e2 : c.os = os) (ok : c.Ok n) (hn : n' ≤ n) {st : St} {k : K1} (h : giveF pn vs0 h0 v h1 nx1 vs st k) {ρ : Nat → Addr} {us : List Value} (ht : TeqL (vs.map (V.re ρ)) us) :
    WT c Teq (call f us []) (mre ρ st.m) (st.sto c.cl ρ) (Post c V.re st.nx ρ k) := by
  subst e1 e2
  obtain ⟨rfl, hnx, hh, h⟩ := h
  obtain ⟨hok, h⟩ := chk_ok h
  have key := R ρ
  rw [← hh] at key
  have key2 : Fn c.w c.os n' f (vs.map (V.re ρ)) [] (cre ρ c.cl st.c ++ hre ρ st.h) (fun u σ' => ∃ ρ', Agree st.nx ρ ρ' ∧ u = v.re ρ' ∧ σ' = cre ρ c.cl st.c ++ hre ρ' h1) := Fn.beside (key.mono fun u σ' ⟨ρ', a, b, d⟩ => ⟨ρ', hnx ▸ a, b, by rw [d]⟩)
  have hc := WT.call (kw := []) (ks := []) (m := mre ρ st.m) (Q := fun u m σ' => m = mre ρ st.m ∧ ∃ ρ', Agree st.nx ρ ρ' ∧ u = v.re ρ' ∧ σ' = cre ρ c.cl st.c ++ hre ρ' h1) ok hn ht .nil (key2.mono fun u σ' x => ⟨rfl, x⟩)
  refine WT.mono hc ?_
  rintro u m σ' ⟨rfl, ρ', ag, rfl, rfl⟩
  obtain ⟨q1, q2⟩ := St.ok_eq (st := { st with h := [] }) ag (hOk_of hok) c.cl
  have q2 : cre ρ' c.cl st.c ++ [] = cre ρ c.cl st.c ++ [] := q2
  rw [List.append_nil, List.append_nil] at q2
  exact ⟨v, { st with h := h1, nx := nx1 }, ρ', rfl, q1.symm, by rw [← q2]; rfl, ag, hnx ▸ hle, h⟩
theorem f_law (w : World) : FOkC w 891 (topSt 50) := ⟨by kernel_rfl, by kernel_rfl, by kernel_rfl, by kernel_rfl, by kernel_rfl, by kernel_rfl, by kernel_rfl, by kernel_rfl, by kernel_rfl, by kernel_rfl⟩
noncomputable def tourH (ob : Obj) (sc : List Int) : List (Nat × O) := [(0, .read ob sc), (1, .tup [.loc 2, .loc 3]), (2, .strs (tourP sc).words), (3, .strs (tourP sc).places)]
noncomputable def cTour (ob : Obj) (sc : List Int) : CT := cAdd 867 (giveF 1 [.loc 0] [(0, .read ob sc)] (.loc 1) (tourH ob sc) 4) c2
theorem cTour_ok (w : World) (os : OsState) (ob : Obj) (sc : List Int) (hob : IntsOf ob sc) (h : sc.length ≤ 63) : CTok w os 8 (cTour ob sc) := by
  refine cAdd_ok ((c2_ok w os).le (by decide)) ?_
  intro vs st k h' c e1 e2 ok ρ us ht
  exact giveF_ok (tour_r w os ob sc hob h) (by decide) e1 e2 ok (Nat.le_refl _) h' ht
noncomputable def cNorm : CT := cAdd 152 (fun vs st k => match vs with | [.str _ x] => x.length ≤ 1000 ∧ giveH (.str false (normpathP x)) [] 0 st k | _ => False) c2
theorem cNorm_ok (w : World) (os : OsState) : CTok w os 5 cNorm := by
  refine cAdd_ok ((c2_ok w os).le (by decide)) ?_
  intro vs st k h c e1 e2 ok ρ us ht
  split at h
  · exact give_ok (normpath_r w os _ h.1) e1 e2 ok (Nat.le_refl _) h.2 ht
  · exact h.elim
noncomputable def textC (vs : List V) (st : St) (k : K1) : Prop :=
  match vs with
  | [.loc i] => (match st.get i with
    | some (.strs xs) => (xs ≠ [] ∧ xs.length ≤ 1000 ∧ ∀ x ∈ xs, x.length ≤ 1000) ∧ k (.str false (joinP (xs.headD (N "")) xs.tail)) st
    | _ => False)
  | _ => False
noncomputable def cText : CT := cAdd 886 textC c2
noncomputable abbrev Plw (ob : Obj) (sc : List Int) (pn : Nat) : Pm := ⟨cTour ob sc, lwSc, [N "told", N "words"], pn⟩
noncomputable abbrev Pl4 : Pm := ⟨c2, relab lwS4 lwSc, [N "told"], 1⟩
noncomputable abbrev Pl5 : Pm := ⟨cText, relab lwS5 lwSc, [N "words"], 1⟩
noncomputable abbrev Pl6 : Pm := ⟨cNorm, relab lwS6 lwSc, [], 0⟩
theorem lw_cells (L : Addr) : cellsFrom (L + 1) lwSc.names [] = [(N "told", L + 2), (N "words", L + 1)] := by kernel_rfl
theorem lw_e4 : ∃ p1 p2 p3, lwE4 = .Call (.Name (N "join_posixpath") p1) [.Starred lwA4 p2] [] p3 := ⟨_, _, _, by with_unfolding_all rfl⟩
theorem cText_ok (w : World) (os : OsState) : CTok w os 8 cText := by
  refine cAdd_ok ((c2_ok w os).le (by decide)) ?_
  intro vs st k h c e1 e2 ok ρ us ht
  unfold textC at h
  split at h
  · split at h
    · next i _ xs e =>
      obtain ⟨⟨h1, h2, h3⟩, h⟩ := h
      subst e1 e2
      obtain ⟨τ, tk⟩ := take_of_mem (St.get_mem (cl := c.cl) (ρ := ρ) e)
      have key := Fn.foot (σ := st.sto c.cl ρ) (.cons tk .nil) (lt_join c.w c.os (ρ i) xs h1 h2 h3)
      refine WT.mono (WT.call (kw := []) (ks := []) (m := mre ρ st.m) (Q := fun u m σ' => u = S (joinP (xs.headD (N "")) xs.tail) ∧ m = mre ρ st.m ∧ σ' = st.sto c.cl ρ) ok (Nat.le_refl _) ht .nil (key.mono fun u σ' x => ⟨x.1, rfl, x.2⟩)) ?_
      rintro u m σ' ⟨rfl, rfl, rfl⟩
      exact Post.here (b := V.str false _) h
    · exact h.elim
  · exact h.elim
theorem lw_vc1 (ob : Obj) (sc : List Int) (k : Fl → St → Prop) : (evN (Plw ob sc 1) J0).s lw1 ⟨[(N "script", some (.loc 0)), (N "places", none), (N "joined", none)], [(N "told", none), (N "words", none)], [(0, .read ob sc)], 1⟩ k =
  (([V.loc 0] = [V.loc 0]) ∧ ((1 = 1) ∧ (([(0, O.read ob sc)] = [(0, O.read ob sc)]) ∧
    k .next ⟨[((N "script"), (some (.loc 0))), ((N "places"), (some (.loc 3))), ((N "joined"), none)], [((N "told"), none), ((N "words"), (some (.loc 2)))], tourH ob sc, 4⟩))) := by kernel_rfl
theorem lw_vc3 (ob : Obj) (sc : List Int) (ws ts ps : List Str) (k : Fl → St → Prop) : (evN (Plw ob sc 4) J0).s lw3 ⟨[(N "script", none), (N "places", some (.loc 2)), (N "joined", none)], [(N "told", some (.loc 0)), (N "words", some (.loc 1))], [(0, .strs ts), (1, .strs ws), (2, .strs ps), (3, .read ob sc)], 4⟩ k =
  ((((!(ts == ws)) = true) →
    k (.ret (.bool true false)) ⟨[((N "script"), none), ((N "places"), (some (.loc 2))), ((N "joined"), none)], [((N "told"), (some (.loc 0))), ((N "words"), (some (.loc 1)))], [(0, (.strs ts)), (1, (.strs ws)), (2, (.strs ps)), (3, .read ob sc)], 4⟩) ∧
  (((!(ts == ws)) = false) →
    k .next ⟨[((N "script"), none), ((N "places"), (some (.loc 2))), ((N "joined"), none)], [((N "told"), (some (.loc 0))), ((N "words"), (some (.loc 1)))], [(0, (.strs ts)), (1, (.strs ws)), (2, (.strs ps)), (3, .read ob sc)], 4⟩)) := by kernel_rfl
theorem lw_vc4 (ws : List Str) (j : Int) (k : V → St → Prop) : (evN Pl4 J0).e lwA4 ⟨[(N "k", some (.int false j))], [(N "told", some (.loc 0))], [(0, .strs ws)], 1⟩ k =
  ((0 ≤ (j + 1)) ∧ (((List.length ws) ≤ sizeLine) ∧
   k (.loc 1) ⟨[((N "k"), (some (.int false j)))], [((N "told"), (some (.loc 0)))], [(1, (.strs (List.take (Int.toNat (j + 1)) ws))), (0, (.strs ws))], 2⟩)) := by kernel_rfl
theorem lw_vc5 (ws : List Str) (j : Int) (k : V → St → Prop) : (evN Pl5 J0).e lwE5 ⟨[(N "k", some (.int false j))], [(N "words", some (.loc 0))], [(0, .strs ws)], 1⟩ k =
  ((0 ≤ (j + 1)) ∧ (((List.length ws) ≤ sizeLine) ∧
   ((((List.take (Int.toNat (j + 1)) ws) ≠ []) ∧ (((List.length (List.take (Int.toNat (j + 1)) ws)) ≤ 1000) ∧ (∀ x ∈ List.take (Int.toNat (j + 1)) ws, x.length ≤ 1000))) ∧
    k (.str false (joinP ((List.take (Int.toNat (j + 1)) ws).headD (N "")) (List.take (Int.toNat (j + 1)) ws).tail)) ⟨[((N "k"), (some (.int false j)))], [((N "words"), (some (.loc 0)))], [(1, (.strs (List.take (Int.toNat (j + 1)) ws))), (0, (.strs ws))], 2⟩))) := by kernel_rfl
theorem lw_vc6 (x : Str) (k : V → St → Prop) : (evN Pl6 J0).e lwE6 ⟨[(N "text", some (.str false x))], [], [], 0⟩ k =
  ((x.length ≤ 1000) ∧ k (.str false (normpathP x)) ⟨[((N "text"), (some (.str false x)))], [], [], 0⟩) := by kernel_rfl
theorem lw_s4 : lwS4.kind = .function ∧ (lwS4.names.all fun y => y.2 != .cell) = true ∧ (lwS4.names.all fun y => y.2 != .local || lwS4.names.lookup y.1 == some .local) = true ∧ (relab lwS4 lwSc).names.lookup (N "k") = some .local ∧ (relab lwS4 lwSc).kind = .function ∧ (relab lwS4 lwSc).names.lookup (N "join_posixpath") = some .globalImplicit := ⟨by kernel_rfl, by kernel_rfl, by kernel_rfl, by kernel_rfl, by kernel_rfl, by kernel_rfl⟩
theorem lw_s5 : lwS5.kind = .function ∧ (lwS5.names.all fun y => y.2 != .cell) = true ∧ (lwS5.names.all fun y => y.2 != .local || lwS5.names.lookup y.1 == some .local) = true ∧ (relab lwS5 lwSc).names.lookup (N "k") = some .local ∧ (relab lwS5 lwSc).kind = .function := ⟨by kernel_rfl, by kernel_rfl, by kernel_rfl, by kernel_rfl, by kernel_rfl⟩
theorem lw_s6 : lwS6.kind = .function ∧ (lwS6.names.all fun y => y.2 != .cell) = true ∧ (lwS6.names.all fun y => y.2 != .local || lwS6.names.lookup y.1 == some .local) = true ∧ (relab lwS6 lwSc).names.lookup (N "text") = some .local ∧ (relab lwS6 lwSc).kind = .function := ⟨by kernel_rfl, by kernel_rfl, by kernel_rfl, by kernel_rfl, by kernel_rfl⟩
theorem lw_names : lwSc.kind = .function ∧ lwSc.names.lookup (N "told") = some .cell ∧ lwSc.names.lookup (N "words") = some .cell ∧ lwSc.names.lookup (N "script") = some .local ∧ lwSc.names.lookup (N "places") = some .local ∧ lwSc.names.lookup (N "joined") = some .local ∧ lwSc.names.lookup (N "range") = some .globalImplicit ∧ lwSc.names.lookup (N "len") = some .globalImplicit ∧ lwSc.names.lookup (N "split") = some .globalImplicit ∧ lwSc.names.lookup (N "_law_line") = some .globalImplicit := ⟨by kernel_rfl, by kernel_rfl, by kernel_rfl, by kernel_rfl, by kernel_rfl, by kernel_rfl, by kernel_rfl, by kernel_rfl, by kernel_rfl, by kernel_rfl⟩
theorem lw_clos4 (env : Env) (a b : Addr) (h : env.cells = [(N "told", a), (N "words", b)]) : closureFor lwS4 env = pure [(N "told", a)] := by
  obtain ⟨sc, lo, gl, ce, q, f, cd, fr, bb⟩ := env
  dsimp only at h
  subst h
  kernel_rfl
theorem lw_clos5 (env : Env) (a b : Addr) (h : env.cells = [(N "told", a), (N "words", b)]) : closureFor lwS5 env = pure [(N "words", b)] := by
  obtain ⟨sc, lo, gl, ce, q, f, cd, fr, bb⟩ := env
  dsimp only at h
  subst h
  kernel_rfl
theorem lw_clos6 (env : Env) : closureFor lwS6 env = pure [] := by
  obtain ⟨sc, lo, gl, ce, q, f, cd, fr, bb⟩ := env
  kernel_rfl
section
variable {w : World} {os : OsState} {ws : List Str} {τ : Sto}
theorem lw_turn5 {a : Addr} {ρ : Nat → Addr} (hz : ws.length ≤ 1000) (hw : ∀ x ∈ ws, x.length ≤ 1000) {j : Nat} (hj : j < ws.length) :
    Wturn w os [(N "words", a)] 8 (relab lwS5 lwSc) (N "k") [] lwE5 (I (j : Int)) (τ ++ St.sto [(N "words", a)] ρ ⟨[(N "k", some (.int false (j : Int)))], [(N "words", some (.loc 0))], [(0, .strs ws)], 1⟩) (some (S (joinP ((ws.take (j + 1)).headD (N "")) (ws.take (j + 1)).tail))) := by
  refine turn_ev0 (w := w) (os := os) (n := 8) (j := J0) (P := Pl5) (cl := [(N "words", a)]) (τ := τ) (ρ := ρ) (st := ⟨[(N "k", some (.int false (j : Int)))], [(N "words", some (.loc 0))], [(0, .strs ws)], 1⟩) (x := N "k") (v := .int false (j : Int)) (elt := lwE5) (y := .str false (joinP ((ws.take (j + 1)).headD (N "")) (ws.take (j + 1)).tail)) lw_s5.2.2.2.2 (cText_ok w os) (by decide) rfl rfl rfl ?_ (fun _ => rfl)
  rw [lw_vc5]
  have e : Int.toNat ((j : Int) + 1) = j + 1 := by omega
  rw [e]
  refine ⟨by exact Int.natCast_nonneg _, by exact sz (by assumption) rfl, ⟨?_, ?_, fun x hx => hw x (List.mem_of_mem_take hx)⟩, fun _ => rfl, _, [(1, .strs (ws.take (j + 1)))], _, rfl⟩
  · intro q
    have := congrArg List.length q
    rw [List.length_take] at this
    have : min (j + 1) ws.length = 0 := this
    omega
  · rw [List.length_take]; omega
theorem lw_turn6 {x : Str} (hx : x.length ≤ 1000) :
    Wturn w os [] 8 (relab lwS6 lwSc) (N "text") [] lwE6 (S x) (τ ++ []) (some (S (normpathP x))) := by
  refine turn_ev0 (w := w) (os := os) (n := 8) (j := J0) (P := Pl6) (cl := []) (τ := τ) (ρ := fun _ => 0) (st := ⟨[(N "text", some (.str false x))], [], [], 0⟩) (x := N "text") (v := .str false x) (elt := lwE6) (y := .str false (normpathP x)) lw_s6.2.2.2.2 ((cNorm_ok w os).le (by decide)) (by decide) rfl rfl rfl ?_ (fun _ => rfl)
  rw [lw_vc6]
  exact ⟨hx, fun _ => rfl, _, [], _, rfl⟩
theorem We.star1 {c : Fx} {n : Nat} {sc : Scope} {m : Loc} {σ : Sto} {x : Str} {np pos p : Pos} {e : Expr} {Q : Value → Loc → Sto → Prop} (ok : c.Ok n)
    (h : We c sc (.Name x np) m σ (fun f m1 σ1 => (∀ f', Teq f f' → f' = f) ∧ keepIn (KK c.w) f = true ∧ We c sc e m1 σ1 (fun v m2 σ2 => ∃ a vs, v = .ref a ∧ (a, .list vs) ∈ σ2 ∧ vs.length ≤ sizeLine ∧ Wcall c f vs m2 σ2 Q))) :
    We c sc (.Call (.Name x np) [.Starred e p] [] pos) m σ Q := by
  intro s hs
  refine wpAny_Call_ofName (wm hs.tk (h s hs) (fun f' s1 f m1 σ1 t1 z hs1 => ?_) fun _ _ e => e)
  obtain ⟨h1, h2, h3⟩ := z
  rw [h1 _ t1]
  refine callWith_S (hs1.bg ok.bg).kk h2 (wm hs1.tk (h3 s1 hs1) (fun v' s2 v m2 σ2 t2 z hs2 => ?_) fun _ _ e => e)
  obtain ⟨a, vs, hv, hm, hz, hc⟩ := z
  subst hv
  rw [t2.ref_inv]
  obtain ⟨arr, k, ho, hL, ht, hsz⟩ := hs2.list (.tail _ hm)
  have hT : s2.TypeIs (.ref a) "list" := ⟨_, ho, rfl⟩
  have z : wpAny (MM c.w) c.A (collect (.ref a)) (fun vs' s3 => (KK c.w).In s3.heap ∧ wpAny (MM c.w) c.A (call f vs') (fun v s' => ∃ b m' σ', Teq b v ∧ Q b m' σ' ∧ Sr0 c.w c.os c.g ((c.L, .ns m') :: σ') s') c.E s3) c.E s2 := by
    refine wpAny_collect_seq a (.inl rfl) ho rfl rfl (fun h' hk => ?_) (by rw [hsz]; exact hz)
    have hs3 : Sr c.w c.os c.g ((c.L, .ns m2) :: σ2) { s2 with heap := h' } := ⟨hs2.toSr0.keeps hk, hs2.tk⟩
    exact ⟨(hs3.bg ok.bg).kk, hc _ ht _ hs3⟩
  unfold StarOf notIterableAtAll
  exact wpAny_bind (wpAny_specialOf hT PySem.F.slot_list_iter.lookup (wpAny_pure ⟨rfl, z⟩))
end
theorem keep138 (w : World) : keepIn (KK w) (.ref 138) = true := by kernel_rfl
section
variable {w : World} {os : OsState} {ws : List Str} {τ : Sto}
theorem lw_turn4 {a : Addr} {l : Addr} (hz : ws.length ≤ 100) (hw : ∀ x ∈ ws, x.length ≤ 1000) {j : Nat} (hj : j < ws.length) :
    Wturn w os [(N "told", a)] 8 (relab lwS4 lwSc) (N "k") [] lwE4 (I (j : Int)) (τ ++ [(a, AO.cell (some (.ref l))), (l, AO.list (ws.map S))]) (some (S (joinP ((ws.take (j + 1)).headD (N "")) (ws.take (j + 1)).tail))) := by
  rintro c rfl rfl ecl ok
  refine ifs_nil ⟨rfl, Picks.refl _, rfl, fun c2 f1 f2 f3 ok2 => ?_⟩
  obtain ⟨p1, p2, p3, e⟩ := lw_e4
  rw [e]
  have hk := lw_s4.2.2.2.2.1
  refine We.star1 ok2 (We.gl ok2 hk lw_s4.2.2.2.2.2 .vjoinUposixpath ⟨ex_r, keep138 _, ?_⟩)
  have e1 : Int.toNat ((j : Int) + 1) = j + 1 := by omega
  have estart : St.sto c2.cl (fun _ => l) ⟨[(N "k", some (.int false (j : Int)))], [(N "told", some (.loc 0))], [(0, .strs ws)], 1⟩ = [(a, AO.cell (some (.ref l))), (l, AO.list (ws.map S))] := by rw [f3]; rfl
  rw [← estart]
  refine WT.mono (WT.beside (c := c2) (τ := τ) (R := Teq) (t := eval lwA4 (c2.env (relab lwS4 lwSc))) (Q := fun v m2 σ2 => ∃ b, v = .ref b ∧ m2.map (·.1) = [N "k"] ∧ σ2 = (b, AO.list ((ws.take (j + 1)).map S)) :: [(a, AO.cell (some (.ref l))), (l, AO.list (ws.map S))]) fun g' kg => ?_) ?_
  · have X : Cx c2.w c2.os 8 [N "told"] { c2 with g := g' } := ⟨rfl, rfl, by show c2.cl.map (·.1) = _; rw [f3]; rfl, ⟨ok2.bg.keeps kg, ok2.hh, ok2.room⟩⟩
    have hC : CTok c2.w c2.os 8 Pl4.C := (c2_ok c2.w c2.os).le (by decide)
    refine WT.gc (WT.mono ((evN_ok (P := Pl4) hC hk (by decide) J0).e { c2 with g := g' } X lwA4 ⟨[(N "k", some (.int false (j : Int)))], [(N "told", some (.loc 0))], [(0, .strs ws)], 1⟩ (fun v st => v = .loc 1 ∧ st = ⟨[((N "k"), (some (.int false j)))], [((N "told"), (some (.loc 0)))], [(1, (.strs (ws.take (j + 1)))), (0, (.strs ws))], 2⟩) (fun _ => l) ?_) (Q' := fun v m2 σ2 => ∃ b, v = .ref b ∧ m2.map (·.1) = [N "k"] ∧ σ2 = [(a, AO.cell (some (.ref l))), (b, AO.list ((ws.take (j + 1)).map S)), (l, AO.list (ws.map S))]) ?_) ?_
    · rw [lw_vc4, e1]
      exact ⟨by exact Int.natCast_nonneg _, by exact sz (by assumption) rfl, rfl, rfl⟩
    · rintro v m σ ⟨v', st, ρ', rfl, rfl, rfl, ag, _, rfl, rfl⟩
      refine ⟨ρ' 1, rfl, rfl, ?_⟩
      have e0 : ρ' 0 = l := ag 0 Nat.zero_lt_one
      show St.sto c2.cl ρ' _ = _
      rw [f3, ← e0]; rfl
    · rintro v m σ ⟨b, rfl, h2, rfl⟩
      refine ⟨_, Picks.of_perm (τ := []) ?_, b, rfl, h2, rfl⟩
      rw [List.append_nil]
      exact List.Perm.swap ..
  rintro v m2 σ2 ⟨σ3, rfl, b, rfl, hm2, rfl⟩
  refine ⟨b, (ws.take (j + 1)).map S, rfl, List.mem_append_right _ (.head _), ?_, ?_⟩
  · rw [List.length_map, List.length_take, sizeLine_eq]; omega
  have hne : ws.take (j + 1) ≠ [] := by
    intro q
    have := congrArg List.length q
    rw [List.length_take] at this
    have : min (j + 1) ws.length = 0 := this
    omega
  have hlen : (ws.take (j + 1)).length ≤ 100 := by rw [List.length_take]; omega
  have hall : ∀ x ∈ ws.take (j + 1), x.length ≤ 1000 := fun x hx => hw x (List.mem_of_mem_take hx)
  rw [estart]
  generalize ws.take (j + 1) = xs at hne hlen hall ⊢
  cases xs with
  | nil => exact (hne rfl).elim
  | cons x r =>
    intro vs hv
    have key : Fn c2.w c2.os 5 (.ref 138) (S x :: r.map S) [] ((τ ++ (b, AO.list ((x :: r).map S)) :: [(a, AO.cell (some (.ref l))), (l, AO.list (ws.map S))]) ++ []) (fun u σ' => u = S (joinP x r) ∧ m2.map (·.1) = [N "k"] ∧ σ' = (τ ++ (b, AO.list ((x :: r).map S)) :: [(a, AO.cell (some (.ref l))), (l, AO.list (ws.map S))])) :=
      Fn.beside ((join_r c2.w c2.os x r (hall x (.head _)) (fun z hz => hall z (.tail _ hz)) (by simp at hlen; exact sz (by assumption) rfl)).mono fun u σ' ⟨h1, h2⟩ => ⟨h1, hm2, by rw [h2, List.append_nil]⟩)
    rw [List.append_nil] at key
    refine WT.mono (WT.call (n := 8) (n' := 5) (kw := []) (ks := []) (m := m2) (Q := fun u m σ' => u = S (joinP x r) ∧ m.map (·.1) = [N "k"] ∧ σ' = (τ ++ (b, AO.list ((x :: r).map S)) :: [(a, AO.cell (some (.ref l))), (l, AO.list (ws.map S))])) ok2 (by decide) hv .nil key) ?_
    rintro u m σ' ⟨rfl, h2, rfl⟩
    refine ⟨rfl, h2, ?_⟩
    refine Picks.of_perm (τ := [(b, AO.list ((x :: r).map S))]) ?_
    rw [List.append_assoc]
    exact List.Perm.append_left _ List.perm_append_comm
end
theorem keep852 (w : World) : keepIn (KK w) (.ref 852) = true := by kernel_rfl
theorem keep881 (w : World) : keepIn (KK w) (.ref 881) = true := by kernel_rfl
noncomputable def lwM (l P : Addr) (j : Option Value) : Loc := [(N "script", some (.ref l)), (N "places", some (.ref P)), (N "joined", j)]
noncomputable def lwσ (L l W P : Addr) (ob : Obj) (sc : List Int) (t : Option Value) : Sto := [(L + 2, AO.cell t), (L + 1, AO.cell (some (.ref W))), (l, AO.obj ob), (W, AO.list ((tourP sc).words.map S)), (P, AO.list ((tourP sc).places.map S))]
theorem tour_words (sc : List Int) : (tourP sc).words.length = (sc.take 6).length + 1 ∧ (tourP sc).words.length ≤ 7 ∧ (∀ t ∈ (tourP sc).words, t.length ≤ 100) ∧ ∀ j, ((tourP sc).words.getD j (N "")).length ≤ 300 := by
  have ok := tourAcc_ok sc (sc.take 6).length
  have h6 : (sc.take 6).length ≤ 6 := by rw [List.length_take]; omega
  have h1 := ok.words
  have h2 := ok.wlen
  refine ⟨h1, by unfold tourP; omega, h2, fun j => ?_⟩
  rw [List.getD_eq_getElem?_getD]
  cases q : (tourP sc).words[j]? with
  | none => show (N "").length ≤ 300; decide
  | some t => have := h2 t (List.mem_of_getElem? q); show t.length ≤ 300; exact sz (by assumption) rfl
section
variable {c : Fx} {sc : List Int} {ob : Obj} {l W P : Addr} {A : Around}
theorem lw_two (ok : c.Ok 16) (ecl : c.cl = [(N "told", c.L + 2), (N "words", c.L + 1)]) (hA : c.A = A.deeper (c.env lwSc)) (hAf : A.frames = some []) (hfr : c.fr = some c.L) (hob : IntsOf ob sc) (hsc : sc.length ≤ 63) {p1 p2 p3 p4 p5 p6 p7 p8 : Pos} {Q : Flow → Loc → Sto → Prop}
    (h : ∀ lA, Q .next (lwM l P none) ((lA, AO.list ((tourP sc).words.map S)) :: lwσ c.L l W P ob sc (some (.ref lA)))) :
    W1 c lwSc (.Assign [.Name (N "told") p1] (.Call (.Name (N "split") p2) [.Call (.Name (N "_law_line") p3) [.Name (N "words") p4, .Name (N "script") p5] [] p6] [] p7) p8) (lwM l P none) (lwσ c.L l W P ob sc none) Q := by
  obtain ⟨hk, ntold, nwords, nscript, nplaces, njoined, nrange, nlen, nsplit, nline⟩ := lw_names
  obtain ⟨t1, t2, t3, t4⟩ := tour_words sc
  obtain ⟨L1, L2⟩ := line_lex sc
  have hc1 : c.cl.lookup (N "told") = some (c.L + 2) := by rw [ecl]; rfl
  have hc2 : c.cl.lookup (N "words") = some (c.L + 1) := by rw [ecl]; rfl
  refine W1.asg rfl (We.call1 ok (star_cons rfl) (fun env => star_none (es := []) env rfl) (We.gl ok hk nsplit .vsplit ⟨ex_r, keepOk_K (keep852 _), Was.cons (star_cons rfl) (We.call1 ok (star_cons rfl) (fun env => star_none (es := [.Name (N "script") p5]) env rfl) (We.gl ok hk nline .vUlawUline ⟨ex_r, keepOk_K (keep881 _), Was.cons (star_cons rfl) (We.cell hk nwords (by kernel_rfl) hc2 (.tail _ (.head _)) (Was.cons (star_cons rfl) (We.name hk nscript (by kernel_rfl) (.head _) (Was.nil ?_))))⟩))⟩))
  intro vs hv
  have key := Fn.foot (σ := lwσ c.L l W P ob sc none) (.cons (.there (.there (.there .here))) (.cons (.there (.there .here)) .nil)) ((line_r c.w c.os (tourP sc).words ob sc hob t1 hsc t4 (fun i => if i = 0 then W else l)).mono (Q' := fun v σ' => v = S (lineP (tourP sc).words sc) ∧ σ' = [(W, AO.list ((tourP sc).words.map S)), (l, AO.obj ob)]) fun u σ' ⟨ρ', ag, e1, e2⟩ => ⟨e1, by
    rw [e2]
    show [(ρ' 0, _), (ρ' 1, _)] = _
    rw [ag 0 (Nat.zero_lt_succ _), ag 1 (Nat.lt_succ_self _)]; rfl⟩)
  refine WT.mono (WT.call (n := 16) (n' := 8) (kw := []) (ks := []) (m := lwM l P none) (Q := fun u m σ' => u = S (lineP (tourP sc).words sc) ∧ m = lwM l P none ∧ σ' = lwσ c.L l W P ob sc none) ok (by decide) hv .nil (key.mono fun u σ' x => ⟨x.1, rfl, x.2⟩)) ?_
  rintro v m σ ⟨rfl, rfl, rfl⟩
  refine Was.nil ?_
  intro us hu s hs
  obtain ⟨u1, rfl, tu1⟩ := hu.inv1
  have hs2 : Sr c.w c.os c.g (lwσ c.L l W P ob sc none ++ [(c.L, .ns (lwM l P none))]) s := hs.perm List.perm_append_comm
  obtain ⟨g', k1, k2, k3, k4⟩ := hs2.hr.frame
  have F : Frs [c.env lwSc] [(c.L, lwM l P none)] := .cons (by show lwSc.kind ≠ .module; rw [hk]; decide) hfr .nil
  refine wpAny_call (codeAny_mono (split_call (l := [c.env lwSc]) (fs := [(c.L, lwM l P none)]) (ok.bg.keeps k1) ok.room ok.hh F (by rw [hA]; exact Around.frames_deeper hAf) ⟨⟨k2, hs.gens, hs.os⟩, hs.tk⟩ tu1 L1 L2 (by exact sz (by assumption) rfl)) fun r s' z => ?_)
  obtain ⟨lA, rfl, z⟩ := z
  refine ⟨.ref lA, lwM l P none, (lA, AO.list ((tourP sc).words.map S)) :: lwσ c.L l W P ob sc none, .same _, ?_, ?_⟩
  · intro u tu
    exact Wst.cell (σ' := (lA, AO.list ((tourP sc).words.map S)) :: lwσ c.L l W P ob sc (some (.ref lA))) hk ntold hc1 (.there .here) tu (h lA)
  · have z2 : Sr0 c.w c.os c.g (lwσ c.L l W P ob sc none ++ ((lA, AO.list ((tourP sc).words.map S)) :: [(c.L, .ns (lwM l P none))])) s' := ⟨k4 _ _ z.hr, z.gens, z.os⟩
    refine z2.perm ?_
    exact (List.Perm.swap ..).trans (List.perm_append_comm (l₁ := [(lA, AO.list ((tourP sc).words.map S)), (c.L, AO.ns (lwM l P none))]))
end
noncomputable def upTo (ws : List Str) (j : Nat) : Str := joinP ((ws.take (j + 1)).headD (N "")) (ws.take (j + 1)).tail
noncomputable def joinedP (ws : List Str) : List Str := (List.range ws.length).map (upTo ws)
theorem resUp_map (F : Nat → Str) (n : Nat) : resUp (fun j => some (S (F j))) n = ((List.range n).map F).map S := by
  unfold resUp
  rw [List.map_map]
  generalize List.range n = l
  induction l with
  | nil => rfl
  | cons a r ih => rw [List.filterMap_cons, List.map_cons, ih]; rfl
theorem Fx.Ok.le {c : Fx} {n n' : Nat} (h : c.Ok n) (k : n' ≤ n) : c.Ok n' := ⟨h.bg, h.hh, h.room.le k⟩
section
variable {c : Fx} {ws ps : List Str} {P W D lA : Addr} {m : Loc}
theorem lw_four (ok : c.Ok 16) (ecl : c.cl = [(N "told", c.L + 2), (N "words", c.L + 1)]) (hz : ws.length ≤ 100) (hw : ∀ x ∈ ws, x.length ≤ 1000) {σ0 : Sto} {p9 q1 q2 q3 q4 q5 q6 q7 q8 : Pos} (hp : Nat.beq p9.line q7.line = true) {Q : Flow → Loc → Sto → Prop}
    (h : ∀ D ra o, Q .next [(N "script", none), (N "places", some (.ref P)), (N "joined", some (.ref D))] ((D, AO.list ((joinedP ws).map S)) :: (ra, AO.obj o) :: (σ0 ++ [(c.L + 2, AO.cell (some (.ref lA))), (lA, AO.list (ws.map S))]))) :
    W1 c lwSc (.Assign [.Name (N "joined") p9] (.ListComp lwE4 [⟨.Name (N "k") q1, .Call (.Name (N "range") q2) [.Call (.Name (N "len") q3) [.Name (N "told") q4] [] q5] [] q6, [], 0⟩] lwS4 q7) q8) [(N "script", none), (N "places", some (.ref P)), (N "joined", none)] (σ0 ++ [(c.L + 2, AO.cell (some (.ref lA))), (lA, AO.list (ws.map S))]) Q := by
  obtain ⟨hk, ntold, nwords, nscript, nplaces, njoined, nrange, nlen, nsplit, nline⟩ := lw_names
  have hc1 : c.cl.lookup (N "told") = some (c.L + 2) := by rw [ecl]; rfl
  have hzz : ws.length ≤ sizeLine := by exact sz (by assumption) rfl
  refine w1_comp (swaps_yes hk njoined hp (by kernel_rfl)) (fun _ => rfl) (lw_clos4 _ _ _ ecl) lw_s4.1 (all_loc lw_s4.2.2.1) ?_
  refine We.call1 ok (star_cons rfl) (fun env => star_none (es := []) env rfl) (We.bl ok hk nrange .vrange ⟨ex_t, keepOk_t, Was.cons (star_cons rfl) (We.call1 ok (star_cons rfl) (fun env => star_none (es := []) env rfl) (We.bl ok hk nlen .vlen ⟨ex_b, keepOk_b, Was.cons (star_cons rfl) (We.cell hk ntold (by kernel_rfl) hc1 (List.mem_append_right _ (.head _)) (Was.nil ?_))⟩))⟩)
  refine c_lenl (xs := ws.map S) (List.mem_append_right _ (.tail _ (.head _))) (by rw [List.length_map]; exact hzz) (Was.nil ?_)
  rw [List.length_map]
  refine c_range fun ra o ho => ?_
  refine i_range (k := ws.length) ho (.head _) hzz fun it => ?_
  have er : riter 0 (ws.length : Int) 1 = (fun i : Nat => riter (i : Int) ((ws.length : Int) - i) 1) 0 := by simp
  rw [er]
  have turn : ∀ j v, ((List.range ws.length).map fun (i : Nat) => I (i : Int))[j]? = some v → Wturn c.w c.os [(N "told", c.L + 2)] 8 (relab lwS4 lwSc) (N "k") [] lwE4 v ((ra, AO.obj o) :: (σ0 ++ [(c.L + 2, AO.cell (some (.ref lA))), (lA, AO.list (ws.map S))])) (some (S (upTo ws j))) := by
    intro j v hv
    obtain ⟨hj, rfl⟩ := range_get hv
    exact lw_turn4 (τ := (ra, AO.obj o) :: σ0) hz hw hj
  refine Wcomp_of (xs := (List.range ws.length).map fun (i : Nat) => I (i : Int)) (F := fun j => some (S (upTo ws j))) (itA := fun i : Nat => riter (i : Int) ((ws.length : Int) - i) 1) (Src := fun _ => True) (ok.le (n' := 8) (by decide)) (all_ne lw_s4.2.1) lw_s4.1 lw_s4.2.2.2.1 (by simp; exact hzz) ?_ ?_ ?_ (fun _ => trivial) turn ?_
  · intro c' i v m σ Q h1 _ h3
    obtain ⟨h4, rfl⟩ := range_get h1
    exact n_range h4 h3
  · intro c' m σ Q ok' _ h3
    simp only [List.length_map, List.length_range]
    exact n_range_end ok' h3
  · intro c' m σ Q h
    exact self_range h
  intro D
  simp only [List.length_map, List.length_range]
  rw [resUp_map]
  exact use_name hk njoined (.there (.there .here)) (h D ra o)
theorem lw_five (ok : c.Ok 16) (ecl : c.cl = [(N "told", c.L + 2), (N "words", c.L + 1)]) (hz : ws.length ≤ 100) (hw : ∀ x ∈ ws, x.length ≤ 1000) {σ0 : Sto} (hD : (D, AO.list ((joinedP ws).map S)) ∈ σ0) {r1 r2 r3 r4 r5 r6 r7 r8 r9 u1 : Pos} {b : List Stmt} {Q : Flow → Loc → Sto → Prop}
    (h : ∀ D2 ra o, Q .next [(N "script", none), (N "places", some (.ref P)), (N "joined", some (.ref D))] ((D2, AO.list ((joinedP ws).map S)) :: (ra, AO.obj o) :: (σ0 ++ [(c.L + 1, AO.cell (some (.ref W))), (W, AO.list (ws.map S))]))) :
    W1 c lwSc (.If (.Compare (.Name (N "joined") r1) [.NotEq] [.ListComp lwE5 [⟨.Name (N "k") r2, .Call (.Name (N "range") r3) [.Call (.Name (N "len") r4) [.Name (N "words") r5] [] r6] [] r7, [], 0⟩] lwS5 r8] r9) b [] u1) [(N "script", none), (N "places", some (.ref P)), (N "joined", some (.ref D))] (σ0 ++ [(c.L + 1, AO.cell (some (.ref W))), (W, AO.list (ws.map S))]) Q := by
  obtain ⟨hk, ntold, nwords, nscript, nplaces, njoined, nrange, nlen, nsplit, nline⟩ := lw_names
  have hc2 : c.cl.lookup (N "words") = some (c.L + 1) := by rw [ecl]; rfl
  have hzz : ws.length ≤ sizeLine := by exact sz (by assumption) rfl
  refine W1.if (Wb.cmp rfl (We.name hk njoined (by kernel_rfl) (.tail _ (.tail _ (.head _))) (we_comp (fun _ => rfl) (lw_clos5 _ _ _ ecl) lw_s5.1 (all_loc lw_s5.2.2.1) ?_)))
  refine We.call1 ok (star_cons rfl) (fun env => star_none (es := []) env rfl) (We.bl ok hk nrange .vrange ⟨ex_t, keepOk_t, Was.cons (star_cons rfl) (We.call1 ok (star_cons rfl) (fun env => star_none (es := []) env rfl) (We.bl ok hk nlen .vlen ⟨ex_b, keepOk_b, Was.cons (star_cons rfl) (We.cell hk nwords (by kernel_rfl) hc2 (List.mem_append_right _ (.head _)) (Was.nil ?_))⟩))⟩)
  refine c_lenl (xs := ws.map S) (List.mem_append_right _ (.tail _ (.head _))) (by rw [List.length_map]; exact hzz) (Was.nil ?_)
  rw [List.length_map]
  refine c_range fun ra o ho => ?_
  refine i_range (k := ws.length) ho (.head _) hzz fun it => ?_
  have er : riter 0 (ws.length : Int) 1 = (fun i : Nat => riter (i : Int) ((ws.length : Int) - i) 1) 0 := by simp
  rw [er]
  have turn : ∀ j v, ((List.range ws.length).map fun (i : Nat) => I (i : Int))[j]? = some v → Wturn c.w c.os [(N "words", c.L + 1)] 8 (relab lwS5 lwSc) (N "k") [] lwE5 v ((ra, AO.obj o) :: (σ0 ++ [(c.L + 1, AO.cell (some (.ref W))), (W, AO.list (ws.map S))])) (some (S (upTo ws j))) := by
    intro j v hv
    obtain ⟨hj, rfl⟩ := range_get hv
    have := lw_turn5 (w := c.w) (os := c.os) (ws := ws) (a := c.L + 1) (τ := (ra, AO.obj o) :: σ0) (ρ := fun _ => W) (Nat.le_trans hz (by decide)) hw hj
    have e2 : St.sto [(N "words", c.L + 1)] (fun _ => W) ⟨[(N "k", some (.int false (j : Int)))], [(N "words", some (.loc 0))], [(0, .strs ws)], 1⟩ = [(c.L + 1, AO.cell (some (.ref W))), (W, AO.list (ws.map S))] := rfl
    rw [e2] at this
    exact this
  refine Wcomp_of (xs := (List.range ws.length).map fun (i : Nat) => I (i : Int)) (F := fun j => some (S (upTo ws j))) (itA := fun i : Nat => riter (i : Int) ((ws.length : Int) - i) 1) (Src := fun _ => True) (ok.le (n' := 8) (by decide)) (all_ne lw_s5.2.1) lw_s5.1 lw_s5.2.2.2.1 (by simp; exact hzz) ?_ ?_ ?_ (fun _ => trivial) turn ?_
  · intro c' i v m σ Q h1 _ h3
    obtain ⟨h4, rfl⟩ := range_get h1
    exact n_range h4 h3
  · intro c' m σ Q ok' _ h3
    simp only [List.length_map, List.length_range]
    exact n_range_end ok' h3
  · intro c' m σ Q h
    exact self_range h
  intro D2
  simp only [List.length_map, List.length_range]
  rw [resUp_map]
  refine o_lne (n := 15) (ws := joinedP ws) (us := joinedP ws) ok (.tail _ (.tail _ (List.mem_append_left _ hD))) (.head _) (t_bool ⟨fun e => ?_, fun _ => ?_⟩)
  · rw [show (joinedP ws == joinedP ws) = true from beq_self_eq_true _] at e; cases e
  · exact Wx.nil (h D2 ra o)
theorem lw_six (ok : c.Ok 16) {σ0 : Sto} {js : List Str} (hz : js.length ≤ 100) (hw : ∀ x ∈ js, x.length ≤ 1000) (he : js.map normpathP = ps) {u2 u3 u4 u5 u6 u7 : Pos} {Q : Flow → Loc → Sto → Prop}
    (h : ∀ D2, Q (.ret (.bool true)) [(N "script", none), (N "places", some (.ref P)), (N "joined", some (.ref D))] ((D2, AO.list (ps.map S)) :: (D, AO.list (js.map S)) :: (P, AO.list (ps.map S)) :: σ0)) :
    W1 c lwSc (.Return (some (.Compare (.ListComp lwE6 [⟨.Name (N "text") u2, .Name (N "joined") u3, [], 0⟩] lwS6 u4) [.Eq] [.Name (N "places") u5] u6)) u7) [(N "script", none), (N "places", some (.ref P)), (N "joined", some (.ref D))] ((D, AO.list (js.map S)) :: (P, AO.list (ps.map S)) :: σ0) Q := by
  obtain ⟨hk, ntold, nwords, nscript, nplaces, njoined, nrange, nlen, nsplit, nline⟩ := lw_names
  refine W1.ret (We.cmp rfl (we_comp (fun _ => rfl) (lw_clos6 _) lw_s6.1 (all_loc lw_s6.2.2.1) (We.name hk njoined (by kernel_rfl) (.tail _ (.tail _ (.head _))) (i_list (xs := js.map S) (.head _) fun it => ?_))))
  have turn : ∀ j v, (js.map S)[j]? = some v → Wturn c.w c.os [] 8 (relab lwS6 lwSc) (N "text") [] lwE6 v ((D, AO.list (js.map S)) :: (P, AO.list (ps.map S)) :: σ0) (some (S (normpathP (js.getD j (N ""))))) := by
    intro j v hv
    rw [List.getElem?_map] at hv
    obtain ⟨x, hx, rfl⟩ := Option.map_eq_some_iff.mp hv
    have ex : js.getD j (N "") = x := by rw [List.getD_eq_getElem?_getD, hx]; rfl
    rw [ex]
    have := lw_turn6 (w := c.w) (os := c.os) (τ := (D, AO.list (js.map S)) :: (P, AO.list (ps.map S)) :: σ0) (hw x (List.mem_of_getElem? hx))
    rw [List.append_nil] at this
    exact this
  refine Wcomp_of (xs := js.map S) (F := fun j => some (S (normpathP (js.getD j (N ""))))) (itA := fun i => liter D i) (Src := fun σ => (D, AO.list (js.map S)) ∈ σ) (ok.le (n' := 8) (by decide)) (all_ne lw_s6.2.1) lw_s6.1 lw_s6.2.2.2.1 (by rw [List.length_map, sizeLine_eq]; exact sz (by assumption) rfl) ?_ ?_ ?_ (fun p => .tail _ (.head _)) turn ?_
  · intro c' i v m σ Q h1 h2 h3
    exact n_list h1 h2 h3
  · intro c' m σ Q ok' h2 h3
    exact n_list_end ok' (by simp) h2 h3
  · intro c' i v m Q
    exact self_list Q
  intro D2
  rw [List.length_map, resUp_map]
  have e : (List.range js.length).map (fun j => normpathP (js.getD j (N ""))) = ps := by
    rw [← he]
    apply List.ext_getElem
    · simp
    · intro i h1 h2
      simp at h1 h2 ⊢
      rw [List.getElem?_eq_getElem h2]; rfl
  rw [e]
  refine We.name hk nplaces (by kernel_rfl) (.tail _ (.head _)) (o_leq (n := 15) (ws := ps) (us := ps) ok (.head _) (.tail _ (.tail _ (.head _))) ?_)
  rw [show (ps == ps) = true from beq_self_eq_true _]
  exact h D2
end
theorem tour_joined (sc : List Int) : (joinedP (tourP sc).words).map normpathP = (tourP sc).places ∧ (joinedP (tourP sc).words).length ≤ 7 ∧ ∀ x ∈ joinedP (tourP sc).words, x.length ≤ 1000 := by
  obtain ⟨t1, t2, t3, t4⟩ := tour_words sc
  have all := tour_all sc (sc.take 6).length
  refine ⟨?_, by unfold joinedP; rw [List.length_map, List.length_range]; exact t2, ?_⟩
  · have h1 := all.len
    have h2 := all.places
    show _ = (tourAcc sc (sc.take 6).length).places
    rw [h2]
    unfold joinedP
    rw [List.map_map]
    show _ = _
    rw [show (tourP sc).words.length = (sc.take 6).length + 1 from t1]
    rfl
  · intro x hx
    unfold joinedP at hx
    obtain ⟨j, hj, rfl⟩ := List.mem_map.mp hx
    unfold upTo joinP
    have hl : ((tourP sc).words.take (j + 1)).length ≤ 7 := by rw [List.length_take]; omega
    have hw : ∀ z ∈ (tourP sc).words.take (j + 1), z.length ≤ 100 := fun z m => t3 z (List.mem_of_mem_take m)
    generalize (tourP sc).words.take (j + 1) = xs at hl hw
    cases xs with
    | nil => show (N "").length ≤ 1000; decide
    | cons a r =>
      have h1 := joinP_len (B := 100) r a fun z m => hw z (.tail _ m)
      have h2 := hw a (.head _)
      have h3 : r.length * (100 + 1) ≤ 6 * 101 := Nat.mul_le_mul_right _ (by simp at hl; exact sz (by assumption) rfl)
      show (r.foldl joinStep a).length ≤ 1000
      omega
theorem lw_bind (w : World) (u : Value) : ∃ fd, fd = fdAt w 891 ∧ bindArgs fd ⟨[u], []⟩ = pure [(N "script", u)] := ⟨_, rfl, by kernel_rfl⟩
theorem lw_kinds (u : Value) : ∀ L, ∀ x ∈ [(N "script", u)], lwSc.names.lookup x.1 = some .local ∨ (lwSc.names.lookup x.1 = some .cell ∧ ((cellsFrom (L + 1) lwSc.names []).lookup x.1).isSome = true) := by
  intro L x hx
  rw [List.mem_singleton.mp hx]
  exact .inl lw_names.2.2.2.1
theorem lw_bindC (u : Value) (x : Str) : ORel ((fun _ => none : Str → Option Value) x) (bindC (fun n => lwSc.names.lookup n) [(N "script", u)] (fun _ => none) x) := by
  have e : bindC (fun n => lwSc.names.lookup n) [(N "script", u)] (fun _ => none) x = none := by
    unfold bindC
    rw [if_pos (by rw [lw_names.2.2.2.1])]
    rfl
  rw [e]
  exact .none
section
variable {w : World} {os : OsState} {g : Heap} {A : Around} {s : Shared} {l : Addr} {sc : List Int} {ob : Obj}
set_option maxHeartbeats 4000000 in
theorem law_call (b : Bg w g) (r : Room 17 A) (hh : A.handled = none) (hAf : A.frames = some []) (hs : Sr0 w os g [(l, .obj ob)] s) (hob : IntsOf ob sc) (hsc : sc.length ≤ 63) :
    codeAny (MM w) A (.call (.ref 891) ⟨[.ref l], []⟩) (fun r s' => r = .ok (.ret (.bool true)) ∧ Sr0 w os g [(l, .obj ob)] s') s := by
  obtain ⟨hk, ntold, nwords, nscript, nplaces, njoined, nrange, nlen, nsplit, nline⟩ := lw_names
  obtain ⟨t1, t2, t3, t4⟩ := tour_words sc
  obtain ⟨j1, j2, j3⟩ := tour_joined sc
  refine call_c (n := 16) (mm := [(N "script", some (.ref l)), (N "places", none), (N "joined", none)]) (cv := fun _ => none) (f_law w) b r hh (.inr ⟨_, _, rfl, nscript⟩) hs (lw_bind w (.ref l)) (lw_kinds (.ref l)) (by show decide (([N "script", N "places", N "joined"] : List Str).Nodup) = true; decide +kernel) (fun L => by rw [lw_cells]; show ([N "told", N "words"] : List Str).Nodup; decide) (fun x v hm => ?_) (lw_bindC (.ref l)) ?_
  · rcases List.mem_cons.mp hm with e | hm
    · cases e
      refine ⟨.ref l, ?_, .same _⟩
      unfold bindL
      rw [if_pos (by rw [nscript])]
      rfl
    · rcases List.mem_cons.mp hm with e | hm
      · cases e
      · rcases List.mem_cons.mp hm with e | hm
        · cases e
        · cases hm
  rintro c rfl rfl rfl ecl ok hA hfr
  rw [lw_cells] at ecl
  have X : Cx c.w c.os 16 [N "told", N "words"] c := ⟨rfl, rfl, by rw [ecl]; rfl, ok⟩
  have hC : CTok c.w c.os 16 (cTour ob sc) := (cTour_ok c.w c.os ob sc hob hsc).le (by decide)
  have eσ : cellS c.cl (fun _ => none) ++ [(l, AO.obj ob)] = [(c.L + 2, AO.cell none), (c.L + 1, AO.cell none), (l, AO.obj ob)] := by rw [ecl]; rfl
  rw [eσ]
  obtain ⟨p1, p2, p3, p4, p5, p6, p7, p8, p9, q1, q2, q3, q4, q5, q6, q7, q8, r1, r2, r3, r4, r5, r6, r7, r8, r9, u1, u2, u3, u4, u5, u6, u7, e, epos⟩ := lw_shape
  have e' : bodyOf (topSt 50) = lwB := rfl
  rw [e', e]
  -- the tour
  have bl1 : Below [(N "script", some (Value.ref l)), (N "places", none), (N "joined", none)] [(c.L + 2, AO.cell none), (c.L + 1, AO.cell none), (l, AO.obj ob)] (mre (fun _ => l) [(N "script", some (.loc 0)), (N "places", none), (N "joined", none)])
      (St.sto c.cl (fun _ => l) ⟨[(N "script", some (.loc 0)), (N "places", none), (N "joined", none)], [(N "told", none), (N "words", none)], [(0, .read ob sc)], 1⟩) := by
    have e3 : St.sto c.cl (fun _ => l) ⟨[(N "script", some (.loc 0)), (N "places", none), (N "joined", none)], [(N "told", none), (N "words", none)], [(0, .read ob sc)], 1⟩ = [(c.L + 2, AO.cell none), (c.L + 1, AO.cell none), (l, AO.obj ob)] := by rw [ecl]; rfl
    rw [e3]
    exact Below.refl
  refine WT.below bl1 (Wx.cons (WT.mono ((evN_ok (P := Plw ob sc 1) hC hk (by decide) J0).s c X lw1 ⟨[(N "script", some (.loc 0)), (N "places", none), (N "joined", none)], [(N "told", none), (N "words", none)], [(0, .read ob sc)], 1⟩ (fun f st => f = .next ∧ st = ⟨[((N "script"), (some (.loc 0))), ((N "places"), (some (.loc 3))), ((N "joined"), none)], [((N "told"), none), ((N "words"), (some (.loc 2)))], tourH ob sc, 4⟩) (fun _ => l) (Nat.le_refl _) ?_) ?_))
  · rw [lw_vc1]; exact ⟨rfl, rfl, rfl, rfl, rfl⟩
  rintro f m σ ⟨f', st', ρ, rfl, bl, ag, rfl, rfl⟩
  have e0 : ρ 0 = l := ag 0 Nat.zero_lt_one
  have bl2 : Below m σ (lwM l (ρ 3) none) (lwσ c.L l (ρ 2) (ρ 3) ob sc none) := by
    refine bl.trans ⟨rfl, fun x u hm => ?_, ?_⟩
    · rw [← e0] at hm; exact hm
    · have e3 : St.sto c.cl ρ ⟨[((N "script"), (some (.loc 0))), ((N "places"), (some (.loc 3))), ((N "joined"), none)], [((N "told"), none), ((N "words"), (some (.loc 2)))], tourH ob sc, 4⟩ = [(c.L + 2, AO.cell none), (c.L + 1, AO.cell (some (.ref (ρ 2)))), (ρ 0, AO.obj ob), (ρ 1, AO.tup [.ref (ρ 2), .ref (ρ 3)]), (ρ 2, AO.list ((tourP sc).words.map S)), (ρ 3, AO.list ((tourP sc).places.map S))] := by rw [ecl]; rfl
      rw [e3, e0]
      exact Picks.cons2 (Picks.cons2 (Picks.cons2 Picks.tail))
  generalize ρ 2 = W at bl2 ⊢
  generalize ρ 3 = P at bl2 ⊢
  -- the words told
  refine seq_next (WT.below bl2 (Wx.cons (lw_two ok ecl hA hAf hfr hob hsc fun lA => seq_next ?_)))
  have bl3 : Below (lwM l P none) ((lA, AO.list ((tourP sc).words.map S)) :: lwσ c.L l W P ob sc (some (.ref lA))) (mre (fun i => if i = 0 then lA else if i = 1 then W else if i = 2 then P else l) [(N "script", none), (N "places", some (.loc 2)), (N "joined", none)])
      (St.sto c.cl (fun i => if i = 0 then lA else if i = 1 then W else if i = 2 then P else l) ⟨[(N "script", none), (N "places", some (.loc 2)), (N "joined", none)], [(N "told", some (.loc 0)), (N "words", some (.loc 1))], [(0, .strs (tourP sc).words), (1, .strs (tourP sc).words), (2, .strs (tourP sc).places), (3, .read ob sc)], 4⟩) := by
    refine ⟨rfl, fun x u hm => ?_, ?_⟩
    · rcases List.mem_cons.mp hm with e | hm
      · cases e
      · exact List.mem_cons_of_mem _ hm
    · have e3 : St.sto c.cl (fun i => if i = 0 then lA else if i = 1 then W else if i = 2 then P else l) ⟨[(N "script", none), (N "places", some (.loc 2)), (N "joined", none)], [(N "told", some (.loc 0)), (N "words", some (.loc 1))], [(0, .strs (tourP sc).words), (1, .strs (tourP sc).words), (2, .strs (tourP sc).places), (3, .read ob sc)], 4⟩ = [(c.L + 2, AO.cell (some (.ref lA))), (c.L + 1, AO.cell (some (.ref W))), (lA, AO.list ((tourP sc).words.map S)), (W, AO.list ((tourP sc).words.map S)), (P, AO.list ((tourP sc).places.map S)), (l, AO.obj ob)] := by rw [ecl]; rfl
      rw [e3]
      refine Picks.of_perm (τ := []) ?_
      rw [List.append_nil]
      have h1 : ∀ (a b c d e f : Addr × AO), ([a, b, c, d, e, f]).Perm (c :: [a, b, f, d, e]) := by
        intro a b c d e f
        refine (List.perm_append_comm (l₁ := [a, b, c, d, e]) (l₂ := [f])).trans ?_
        refine (List.Perm.cons f ((List.perm_append_comm (l₁ := [a, b]) (l₂ := [c, d, e])).trans (List.Perm.cons c List.perm_append_comm))).trans ?_
        refine (List.Perm.swap ..).trans (List.Perm.cons c ?_)
        exact (List.perm_append_comm (l₁ := [f]) (l₂ := [a, b])).append_right [d, e]
      exact h1 _ _ _ _ _ _
  refine WT.below bl3 (Wx.cons (WT.mono ((evN_ok (P := Plw ob sc 4) hC hk (by decide) J0).s c X lw3 ⟨[(N "script", none), (N "places", some (.loc 2)), (N "joined", none)], [(N "told", some (.loc 0)), (N "words", some (.loc 1))], [(0, .strs (tourP sc).words), (1, .strs (tourP sc).words), (2, .strs (tourP sc).places), (3, .read ob sc)], 4⟩ (fun f st => f = .next ∧ st = ⟨[(N "script", none), (N "places", some (.loc 2)), (N "joined", none)], [(N "told", some (.loc 0)), (N "words", some (.loc 1))], [(0, .strs (tourP sc).words), (1, .strs (tourP sc).words), (2, .strs (tourP sc).places), (3, .read ob sc)], 4⟩) (fun i => if i = 0 then lA else if i = 1 then W else if i = 2 then P else l) (Nat.le_refl _) ?_) ?_))
  · rw [lw_vc3]
    refine ⟨fun h => ?_, fun _ => ⟨rfl, rfl⟩⟩
    rw [show ((tourP sc).words == (tourP sc).words) = true from beq_self_eq_true _] at h
    cases h
  rintro f m σ ⟨f', st', ρ', rfl, bl, ag', rfl, rfl⟩
  have bl4 : Below m σ [(N "script", none), (N "places", some (.ref P)), (N "joined", none)] ([(c.L + 1, AO.cell (some (.ref W))), (W, AO.list ((tourP sc).words.map S)), (P, AO.list ((tourP sc).places.map S)), (l, AO.obj ob)] ++ [(c.L + 2, AO.cell (some (.ref lA))), (lA, AO.list ((tourP sc).words.map S))]) := by
    have a0 : ρ' 0 = lA := ag' 0 (by show 0 < 4; decide)
    have a1 : ρ' 1 = W := ag' 1 (by show 1 < 4; decide)
    have a2 : ρ' 2 = P := ag' 2 (by show 2 < 4; decide)
    have a3 : ρ' 3 = l := ag' 3 (by show 3 < 4; decide)
    refine bl.trans ⟨rfl, fun x u hm => ?_, ?_⟩
    · rw [← a2] at hm; exact hm
    · have e3 : St.sto c.cl ρ' ⟨[(N "script", none), (N "places", some (.loc 2)), (N "joined", none)], [(N "told", some (.loc 0)), (N "words", some (.loc 1))], [(0, .strs (tourP sc).words), (1, .strs (tourP sc).words), (2, .strs (tourP sc).places), (3, .read ob sc)], 4⟩ = [(c.L + 2, AO.cell (some (.ref (ρ' 0)))), (c.L + 1, AO.cell (some (.ref (ρ' 1)))), (ρ' 0, AO.list ((tourP sc).words.map S)), (ρ' 1, AO.list ((tourP sc).words.map S)), (ρ' 2, AO.list ((tourP sc).places.map S)), (ρ' 3, AO.obj ob)] := by rw [ecl]; rfl
      rw [e3, a0, a1, a2, a3]
      refine Picks.of_perm (τ := []) ?_
      have h1 : ∀ (a b c d e f : Addr × AO), ([b, d, e, f] ++ [a, c]).Perm [a, b, c, d, e, f] := by
        intro a b c d e f
        refine (List.perm_append_comm (l₁ := [b, d, e, f]) (l₂ := [a, c])).trans ?_
        exact List.Perm.cons a (List.Perm.swap ..)
      rw [List.append_nil]
      exact h1 _ _ _ _ _ _
  -- the words joined
  refine seq_next (WT.below bl4 (Wx.cons (lw_four ok ecl (by exact sz (by assumption) rfl) (fun x hx => Nat.le_trans (t3 x hx) (by decide)) epos fun D ra o => seq_next ?_)))
  have bl5 : Below [(N "script", none), (N "places", some (Value.ref P)), (N "joined", some (.ref D))] ((D, AO.list ((joinedP (tourP sc).words).map S)) :: (ra, AO.obj o) :: ([(c.L + 1, AO.cell (some (.ref W))), (W, AO.list ((tourP sc).words.map S)), (P, AO.list ((tourP sc).places.map S)), (l, AO.obj ob)] ++ [(c.L + 2, AO.cell (some (.ref lA))), (lA, AO.list ((tourP sc).words.map S))]))
      [(N "script", none), (N "places", some (.ref P)), (N "joined", some (.ref D))] ([(D, AO.list ((joinedP (tourP sc).words).map S)), (P, AO.list ((tourP sc).places.map S)), (l, AO.obj ob)] ++ [(c.L + 1, AO.cell (some (.ref W))), (W, AO.list ((tourP sc).words.map S))]) := by
    refine ⟨rfl, fun _ _ h => h, Picks.cons2 (Picks.trans Picks.tail (Picks.of_perm (τ := [(c.L + 2, AO.cell (some (.ref lA))), (lA, AO.list ((tourP sc).words.map S))]) ?_))⟩
    exact List.Perm.append_right _ (List.perm_append_comm (l₁ := [(P, AO.list ((tourP sc).places.map S)), (l, AO.obj ob)]) (l₂ := [(c.L + 1, AO.cell (some (.ref W))), (W, AO.list ((tourP sc).words.map S))]))
  refine WT.below bl5 (Wx.cons (lw_five ok ecl (by exact sz (by assumption) rfl) (fun x hx => Nat.le_trans (t3 x hx) (by decide)) (.head _) fun D2 ra2 o2 => seq_next ?_))
  have bl6 : Below [(N "script", none), (N "places", some (Value.ref P)), (N "joined", some (.ref D))] ((D2, AO.list ((joinedP (tourP sc).words).map S)) :: (ra2, AO.obj o2) :: ([(D, AO.list ((joinedP (tourP sc).words).map S)), (P, AO.list ((tourP sc).places.map S)), (l, AO.obj ob)] ++ [(c.L + 1, AO.cell (some (.ref W))), (W, AO.list ((tourP sc).words.map S))]))
      [(N "script", none), (N "places", some (.ref P)), (N "joined", some (.ref D))] [(D, AO.list ((joinedP (tourP sc).words).map S)), (P, AO.list ((tourP sc).places.map S)), (l, AO.obj ob)] :=
    ⟨rfl, fun _ _ h => h, Picks.trans Picks.tail (Picks.trans Picks.tail (Picks.of_perm (τ := [(c.L + 1, AO.cell (some (.ref W))), (W, AO.list ((tourP sc).words.map S))]) (.refl _)))⟩
  refine WT.below bl6 (Wx.cons (lw_six ok (by exact sz (by assumption) rfl) j3 j1 fun D3 => ?_))
  intro u s' tu z
  have tu : Teq (.bool true) u := tu
  rw [tu.bool_inv]
  exact ⟨rfl, z.sub (.cons _ (.cons _ (.cons _ (.cons _ (List.Sublist.refl _)))))⟩
end
theorem kk_nolist (w : World) : ((KK w).all fun p => match p.2.cls with | .type t => t != "list" | _ => true) = true := by kernel_rfl
theorem mem_of_look {α : Type} : ∀ {l : List (Nat × α)} {n : Nat} {c : α}, l.lookup n = some c → (n, c) ∈ l
  | (k, v) :: r, n, c, h => by
    rw [List.lookup_cons] at h
    cases q : n == k with
    | true => rw [q] at h; cases h; rw [eq_of_beq q]; exact .head _
    | false => rw [q] at h; exact .tail _ (mem_of_look h)
theorem kk_free {w : World} {h : Heap} (X : (KK w).In h) {l : Addr} {o : Obj} (ho : h.get? l = some o) (hc : o.cls = .type "list") : ∀ a o', (KK w).lookup a = some o' → a ∉ [l] := by
  intro a o' e q
  have q := List.mem_singleton.mp q
  subst q
  have := X _ _ e
  rw [ho] at this
  cases this
  have := List.all_eq_true.mp (kk_nolist w) _ (mem_of_look e)
  rw [hc] at this
  exact absurd this (by decide)
theorem top_bg {w : World} {h : Heap} {p : Program} {loose : List Str} {mg mb : Str → Option Value} (X : (KK w).In h) (T : TopRead p loose mg mb h) {l : Addr} {o : Obj} {arr : Array Value} {n : Nat} (ho : h.get? l = some o) (hc : o.cls = .type "list") (hd : o.data = .seq arr n) : Bg w (hideAll h [l]) := by
  have ne : ∀ {a : Addr} {m : Str → Option Value}, h.Ns a m → a ∉ [l] := by
    rintro a m ⟨o', es, ep, h1, h2, _⟩ q
    have q := List.mem_singleton.mp q
    subst q
    rw [ho] at h1
    cases h1
    rw [hd] at h2
    cases h2
  refine ⟨fun a o' e => hideAll_get _ (X a o' e) (kk_free X ho hc a o' e), ?_, mb, ?_, T.builtins⟩
  · obtain ⟨mc, hns, _⟩ := T.nolimit
    exact T.nolimit.at fun o e => hideAll_get _ e (ne hns)
  · obtain ⟨o', es, ep, h1, h2⟩ := T.b
    exact ⟨o', es, ep, hideAll_get _ h1 (ne T.b), h2⟩
theorem ints_teq : ∀ {vs : List Value} {ns : List Int}, IntsAre vs ns → TeqL (ns.map I) vs
  | _, _, .nil => .nil
  | _, _, .cons n t h => .cons (.int n 0 t) (ints_teq h)
theorem law_true (w : World) : nsIn (KK w) mainGlobals (N "law") = some (some (.ref 891)) := by kernel_rfl
theorem law_room : Room 17 callerA := by unfold Room; decide
theorem top_call {w : World} {s₁ : Shared} {p : Program} {loose : List Str} {mg mb : Str → Option Value} {fa l : Addr} {vs : List Value} {sc : List Int} {R : Result → Shared → Prop} (X : (KK w).In s₁.heap) (T : TopRead p loose mg mb s₁.heap) (hmg : mg (N "law") = some (.ref fa)) (hg : s₁.gens = #[]) (hL : s₁.heap.IsList l vs.toArray) (hI : IntsAre vs sc) (hsc : sc.length ≤ 63)
    (h : ∀ s', (∀ b o, s₁.heap.get? b = some o → s'.heap.get? b = some o) → s'.os = s₁.os → s'.gens = #[] → R (.ok (.ret (.bool true))) s') :
    codeAny (MM w) callerA (.call (.ref fa) ⟨[.ref l], []⟩) R s₁ := by
  have e := mg_of X T.g (law_true w)
  rw [hmg] at e
  cases e
  obtain ⟨o, ho, hc, n, hd⟩ := hL
  have hs : Sr0 w s₁.os (hideAll s₁.heap [l]) [(l, .obj o)] s₁ := by
    refine ⟨⟨fun b o e => of_hideAll _ e, fun q hq => ?_, by simp⟩, hg, rfl⟩
    cases List.mem_singleton.mp hq
    exact ⟨hideAll_none _ (.head _), o, ho, rfl⟩
  refine codeAny_mono (law_call (ob := o) (top_bg X T ho hc hd) law_room rfl rfl hs ⟨hc, vs.toArray, n, hd, ints_teq hI⟩ hsc) ?_
  rintro r s' ⟨rfl, z⟩
  refine h s' (fun b o' e => ?_) z.os z.gens
  by_cases q : b = l
  · subst q
    obtain ⟨_, o2, h2, h3⟩ := z.hr.own _ (.head _)
    have h3 : o2 = o := h3
    rw [ho] at e
    cases e
    rw [← h3]; exact h2
  · exact z.hr.keep _ _ (hideAll_get _ e fun m => q (List.mem_singleton.mp m))
end Mine
open PySem PySem.W PySem.Calls PyProof.Rows PySem.Spec
set_option maxHeartbeats 8000000 in
theorem PySem.Challenge.cw_pd0003_01_holds : PySem.Challenge.rw_pd0003_01.Holds := by
  refine Mine.t_head ?_
  with_reducible intro w s₀ s₁ mg mb G Y fa o pm cd doc dV kV ho hd hcd hD hmg hg args vals as hpre hlay hrd hwl hlo
  have KX : (Mine.KK w).In s₁.heap := Y
  refine Ground.open G ?_
  intro T B D TE TW
  clear hD hcd
  wrow_args hpre hlay hrd hwl hlo
  all_goals clear hd
  refine enter_call ?_
  rename_i sc _ _ _ _ _ _ _ l vs _ hL _ _ _ hI _ hcond _
  refine Mine.top_call (vs := vs) (sc := sc) KX (topRead_of T) hmg hg hL hI (by omega) fun s' hk hos hgn => ?_
  refine GoodW.toG ⟨.inl ⟨_, _, _, rfl, ?_, .bool true, ?_, ?_⟩, hk, hos, hgn⟩
  · first
    | exact fun _ => rfl
    | exact raisesW_false (by wrow_none_raised)
  · first
    | rfl
    | wrow_post
  · exact fun _ => ⟨.nil, fun a m => by cases m⟩
