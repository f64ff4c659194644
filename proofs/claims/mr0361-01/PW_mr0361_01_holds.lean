import PyProof.Rows.All
import Wide.All
import OpenK.AllK
import Wide.FinOn
import PySem.Challenge.RW_mr0361_01
open PySem PySem.W PyProof.Rows PySem.Calls
set_option Elab.async false
set_option maxRecDepth 100000
set_option linter.unusedVariables false
set_option maxHeartbeats 2000000
set_option rowWalk.seconds 0
set_option compiler.extract_closed false
namespace Mine
local macro_rules | `(tactic| omega) => `(tactic| lia)
section
noncomputable abbrev vi (i : Int) (t : Nat) : Value := .int i t
noncomputable abbrev vs (x : String) (t : Nat) : Value := .str (Str.ofString x) t
noncomputable abbrev vr (a : Nat) : Value := .ref a
noncomputable abbrev en (P : Params) (x : String) (t : Nat) (v : Value) : DictEntry := ⟨PyData.keyHash P (Str.ofString x), .str (Str.ofString x) t, v⟩
noncomputable def noSt : Stmt := .Pass ⟨0, 0, 0, 0⟩
noncomputable def topDef (i : Nat) : Stmt := PySem.Challenge.rw_mr0361_01.prog.main.body.getD i noSt
noncomputable def clsDef (i j : Nat) : Stmt := match topDef i with
  | .ClassDef _ _ _ b _ _ _ _ _ _ _ => b.getD j noSt
  | _ => noSt
noncomputable def dPar : Stmt → Arguments
  | .FunctionDef _ a _ _ _ _ _ _ _ _ => a
  | _ => ⟨[], [], none, [], [], none, []⟩
noncomputable def dBody : Stmt → List Stmt
  | .FunctionDef _ _ b _ _ _ _ _ _ _ => b
  | _ => []
noncomputable def dScope : Stmt → Scope
  | .FunctionDef _ _ _ _ _ _ sc _ _ _ => sc
  | _ => { kind := .function, names := [] , isGenerator := false, isCoroutine := false }
noncomputable abbrev fnAt (st : Stmt) (name qual : String) (dV pm cd : Value) : FuncData := fnOf (Str.ofString name) (Str.ofString qual) (dPar st) (dBody st) (dScope st) dV .none .none pm none cd .none
noncomputable def k2 (P : Params) : Obj := ⟨Value.none, none, (Data.dict #[en P "\x69mport.loaded._sre" 183 (Value.bool true), en P "class._frozen_importlib.BuiltinImporter" 185 (vr 14), en P "watched.\x69mport" 206 (vr 18), en P "class._frozen_importlib.ModuleSpec" 216 (vr 22), en P "sys.modules.booked-epoch" 245 (vi 4 0), en P "\x69mport.later-laid._sre" 270 (Value.bool true), en P "watched.library" 272 (vr 27), en P "watched.library-objects" 0 (vs "\x0c\x1e" 0), en P "watched.library-deep._sre" 273 (vs "\x04\x00\x00\x0b\x04\x00\x00\x0b\x04\x00\x00\x03\x04\x00\x00\x0b\x08\x04dict\x02" 0), en P "\x69mport.loaded._collections" 280 (Value.bool true), en P "sys.modules.landed._collections" 294 (Value.bool true), en P "\x69mport.later-laid._collections" 309 (Value.bool true), en P "watched.library-deep._collections" 311 (vs "\x04\x00\x00\x1d\x04\x00\x00\x1d\x04\x00\x00\x03\x04\x00\x00\x1d\x08\x04dict\x02" 0), en P "type.__subclasses__.OSError.0" 407 (vi 73 0), en P "type.__subclasses__.OSError.n" 408 (vi 1 0)] 15), #[]⟩
noncomputable def k3 (P : Params) : Obj := ⟨(Value.type "dict"), none, (Data.dict #[en P "__name__" 165 (vs "law_mr0361_01" 1354), en P "__doc__" 166 Value.none, en P "__package__" 167 Value.none, en P "__loader__" 168 (Value.builtin "__main__.__loader__#opaque"), en P "__spec__" 169 Value.none, en P "__annotations__" 170 (vr 6), en P "__builtins__" 171 (vr 4), en P "__file__" 173 (vs "/claim/cut.py" 172), en P "__cached__" 174 Value.none, en P "_sre" 275 (vr 12), en P "deque" 317 (Value.type "collections.deque"), en P "_wall" 330 (vr 44), en P "_twin_re_1" 370 (vr 49), en P "_whence" 380 (vr 56), en P "_index" 388 (vr 63), en P "UnsupportedOperation" 410 (vr 73), en P "IOBase" 442 (vr 93), en P "BufferedIOBase" 460 (vr 108), en P "TextIOBase" 478 (vr 120), en P "BytesIO" 740 (vr 350), en P "StringIO" 1027 (vr 597), en P "_kind" 1038 (vr 606), en P "_fspath" 1047 (vr 613), en P "_check_arg_types" 1057 (vr 620), en P "isabs" 1064 (vr 627), en P "join" 1075 (vr 751), en P "join_path" 1076 (vr 634), en P "dirname" 1086 (vr 641), en P "shlex" 1227 (vr 732), en P "split" 1237 (vr 744), en P "join_shlex" 1245 (vr 751), en P "_find_unsafe" 1247 (vr 752), en P "quote" 1254 (vr 759), en P "S_IFMT" 1263 (vr 766), en P "S_IFDIR" 1265 (vi 16384 1264), en P "S_IFCHR" 1267 (vi 8192 1266), en P "S_IFBLK" 1269 (vi 24576 1268), en P "S_IFREG" 1271 (vi 32768 1270), en P "S_IFIFO" 1273 (vi 4096 1272), en P "S_IFLNK" 1275 (vi 40960 1274), en P "S_IFSOCK" 1277 (vi 49152 1276), en P "S_ISDIR" 1284 (vr 773), en P "S_ISLNK" 1291 (vr 780), en P "S_ISUID" 1293 (vi 2048 1292), en P "S_ISGID" 1295 (vi 1024 1294), en P "S_ISVTX" 1297 (vi 512 1296), en P "S_IRUSR" 1299 (vi 256 1298), en P "S_IWUSR" 1301 (vi 128 1300), en P "S_IXUSR" 1303 (vi 64 1302), en P "S_IRGRP" 1305 (vi 32 1304), en P "S_IWGRP" 1307 (vi 16 1306), en P "S_IXGRP" 1309 (vi 8 1308), en P "S_IROTH" 1311 (vi 4 1310), en P "S_IWOTH" 1313 (vi 2 1312), en P "S_IXOTH" 1315 (vi 1 1314), en P "_filemode_table" 1341 (vr 813), en P "filemode" 1353 (vr 820), en P "_law_target" 1363 (vr 827), en P "_law_tree" 1375 (vr 834), en P "_law_line" 1384 (vr 841), en P "_law_signs" 1395 (vr 848), en P "_law_told" 1401 (vr 853), en P "_law_number" 1411 (vr 860), en P "_law_read" 1422 (vr 867), en P "_law_known" 1431 (vr 874), en P "law" 1440 (vr 881)] 66), #[]⟩
noncomputable def k48 (P : Params) : Obj := ⟨(Value.type "tuple"), none, (Data.seq #[(vi 14 0), (vi 17 0), (vi 4 0), (vi 1 0), (vi 1 0), (vi 21 0), (vi 9 0), (vi 0 0), (vi 604043296 0), (vi 1 0), (vi 0 0), (vi 0 0), (vi 0 0), (vi 0 0), (vi 0 0), (vi 8 0), (vi 4 0), (vi 0 0), (vi 13 0), (vi 14 0), (vi 21 0), (vi 9 0), (vi 0 0), (vi 604043296 0), (vi 1 0), (vi 0 0), (vi 0 0), (vi 0 0), (vi 0 0), (vi 0 0), (vi 8 0), (vi 4 0), (vi 0 0), (vi 1 0)] 0), #[]⟩
noncomputable def k49 (P : Params) : Obj := ⟨(Value.type "re.Pattern"), none, (Data.fields #[(vs "[^\\w@%+=:,./-]" 332), (vi 256 369), (vi 0 0), Value.none, Value.none, (vr 48), (vi 0 0)]), #[]⟩
noncomputable def k62 (P : Params) : Obj := ⟨(Value.type "code"), none, (Data.fields #[(vs "_index" 381), (vs "_index" 382), (vs "/claim/cut.py" 383), (vi 13 0), (vi 2 0), (vi 0 0), (vi 0 0), (vi 3 0), (vr 57), (Value.bool true), (vi 318 0), (vr 58), Value.none, (vr 59), (vr 60), (vr 61), (vi 386 0), (vi 13 0), (vs "/claim/cut.py" 387)]), #[]⟩
noncomputable def k63 (P : Params) : Obj := ⟨(Value.type "function"), none, (Data.func (fnAt (topDef 6) "_index" "_index" Value.none (vs "io" 371) (vr 62))), #[]⟩
noncomputable def k89 (P : Params) : Obj := ⟨(Value.type "code"), none, (Data.fields #[(vs "__new__" 425), (vs "IOBase.__new__" 426), (vs "/claim/cut.py" 427), (vi 25 0), (vi 1 0), (vi 1 0), (vi 0 0), (vi 15 0), (vr 84), (Value.bool true), (vi 318 0), (vr 85), Value.none, (vr 86), (vr 87), (vr 88), (vi 431 0), (vi 25 0), (vs "/claim/cut.py" 432)]), #[]⟩
noncomputable def k90 (P : Params) : Obj := ⟨(Value.type "function"), none, (Data.func (fnAt (clsDef 8 1) "__new__" "IOBase.__new__" Value.none (vs "io" 371) (vr 89))), #[]⟩
noncomputable def k92 (P : Params) : Obj := ⟨(Value.type "dict"), none, (Data.dict #[en P "__module__" 418 (vs "io" 423), en P "__firstlineno__" 422 (vi 22 421), en P "__new__" 433 (vr 94), en P "__static_attributes__" 434 (vr 91), en P "__dict__" 437 (vr 95), en P "__weakref__" 439 (vr 96), en P "__doc__" 440 Value.none] 4), #[]⟩
noncomputable def k93 (P : Params) : Obj := ⟨(Value.type "type"), none, (Data.cls ⟨Str.ofString "IOBase", [(Value.type "object")], [(vr 93), (Value.type "object")], 92, Str.ofString "IOBase", true, [], [(vr 108), (vr 120)], false, none, false⟩), #[none, none, some (vs "IOBase" 411), some (vs "IOBase" 419), some Value.none, some (Value.bool true)]⟩
noncomputable def k94 (P : Params) : Obj := ⟨(Value.type "staticmethod"), none, (Data.fields #[(vr 90)]), #[]⟩
noncomputable def k119 (P : Params) : Obj := ⟨(Value.type "dict"), none, (Data.dict #[en P "__module__" 468 (vs "io" 473), en P "__firstlineno__" 472 (vi 31 471), en P "__static_attributes__" 475 (vr 118), en P "__doc__" 476 Value.none] 2), #[]⟩
noncomputable def k120 (P : Params) : Obj := ⟨(Value.type "type"), none, (Data.cls ⟨Str.ofString "TextIOBase", [(vr 93)], [(vr 120), (vr 93), (Value.type "object")], 119, Str.ofString "TextIOBase", true, [], [(vr 597)], false, none, false⟩), #[some (vr 111), none, some (vs "TextIOBase" 461), some (vs "TextIOBase" 469), some Value.none, some (Value.bool true)]⟩
noncomputable def k350 (P : Params) : Obj := ⟨(Value.type "type"), none, (Data.cls ⟨Str.ofString "BytesIO", [(vr 108)], [(vr 350), (vr 108), (vr 93), (Value.type "object")], 349, Str.ofString "BytesIO", true, [], [], false, none, false⟩), #[some (vr 123), none, some (vs "BytesIO" 479), some (vs "BytesIO" 487), some Value.none, some (Value.bool true)]⟩
noncomputable def k360 (P : Params) : Obj := ⟨(Value.type "tuple"), none, (Data.seq #[(vs "" 755), (vs "\n" 756)] 0), #[]⟩
noncomputable def k366 (P : Params) : Obj := ⟨(Value.type "code"), none, (Data.fields #[(vs "__init__" 757), (vs "StringIO.__init__" 758), (vs "/claim/cut.py" 759), (vi 206 0), (vi 3 0), (vi 0 0), (vi 0 0), (vi 3 0), (vr 361), (Value.bool true), (vi 318 0), (vr 362), Value.none, (vr 363), (vr 364), (vr 365), (vi 763 0), (vi 206 0), (vs "/claim/cut.py" 764)]), #[]⟩
noncomputable def k367 (P : Params) : Obj := ⟨(Value.type "function"), none, (Data.func (fnAt (clsDef 12 1) "__init__" "StringIO.__init__" (vr 360) (vs "io" 371) (vr 366))), #[]⟩
noncomputable def k373 (P : Params) : Obj := ⟨(Value.type "code"), none, (Data.fields #[(vs "__translated" 766), (vs "StringIO.__translated" 767), (vs "/claim/cut.py" 768), (vi 219 0), (vi 2 0), (vi 0 0), (vi 0 0), (vi 3 0), (vr 368), (Value.bool true), (vi 318 0), (vr 369), Value.none, (vr 370), (vr 371), (vr 372), (vi 772 0), (vi 219 0), (vs "/claim/cut.py" 773)]), #[]⟩
noncomputable def k374 (P : Params) : Obj := ⟨(Value.type "function"), none, (Data.func (fnAt (clsDef 12 2) "__translated" "StringIO.__translated" Value.none (vs "io" 371) (vr 373))), #[]⟩
noncomputable def k380 (P : Params) : Obj := ⟨(Value.type "code"), none, (Data.fields #[(vs "__check" 775), (vs "StringIO.__check" 776), (vs "/claim/cut.py" 777), (vi 227 0), (vi 1 0), (vi 0 0), (vi 0 0), (vi 3 0), (vr 375), (Value.bool true), (vi 318 0), (vr 376), Value.none, (vr 377), (vr 378), (vr 379), (vi 779 0), (vi 227 0), (vs "/claim/cut.py" 780)]), #[]⟩
noncomputable def k381 (P : Params) : Obj := ⟨(Value.type "function"), none, (Data.func (fnAt (clsDef 12 3) "__check" "StringIO.__check" Value.none (vs "io" 371) (vr 380))), #[]⟩
noncomputable def k536 (P : Params) : Obj := ⟨(Value.type "tuple"), none, (Data.seq #[(vi (-1) 948)] 0), #[]⟩
noncomputable def k542 (P : Params) : Obj := ⟨(Value.type "code"), none, (Data.fields #[(vs "read" 949), (vs "StringIO.read" 950), (vs "/claim/cut.py" 951), (vi 349 0), (vi 2 0), (vi 2 0), (vi 0 0), (vi 3 0), (vr 537), (Value.bool true), (vi 318 0), (vr 538), Value.none, (vr 539), (vr 540), (vr 541), (vi 956 0), (vi 349 0), (vs "/claim/cut.py" 957)]), #[]⟩
noncomputable def k543 (P : Params) : Obj := ⟨(Value.type "function"), none, (Data.func (fnAt (clsDef 12 25) "read" "StringIO.read" (vr 536) (vs "io" 371) (vr 542))), #[]⟩
noncomputable def k596 (P : Params) : Obj := ⟨(Value.type "dict"), none, (Data.dict #[en P "__module__" 748 (vs "_io" 753), en P "__firstlineno__" 752 (vi 203 751), en P "__init__" 765 (vr 367), en P "_StringIO__translated" 774 (vr 374), en P "_StringIO__check" 781 (vr 381), en P "_StringIO__check_dot" 788 (vr 388), en P "_StringIO__line" 803 (vr 395), en P "closed" 811 (vr 403), en P "line_buffering" 819 (vr 411), en P "newlines" 827 (vr 419), en P "encoding" 835 (vr 427), en P "errors" 843 (vr 435), en P "close" 850 (vr 442), en P "__enter__" 857 (vr 449), en P "__exit__" 865 (vr 456), en P "readable" 872 (vr 463), en P "writable" 879 (vr 470), en P "seekable" 886 (vr 477), en P "isatty" 893 (vr 484), en P "flush" 900 (vr 491), en P "fileno" 907 (vr 498), en P "detach" 914 (vr 505), en P "getvalue" 921 (vr 512), en P "tell" 928 (vr 519), en P "seek" 938 (vr 527), en P "truncate" 946 (vr 535), en P "read" 958 (vr 543), en P "readline" 968 (vr 551), en P "readlines" 978 (vr 559), en P "__iter__" 985 (vr 566), en P "__next__" 993 (vr 573), en P "write" 1005 (vr 580), en P "writelines" 1013 (vr 587), en P "__repr__" 1020 (vr 594), en P "__static_attributes__" 1024 (vr 595), en P "__doc__" 1025 Value.none] 2), #[]⟩
noncomputable def k597 (P : Params) : Obj := ⟨(Value.type "type"), none, (Data.cls ⟨Str.ofString "StringIO", [(vr 120)], [(vr 597), (vr 120), (vr 93), (Value.type "object")], 596, Str.ofString "StringIO", true, [], [], false, none, false⟩), #[some (vr 353), none, some (vs "StringIO" 741), some (vs "StringIO" 749), some Value.none, some (Value.bool true)]⟩
noncomputable def k649 (P : Params) : Obj := ⟨(Value.type "tuple"), none, (Data.seq #[Value.none, Value.none, (Value.bool false), (Value.bool false)] 0), #[]⟩
noncomputable def k655 (P : Params) : Obj := ⟨(Value.type "code"), none, (Data.fields #[(vs "__init__" 1101), (vs "shlex.__init__" 1102), (vs "/claim/cut.py" 1103), (vi 475 0), (vi 5 0), (vi 0 0), (vi 0 0), (vi 3 0), (vr 650), (Value.bool true), (vi 318 0), (vr 651), Value.none, (vr 652), (vr 653), (vr 654), (vi 1110 0), (vi 475 0), (vs "/claim/cut.py" 1111)]), #[]⟩
noncomputable def k656 (P : Params) : Obj := ⟨(Value.type "function"), none, (Data.func (fnAt (clsDef 22 0) "__init__" "shlex.__init__" (vr 649) (vs "cpy313.shlex" 1087) (vr 655))), #[]⟩
noncomputable def k662 (P : Params) : Obj := ⟨(Value.type "code"), none, (Data.fields #[(vs "punctuation_chars" 1113), (vs "shlex.punctuation_chars" 1114), (vs "/claim/cut.py" 1115), (vi 516 0), (vi 1 0), (vi 0 0), (vi 0 0), (vi 3 0), (vr 657), (Value.bool true), (vi 318 0), (vr 658), Value.none, (vr 659), (vr 660), (vr 661), (vi 1117 0), (vi 516 0), (vs "/claim/cut.py" 1118)]), #[]⟩
noncomputable def k663 (P : Params) : Obj := ⟨(Value.type "function"), none, (Data.func (fnAt (clsDef 22 1) "punctuation_chars" "shlex.punctuation_chars" Value.none (vs "cpy313.shlex" 1087) (vr 662))), #[]⟩
noncomputable def k664 (P : Params) : Obj := ⟨(Value.type "property"), none, (Data.fields #[(vr 663), Value.none, Value.none, Value.none, (vs "punctuation_chars" 1120), (Value.bool false)]), #[]⟩
noncomputable def k692 (P : Params) : Obj := ⟨(Value.type "code"), none, (Data.fields #[(vs "get_token" 1145), (vs "shlex.get_token" 1146), (vs "/claim/cut.py" 1147), (vi 543 0), (vi 1 0), (vi 0 0), (vi 0 0), (vi 3 0), (vr 687), (Value.bool true), (vi 318 0), (vr 688), Value.none, (vr 689), (vr 690), (vr 691), (vi 1154 0), (vi 543 0), (vs "/claim/cut.py" 1155)]), #[]⟩
noncomputable def k693 (P : Params) : Obj := ⟨(Value.type "function"), none, (Data.func (fnAt (clsDef 22 5) "get_token" "shlex.get_token" Value.none (vs "cpy313.shlex" 1087) (vr 692))), #[]⟩
noncomputable def k699 (P : Params) : Obj := ⟨(Value.type "code"), none, (Data.fields #[(vs "read_token" 1157), (vs "shlex.read_token" 1158), (vs "/claim/cut.py" 1159), (vi 570 0), (vi 1 0), (vi 0 0), (vi 0 0), (vi 3 0), (vr 694), (Value.bool true), (vi 318 0), (vr 695), Value.none, (vr 696), (vr 697), (vr 698), (vi 1165 0), (vi 570 0), (vs "/claim/cut.py" 1166)]), #[]⟩
noncomputable def k700 (P : Params) : Obj := ⟨(Value.type "function"), none, (Data.func (fnAt (clsDef 22 6) "read_token" "shlex.read_token" Value.none (vs "cpy313.shlex" 1087) (vr 699))), #[]⟩
noncomputable def k721 (P : Params) : Obj := ⟨(Value.type "code"), none, (Data.fields #[(vs "__iter__" 1185), (vs "shlex.__iter__" 1186), (vs "/claim/cut.py" 1187), (vi 717 0), (vi 1 0), (vi 0 0), (vi 0 0), (vi 3 0), (vr 716), (Value.bool true), (vi 318 0), (vr 717), Value.none, (vr 718), (vr 719), (vr 720), (vi 1189 0), (vi 717 0), (vs "/claim/cut.py" 1190)]), #[]⟩
noncomputable def k722 (P : Params) : Obj := ⟨(Value.type "function"), none, (Data.func (fnAt (clsDef 22 9) "__iter__" "shlex.__iter__" Value.none (vs "cpy313.shlex" 1087) (vr 721))), #[]⟩
noncomputable def k728 (P : Params) : Obj := ⟨(Value.type "code"), none, (Data.fields #[(vs "__next__" 1192), (vs "shlex.__next__" 1193), (vs "/claim/cut.py" 1194), (vi 720 0), (vi 1 0), (vi 0 0), (vi 0 0), (vi 3 0), (vr 723), (Value.bool true), (vi 318 0), (vr 724), Value.none, (vr 725), (vr 726), (vr 727), (vi 1197 0), (vi 720 0), (vs "/claim/cut.py" 1198)]), #[]⟩
noncomputable def k729 (P : Params) : Obj := ⟨(Value.type "function"), none, (Data.func (fnAt (clsDef 22 10) "__next__" "shlex.__next__" Value.none (vs "cpy313.shlex" 1087) (vr 728))), #[]⟩
noncomputable def k731 (P : Params) : Obj := ⟨(Value.type "dict"), none, (Data.dict #[en P "__module__" 1096 (vs "cpy313.shlex" 1087), en P "__firstlineno__" 1100 (vi 473 1099), en P "__init__" 1112 (vr 656), en P "punctuation_chars" 1120 (vr 664), en P "push_token" 1128 (vr 671), en P "push_source" 1137 (vr 679), en P "pop_source" 1144 (vr 686), en P "get_token" 1156 (vr 693), en P "read_token" 1167 (vr 700), en P "sourcehook" 1175 (vr 707), en P "error_leader" 1184 (vr 715), en P "__iter__" 1191 (vr 722), en P "__next__" 1199 (vr 729), en P "__static_attributes__" 1220 (vr 730), en P "__dict__" 1222 (vr 733), en P "__weakref__" 1224 (vr 734), en P "__doc__" 1225 Value.none] 4), #[]⟩
noncomputable def k732 (P : Params) : Obj := ⟨(Value.type "type"), none, (Data.cls ⟨Str.ofString "shlex", [(Value.type "object")], [(vr 732), (Value.type "object")], 731, Str.ofString "shlex", true, [], [], false, none, false⟩), #[none, none, some (vs "shlex" 1089), some (vs "shlex" 1097), some (Value.builtin "object.__new__"), some (Value.bool true)]⟩
noncomputable def k733 (P : Params) : Obj := ⟨(Value.type "getset_descriptor"), none, (Data.fields #[(vs "__dict__" 1221), (vr 732), (Value.builtin "function.__dict__"), (Value.builtin "function.__dict__#set")]), #[]⟩
noncomputable def k734 (P : Params) : Obj := ⟨(Value.type "getset_descriptor"), none, (Data.fields #[(vs "__weakref__" 1223), (vr 732), (Value.builtin "ExceptionGroup.__weakref__"), Value.none]), #[]⟩
noncomputable def k737 (P : Params) : Obj := ⟨(Value.type "tuple"), none, (Data.seq #[(Value.bool false), (Value.bool true)] 0), #[]⟩
noncomputable def k743 (P : Params) : Obj := ⟨(Value.type "code"), none, (Data.fields #[(vs "split" 1228), (vs "split" 1229), (vs "/claim/cut.py" 1230), (vi 725 0), (vi 3 0), (vi 0 0), (vi 0 0), (vi 3 0), (vr 738), (Value.bool true), (vi 318 0), (vr 739), Value.none, (vr 740), (vr 741), (vr 742), (vi 1235 0), (vi 725 0), (vs "/claim/cut.py" 1236)]), #[]⟩
noncomputable def k744 (P : Params) : Obj := ⟨(Value.type "function"), none, (Data.func (fnAt (topDef 23) "split" "split" (vr 737) (vs "cpy313.shlex" 1087) (vr 743))), #[]⟩
noncomputable def k750 (P : Params) : Obj := ⟨(Value.type "code"), none, (Data.fields #[(vs "join" 1238), (vs "join" 1239), (vs "/claim/cut.py" 1240), (vi 733 0), (vi 1 0), (vi 0 0), (vi 0 0), (vi 3 0), (vr 745), (Value.bool true), (vi 318 0), (vr 746), Value.none, (vr 747), (vr 748), (vr 749), (vi 1242 0), (vi 733 0), (vs "/claim/cut.py" 1243)]), #[]⟩
noncomputable def k751 (P : Params) : Obj := ⟨(Value.type "function"), none, (Data.func (fnAt (topDef 24) "join" "join" Value.none (vs "cpy313.shlex" 1087) (vr 750))), #[]⟩
noncomputable def k752 (P : Params) : Obj := ⟨(Value.type "builtin_function_or_method"), none, (Data.fields #[(Value.builtin "re.Pattern.search"), (vr 49)]), #[]⟩
noncomputable def k758 (P : Params) : Obj := ⟨(Value.type "code"), none, (Data.fields #[(vs "quote" 1248), (vs "quote" 1249), (vs "/claim/cut.py" 1250), (vi 737 0), (vi 1 0), (vi 0 0), (vi 0 0), (vi 3 0), (vr 753), (Value.bool true), (vi 318 0), (vr 754), Value.none, (vr 755), (vr 756), (vr 757), (vi 1252 0), (vi 737 0), (vs "/claim/cut.py" 1253)]), #[]⟩
noncomputable def k759 (P : Params) : Obj := ⟨(Value.type "function"), none, (Data.func (fnAt (topDef 27) "quote" "quote" Value.none (vs "cpy313.shlex" 1087) (vr 758))), #[]⟩
noncomputable def k765 (P : Params) : Obj := ⟨(Value.type "code"), none, (Data.fields #[(vs "S_IFMT" 1257), (vs "S_IFMT" 1258), (vs "/claim/cut.py" 1259), (vi 744 0), (vi 1 0), (vi 0 0), (vi 0 0), (vi 3 0), (vr 760), (Value.bool true), (vi 318 0), (vr 761), Value.none, (vr 762), (vr 763), (vr 764), (vi 1261 0), (vi 744 0), (vs "/claim/cut.py" 1262)]), #[]⟩
noncomputable def k766 (P : Params) : Obj := ⟨(Value.type "function"), none, (Data.func (fnAt (topDef 29) "S_IFMT" "S_IFMT" Value.none (vs "cpy313.stat" 1255) (vr 765))), #[]⟩
noncomputable def k772 (P : Params) : Obj := ⟨(Value.type "code"), none, (Data.fields #[(vs "S_ISDIR" 1278), (vs "S_ISDIR" 1279), (vs "/claim/cut.py" 1280), (vi 753 0), (vi 1 0), (vi 0 0), (vi 0 0), (vi 3 0), (vr 767), (Value.bool true), (vi 318 0), (vr 768), Value.none, (vr 769), (vr 770), (vr 771), (vi 1282 0), (vi 753 0), (vs "/claim/cut.py" 1283)]), #[]⟩
noncomputable def k773 (P : Params) : Obj := ⟨(Value.type "function"), none, (Data.func (fnAt (topDef 37) "S_ISDIR" "S_ISDIR" Value.none (vs "cpy313.stat" 1255) (vr 772))), #[]⟩
noncomputable def k779 (P : Params) : Obj := ⟨(Value.type "code"), none, (Data.fields #[(vs "S_ISLNK" 1285), (vs "S_ISLNK" 1286), (vs "/claim/cut.py" 1287), (vi 755 0), (vi 1 0), (vi 0 0), (vi 0 0), (vi 3 0), (vr 774), (Value.bool true), (vi 318 0), (vr 775), Value.none, (vr 776), (vr 777), (vr 778), (vi 1289 0), (vi 755 0), (vs "/claim/cut.py" 1290)]), #[]⟩
noncomputable def k780 (P : Params) : Obj := ⟨(Value.type "function"), none, (Data.func (fnAt (topDef 38) "S_ISLNK" "S_ISLNK" Value.none (vs "cpy313.stat" 1255) (vr 779))), #[]⟩
noncomputable def k781 (P : Params) : Obj := ⟨(Value.type "tuple"), none, (Data.seq #[(vi 40960 1274), (vs "l" 1316)] 0), #[]⟩
noncomputable def k782 (P : Params) : Obj := ⟨(Value.type "tuple"), none, (Data.seq #[(vi 49152 1276), (vs "s" 1317)] 0), #[]⟩
noncomputable def k783 (P : Params) : Obj := ⟨(Value.type "tuple"), none, (Data.seq #[(vi 32768 1270), (vs "-" 1318)] 0), #[]⟩
noncomputable def k784 (P : Params) : Obj := ⟨(Value.type "tuple"), none, (Data.seq #[(vi 24576 1268), (vs "b" 1319)] 0), #[]⟩
noncomputable def k785 (P : Params) : Obj := ⟨(Value.type "tuple"), none, (Data.seq #[(vi 16384 1264), (vs "d" 1320)] 0), #[]⟩
noncomputable def k786 (P : Params) : Obj := ⟨(Value.type "tuple"), none, (Data.seq #[(vi 8192 1266), (vs "c" 1321)] 0), #[]⟩
noncomputable def k787 (P : Params) : Obj := ⟨(Value.type "tuple"), none, (Data.seq #[(vi 4096 1272), (vs "p" 1322)] 0), #[]⟩
noncomputable def k788 (P : Params) : Obj := ⟨(Value.type "tuple"), none, (Data.seq #[(vr 781), (vr 782), (vr 783), (vr 784), (vr 785), (vr 786), (vr 787)] 0), #[]⟩
noncomputable def k789 (P : Params) : Obj := ⟨(Value.type "tuple"), none, (Data.seq #[(vi 256 1298), (vs "r" 1323)] 0), #[]⟩
noncomputable def k790 (P : Params) : Obj := ⟨(Value.type "tuple"), none, (Data.seq #[(vr 789)] 0), #[]⟩
noncomputable def k791 (P : Params) : Obj := ⟨(Value.type "tuple"), none, (Data.seq #[(vi 128 1300), (vs "w" 1324)] 0), #[]⟩
noncomputable def k792 (P : Params) : Obj := ⟨(Value.type "tuple"), none, (Data.seq #[(vr 791)] 0), #[]⟩
noncomputable def k793 (P : Params) : Obj := ⟨(Value.type "tuple"), none, (Data.seq #[(vi 2112 1325), (vs "s" 1326)] 0), #[]⟩
noncomputable def k794 (P : Params) : Obj := ⟨(Value.type "tuple"), none, (Data.seq #[(vi 2048 1292), (vs "S" 1327)] 0), #[]⟩
noncomputable def k795 (P : Params) : Obj := ⟨(Value.type "tuple"), none, (Data.seq #[(vi 64 1302), (vs "x" 1328)] 0), #[]⟩
noncomputable def k796 (P : Params) : Obj := ⟨(Value.type "tuple"), none, (Data.seq #[(vr 793), (vr 794), (vr 795)] 0), #[]⟩
noncomputable def k797 (P : Params) : Obj := ⟨(Value.type "tuple"), none, (Data.seq #[(vi 32 1304), (vs "r" 1329)] 0), #[]⟩
noncomputable def k798 (P : Params) : Obj := ⟨(Value.type "tuple"), none, (Data.seq #[(vr 797)] 0), #[]⟩
noncomputable def k799 (P : Params) : Obj := ⟨(Value.type "tuple"), none, (Data.seq #[(vi 16 1306), (vs "w" 1330)] 0), #[]⟩
noncomputable def k800 (P : Params) : Obj := ⟨(Value.type "tuple"), none, (Data.seq #[(vr 799)] 0), #[]⟩
noncomputable def k801 (P : Params) : Obj := ⟨(Value.type "tuple"), none, (Data.seq #[(vi 1032 1331), (vs "s" 1332)] 0), #[]⟩
noncomputable def k802 (P : Params) : Obj := ⟨(Value.type "tuple"), none, (Data.seq #[(vi 1024 1294), (vs "S" 1333)] 0), #[]⟩
noncomputable def k803 (P : Params) : Obj := ⟨(Value.type "tuple"), none, (Data.seq #[(vi 8 1308), (vs "x" 1334)] 0), #[]⟩
noncomputable def k804 (P : Params) : Obj := ⟨(Value.type "tuple"), none, (Data.seq #[(vr 801), (vr 802), (vr 803)] 0), #[]⟩
noncomputable def k805 (P : Params) : Obj := ⟨(Value.type "tuple"), none, (Data.seq #[(vi 4 1310), (vs "r" 1335)] 0), #[]⟩
noncomputable def k806 (P : Params) : Obj := ⟨(Value.type "tuple"), none, (Data.seq #[(vr 805)] 0), #[]⟩
noncomputable def k807 (P : Params) : Obj := ⟨(Value.type "tuple"), none, (Data.seq #[(vi 2 1312), (vs "w" 1336)] 0), #[]⟩
noncomputable def k808 (P : Params) : Obj := ⟨(Value.type "tuple"), none, (Data.seq #[(vr 807)] 0), #[]⟩
noncomputable def k809 (P : Params) : Obj := ⟨(Value.type "tuple"), none, (Data.seq #[(vi 513 1337), (vs "t" 1338)] 0), #[]⟩
noncomputable def k810 (P : Params) : Obj := ⟨(Value.type "tuple"), none, (Data.seq #[(vi 512 1296), (vs "T" 1339)] 0), #[]⟩
noncomputable def k811 (P : Params) : Obj := ⟨(Value.type "tuple"), none, (Data.seq #[(vi 1 1314), (vs "x" 1340)] 0), #[]⟩
noncomputable def k812 (P : Params) : Obj := ⟨(Value.type "tuple"), none, (Data.seq #[(vr 809), (vr 810), (vr 811)] 0), #[]⟩
noncomputable def k813 (P : Params) : Obj := ⟨(Value.type "tuple"), none, (Data.seq #[(vr 788), (vr 790), (vr 792), (vr 796), (vr 798), (vr 800), (vr 804), (vr 806), (vr 808), (vr 812)] 0), #[]⟩
noncomputable def k819 (P : Params) : Obj := ⟨(Value.type "code"), none, (Data.fields #[(vs "filemode" 1342), (vs "filemode" 1343), (vs "/claim/cut.py" 1344), (vi 770 0), (vi 1 0), (vi 0 0), (vi 0 0), (vi 3 0), (vr 814), (Value.bool true), (vi 318 0), (vr 815), Value.none, (vr 816), (vr 817), (vr 818), (vi 1351 0), (vi 770 0), (vs "/claim/cut.py" 1352)]), #[]⟩
noncomputable def k820 (P : Params) : Obj := ⟨(Value.type "function"), none, (Data.func (fnAt (topDef 52) "filemode" "filemode" Value.none (vs "cpy313.stat" 1255) (vr 819))), #[]⟩
noncomputable def k826 (P : Params) : Obj := ⟨(Value.type "code"), none, (Data.fields #[(vs "_law_target" 1356), (vs "_law_target" 1357), (vs "/claim/cut.py" 1358), (vi 788 0), (vi 1 0), (vi 0 0), (vi 0 0), (vi 3 0), (vr 821), (Value.bool true), (vi 318 0), (vr 822), Value.none, (vr 823), (vr 824), (vr 825), (vi 1361 0), (vi 788 0), (vs "/claim/cut.py" 1362)]), #[]⟩
noncomputable def k827 (P : Params) : Obj := ⟨(Value.type "function"), none, (Data.func (fnAt (topDef 54) "_law_target" "_law_target" Value.none (vs "law_mr0361_01" 1354) (vr 826))), #[]⟩
noncomputable def k833 (P : Params) : Obj := ⟨(Value.type "code"), none, (Data.fields #[(vs "_law_tree" 1364), (vs "_law_tree" 1365), (vs "/claim/cut.py" 1366), (vi 791 0), (vi 1 0), (vi 0 0), (vi 0 0), (vi 3 0), (vr 828), (Value.bool true), (vi 318 0), (vr 829), Value.none, (vr 830), (vr 831), (vr 832), (vi 1373 0), (vi 791 0), (vs "/claim/cut.py" 1374)]), #[]⟩
noncomputable def k834 (P : Params) : Obj := ⟨(Value.type "function"), none, (Data.func (fnAt (topDef 55) "_law_tree" "_law_tree" Value.none (vs "law_mr0361_01" 1354) (vr 833))), #[]⟩
noncomputable def k840 (P : Params) : Obj := ⟨(Value.type "code"), none, (Data.fields #[(vs "_law_line" 1376), (vs "_law_line" 1377), (vs "/claim/cut.py" 1378), (vi 810 0), (vi 1 0), (vi 0 0), (vi 0 0), (vi 3 0), (vr 835), (Value.bool true), (vi 318 0), (vr 836), Value.none, (vr 837), (vr 838), (vr 839), (vi 1382 0), (vi 810 0), (vs "/claim/cut.py" 1383)]), #[]⟩
noncomputable def k841 (P : Params) : Obj := ⟨(Value.type "function"), none, (Data.func (fnAt (topDef 56) "_law_line" "_law_line" Value.none (vs "law_mr0361_01" 1354) (vr 840))), #[]⟩
noncomputable def k847 (P : Params) : Obj := ⟨(Value.type "code"), none, (Data.fields #[(vs "_law_signs" 1385), (vs "_law_signs" 1386), (vs "/claim/cut.py" 1387), (vi 819 0), (vi 1 0), (vi 0 0), (vi 0 0), (vi 3 0), (vr 842), (Value.bool true), (vi 318 0), (vr 843), Value.none, (vr 844), (vr 845), (vr 846), (vi 1393 0), (vi 819 0), (vs "/claim/cut.py" 1394)]), #[]⟩
noncomputable def k848 (P : Params) : Obj := ⟨(Value.type "function"), none, (Data.func (fnAt (topDef 57) "_law_signs" "_law_signs" Value.none (vs "law_mr0361_01" 1354) (vr 847))), #[]⟩
noncomputable def k852 (P : Params) : Obj := ⟨(Value.type "code"), none, (Data.fields #[(vs "_law_told" 1396), (vs "_law_told" 1397), (vs "/claim/cut.py" 1398), (vi 826 0), (vi 2 0), (vi 0 0), (vi 0 0), (vi 3 0), (vr 849), (Value.bool true), (vi 318 0), (vr 850), Value.none, Value.none, Value.none, (vr 851), (vi 1399 0), (vi 826 0), (vs "/claim/cut.py" 1400)]), #[]⟩
noncomputable def k853 (P : Params) : Obj := ⟨(Value.type "function"), none, (Data.func (fnAt (topDef 58) "_law_told" "_law_told" Value.none (vs "law_mr0361_01" 1354) (vr 852))), #[]⟩
noncomputable def k859 (P : Params) : Obj := ⟨(Value.type "code"), none, (Data.fields #[(vs "_law_number" 1402), (vs "_law_number" 1403), (vs "/claim/cut.py" 1404), (vi 842 0), (vi 1 0), (vi 0 0), (vi 0 0), (vi 3 0), (vr 854), (Value.bool true), (vi 318 0), (vr 855), Value.none, (vr 856), (vr 857), (vr 858), (vi 1409 0), (vi 842 0), (vs "/claim/cut.py" 1410)]), #[]⟩
noncomputable def k860 (P : Params) : Obj := ⟨(Value.type "function"), none, (Data.func (fnAt (topDef 59) "_law_number" "_law_number" Value.none (vs "law_mr0361_01" 1354) (vr 859))), #[]⟩
noncomputable def k866 (P : Params) : Obj := ⟨(Value.type "code"), none, (Data.fields #[(vs "_law_read" 1412), (vs "_law_read" 1413), (vs "/claim/cut.py" 1414), (vi 851 0), (vi 1 0), (vi 0 0), (vi 0 0), (vi 3 0), (vr 861), (Value.bool true), (vi 318 0), (vr 862), Value.none, (vr 863), (vr 864), (vr 865), (vi 1420 0), (vi 851 0), (vs "/claim/cut.py" 1421)]), #[]⟩
noncomputable def k867 (P : Params) : Obj := ⟨(Value.type "function"), none, (Data.func (fnAt (topDef 60) "_law_read" "_law_read" Value.none (vs "law_mr0361_01" 1354) (vr 866))), #[]⟩
noncomputable def k873 (P : Params) : Obj := ⟨(Value.type "code"), none, (Data.fields #[(vs "_law_known" 1423), (vs "_law_known" 1424), (vs "/claim/cut.py" 1425), (vi 869 0), (vi 1 0), (vi 0 0), (vi 0 0), (vi 3 0), (vr 868), (Value.bool true), (vi 318 0), (vr 869), Value.none, (vr 870), (vr 871), (vr 872), (vi 1429 0), (vi 869 0), (vs "/claim/cut.py" 1430)]), #[]⟩
noncomputable def k874 (P : Params) : Obj := ⟨(Value.type "function"), none, (Data.func (fnAt (topDef 61) "_law_known" "_law_known" Value.none (vs "law_mr0361_01" 1354) (vr 873))), #[]⟩
noncomputable def k880 (P : Params) : Obj := ⟨(Value.type "code"), none, (Data.fields #[(vs "law" 1432), (vs "law" 1433), (vs "/claim/cut.py" 1434), (vi 878 0), (vi 1 0), (vi 0 0), (vi 0 0), (vi 3 0), (vr 875), (Value.bool true), (vi 318 0), (vr 876), Value.none, (vr 877), (vr 878), (vr 879), (vi 1438 0), (vi 878 0), (vs "/claim/cut.py" 1439)]), #[]⟩
noncomputable def k881 (P : Params) : Obj := ⟨(Value.type "function"), none, (Data.func (fnAt (topDef 62) "law" "law" Value.none (vs "law_mr0361_01" 1354) (vr 880))), #[]⟩
noncomputable def KK (P : Params) : Frag := (nat_lit 2, k2 P) :: (nat_lit 3, k3 P) :: (nat_lit 48, k48 P) :: (nat_lit 49, k49 P) :: (nat_lit 62, k62 P) :: (nat_lit 63, k63 P) :: (nat_lit 89, k89 P) :: (nat_lit 90, k90 P) :: (nat_lit 92, k92 P) :: (nat_lit 93, k93 P) :: (nat_lit 94, k94 P) :: (nat_lit 119, k119 P) :: (nat_lit 120, k120 P) :: (nat_lit 350, k350 P) :: (nat_lit 360, k360 P) :: (nat_lit 366, k366 P) :: (nat_lit 367, k367 P) :: (nat_lit 373, k373 P) :: (nat_lit 374, k374 P) :: (nat_lit 380, k380 P) :: (nat_lit 381, k381 P) :: (nat_lit 536, k536 P) :: (nat_lit 542, k542 P) :: (nat_lit 543, k543 P) :: (nat_lit 596, k596 P) :: (nat_lit 597, k597 P) :: (nat_lit 649, k649 P) :: (nat_lit 655, k655 P) :: (nat_lit 656, k656 P) :: (nat_lit 662, k662 P) :: (nat_lit 663, k663 P) :: (nat_lit 664, k664 P) :: (nat_lit 692, k692 P) :: (nat_lit 693, k693 P) :: (nat_lit 699, k699 P) :: (nat_lit 700, k700 P) :: (nat_lit 721, k721 P) :: (nat_lit 722, k722 P) :: (nat_lit 728, k728 P) :: (nat_lit 729, k729 P) :: (nat_lit 731, k731 P) :: (nat_lit 732, k732 P) :: (nat_lit 733, k733 P) :: (nat_lit 734, k734 P) :: (nat_lit 737, k737 P) :: (nat_lit 743, k743 P) :: (nat_lit 744, k744 P) :: (nat_lit 750, k750 P) :: (nat_lit 751, k751 P) :: (nat_lit 752, k752 P) :: (nat_lit 758, k758 P) :: (nat_lit 759, k759 P) :: (nat_lit 765, k765 P) :: (nat_lit 766, k766 P) :: (nat_lit 772, k772 P) :: (nat_lit 773, k773 P) :: (nat_lit 779, k779 P) :: (nat_lit 780, k780 P) :: (nat_lit 781, k781 P) :: (nat_lit 782, k782 P) :: (nat_lit 783, k783 P) :: (nat_lit 784, k784 P) :: (nat_lit 785, k785 P) :: (nat_lit 786, k786 P) :: (nat_lit 787, k787 P) :: (nat_lit 788, k788 P) :: (nat_lit 789, k789 P) :: (nat_lit 790, k790 P) :: (nat_lit 791, k791 P) :: (nat_lit 792, k792 P) :: (nat_lit 793, k793 P) :: (nat_lit 794, k794 P) :: (nat_lit 795, k795 P) :: (nat_lit 796, k796 P) :: (nat_lit 797, k797 P) :: (nat_lit 798, k798 P) :: (nat_lit 799, k799 P) :: (nat_lit 800, k800 P) :: (nat_lit 801, k801 P) :: (nat_lit 802, k802 P) :: (nat_lit 803, k803 P) :: (nat_lit 804, k804 P) :: (nat_lit 805, k805 P) :: (nat_lit 806, k806 P) :: (nat_lit 807, k807 P) :: (nat_lit 808, k808 P) :: (nat_lit 809, k809 P) :: (nat_lit 810, k810 P) :: (nat_lit 811, k811 P) :: (nat_lit 812, k812 P) :: (nat_lit 813, k813 P) :: (nat_lit 819, k819 P) :: (nat_lit 820, k820 P) :: (nat_lit 826, k826 P) :: (nat_lit 827, k827 P) :: (nat_lit 833, k833 P) :: (nat_lit 834, k834 P) :: (nat_lit 840, k840 P) :: (nat_lit 841, k841 P) :: (nat_lit 847, k847 P) :: (nat_lit 848, k848 P) :: (nat_lit 852, k852 P) :: (nat_lit 853, k853 P) :: (nat_lit 859, k859 P) :: (nat_lit 860, k860 P) :: (nat_lit 866, k866 P) :: (nat_lit 867, k867 P) :: (nat_lit 873, k873 P) :: (nat_lit 874, k874 P) :: (nat_lit 880, k880 P) :: (nat_lit 881, k881 P) :: []
noncomputable def kAs : List Addr := [2, 3, 48, 49, 62, 63, 89, 90, 92, 93, 94, 119, 120, 350, 360, 366, 367, 373, 374, 380, 381, 536, 542, 543, 596, 597, 649, 655, 656, 662, 663, 664, 692, 693, 699, 700, 721, 722, 728, 729, 731, 732, 733, 734, 737, 743, 744, 750, 751, 752, 758, 759, 765, 766, 772, 773, 779, 780, 781, 782, 783, 784, 785, 786, 787, 788, 789, 790, 791, 792, 793, 794, 795, 796, 797, 798, 799, 800, 801, 802, 803, 804, 805, 806, 807, 808, 809, 810, 811, 812, 813, 819, 820, 826, 827, 833, 834, 840, 841, 847, 848, 852, 853, 859, 860, 866, 867, 873, 874, 880, 881]
end
section
section
variable {w : World} {p : Program} {loose : List Str} {mg mb : Str → Option Value}

theorem kk_lt : ∀ P, ((KK P).all fun q => Nat.blt q.1 882) = true := fun P => rfl

theorem hide_stays {H h : Heap} {news : List (Addr × Obj)} (hH : H.StaysIn h) (hN : ∀ q ∈ news, H.get? q.1 = none) : H.StaysIn (hideAll h (news.map (·.1))) := fun b o e =>
  hideAll_get _ (hH b o e) fun q => by
    obtain ⟨x, hx, rfl⟩ := List.mem_map.mp q
    rw [hN x hx] at e; cases e

theorem enterN {A : Around} {s : Shared} {H : Heap} {news : List (Addr × Obj)} {R : Result → Shared → Prop} {name qual : Str} {params : Arguments} {body : List Stmt} {scope : Scope} {dV kV doc pm cdv ct oc : Value} {an od : Option Addr} {osl : Array (Option Value)} {f : Addr} {args : Args} {binds : List (Str × Value)}
    (hH : H.StaysIn s.heap) (X : (KK w.params).In H) (T : TopRead p loose mg mb H) (hN : ∀ q ∈ news, s.heap.get? q.1 = some q.2 ∧ H.get? q.1 = none)
    (ho : (KK w.params).lookup f = some ⟨oc, od, .func (fnOf name qual params body scope dV kV doc pm an cdv ct), osl⟩) (hcd : codeIn (KK w.params) cdv qual = true) (hroom : A.depth < recursionLimit)
    (hbind : BindsTo s (fnOf name qual params body scope dV kV doc pm an cdv ct) args binds) (hloc : ∀ y ∈ binds, scope.names.lookup y.1 = some .local)
    (h : ∀ g L' h₁, H.StaysIn g → (∀ b o, s.heap.get? b = some o → b ∉ news.map (·.1) → g.get? b = some o) → Fr g L' h₁ (fun y => binds.reverse.lookup y) → News g L' h₁ news → (KK w.params).In g → TopRead p loose mg mb g → (∀ q ∈ news, q.1 < L') →
      wpAny (model PySem.Challenge.rw_mr0361_01.prog w) (A.deeper (envOf qual scope L' f cdv)) (execs body (envOf qual scope L' f cdv))
        (fun fl s' => R (.ok (.ret (match fl with | .ret v => v | _ => .none))) s')
        (fun e s' => wpAny (model PySem.Challenge.rw_mr0361_01.prog w) (A.deeper (envOf qual scope L' f cdv)) (leaving (envOf qual scope L' f cdv) e) (fun _ s'' => R (.error e) s'') (fun e' s'' => R (.error e') s'') s')
        { s with heap := h₁, toks := s.toks + binds.length })
    (hco : scope.isCoroutine = false) (hgen : scope.isGenerator = false) (hk : scope.kind = .function)
    (hcell : ∀ x ∈ scope.names, x.2 ≠ .cell) : codeAny (model PySem.Challenge.rw_mr0361_01.prog w) A (.call (.ref f) args) R s := by
  have Xs := X.keeps hH
  refine codeAny_call_def (fd := fnOf name qual params body scope dV kV doc pm an cdv ct) (body := body) (binds := binds) hroom (Xs _ _ ho) rfl (T.nolimit.keeps hH) (codeRec_of Xs hcd) rfl hbind hcell hloc (fun h₁ hns hk₁ => ?_) hco hgen hk
  have st := hide_stays (news := news) hH fun q hq => (hN q hq).2
  exact h (hideAll s.heap (news.map (·.1))) s.heap.objs.size h₁ st (fun b o e nm => hideAll_get _ e nm) ⟨hns, fun b o e => hk₁ b o (of_hideAll _ e), Nat.le_of_eq (hideAll_size _ _)⟩
    (fun q hq => ⟨hk₁ _ _ (hN q hq).1, Nat.ne_of_lt (Heap.lt_size (hN q hq).1), hideAll_none _ (List.mem_map_of_mem hq)⟩) (Frag.In.keeps (h' := hideAll s.heap (news.map fun (q : Addr × Obj) => q.1)) X st) (TopRead.keeps (h' := hideAll s.heap (news.map fun (q : Addr × Obj) => q.1)) T st) (fun q hq => Heap.lt_size (hN q hq).1)

/-- a contract: the call ends with a value that post says, all that stood stands -/
noncomputable def Pure (w : World) (p : Program) (loose : List Str) (mg mb : Str → Option Value) (f : Addr) (vs : List Value) (d u : Nat) (post : Value → Prop) : Prop :=
  ∀ (A : Around) (s : Shared) (Q E : Value → Shared → Prop) (H : Heap), H.StaysIn s.heap → (KK w.params).In H → TopRead p loose mg mb H → A.handled = none → A.depth + d < recursionLimit → A.units + u < cLine →
    (∀ r h' tk', s.heap.StaysIn h' → post r → Q r { s with heap := h', toks := tk' }) → wpAny (model PySem.Challenge.rw_mr0361_01.prog w) A (call (.ref f) vs) Q E s

theorem Pure.of_body {f : Addr} {vs : List Value} {d u : Nat} {post : Value → Prop} {st st1 : Stmt} {rest : List Stmt} {name qual : String} {dV pm cdv : Value} {kd : ScopeKind} {names : List (Str × NameKind)} {ig ic : Bool} {more : List (Str × Const)} (binds : List (Str × Value))
    (ho : (KK w.params).lookup f = some ⟨.type "function", none, .func (fnAt st name qual dV pm cdv), #[]⟩) (hcd : codeIn (KK w.params) cdv (Str.ofString qual) = true)
    (hbody : dBody st = st1 :: rest) (hscope : dScope st = ⟨kd, names, ig, ic, more⟩)
    (hbind : bindArgs (fnAt st name qual dV pm cdv) ⟨vs, []⟩ = pure binds) (hloc : (binds.all fun x => decide (names.lookup x.1 = some .local)) = true)
    (hco : ic = false) (hgen : ig = false) (hk : kd = .function) (hd : 0 < d)
    (hcell : (names.all fun x => decide (x.2 ≠ .cell)) = true)
    (h : ∀ (A : Around) (g : Heap) (L : Addr) (s : Shared) (Q : Flow → Shared → Prop), Fr g L s.heap (fun y => binds.reverse.lookup y) → News g L s.heap [] → (KK w.params).In g → TopRead p loose mg mb g → A.handled = none → A.depth + d < recursionLimit + 1 → A.units + u < cLine + 3 →
      (∀ v h' tk' m, Fr g L h' m → post v → Q (.ret v) { s with heap := h', toks := tk' }) →
      wpAny (model PySem.Challenge.rw_mr0361_01.prog w) A (execs (st1 :: rest) (envOf (Str.ofString qual) ⟨kd, names, ig, ic, more⟩ L f cdv)) Q (fun _ _ => False) s) : Pure w p loose mg mb f vs d u post := by
  intro A s Q E H hH X T hh hroom hun hret
  unfold fnAt at ho hbind
  rw [hbody, hscope] at ho hbind
  refine wpAny_call (enterN (news := []) hH X T (fun _ hq => nomatch hq) ho hcd (by omega) (BindsTo.of_eq hbind) (locs hloc) (fun g L' h₁ st hg F N X' T' _ => ?_) hco hgen hk (fun x hx => of_decide_eq_true (List.all_eq_true.mp hcell x hx)))
  refine wpAny_mono (h (A.deeper _) g L' _ _ F N X' T' hh (by show A.depth + 1 + d < _; omega) (by show A.units + 3 + u < _; omega) fun v h' tk' m F' hp => ?_) (fun _ _ q => q) fun _ _ q => q.elim
  exact hret v h' tk' (fun b o e => F'.keep b o (hg b o e (fun q => nomatch q))) hp
theorem fr_of_stays {g h h' : Heap} {L : Addr} {m : Str → Option Value} (F : Fr g L h m) (k : h.StaysIn h') : Fr g L h' m := ⟨F.ns.keeps k, fun b o e => k b o (F.keep b o e), F.above⟩
theorem news_of_stays {g h h' : Heap} {L : Addr} {news : List (Addr × Obj)} (N : News g L h news) (k : h.StaysIn h') : News g L h' news := fun q hq => ⟨k _ _ (N q hq).1, (N q hq).2⟩
theorem Pure.use {f : Addr} {vs : List Value} {d u : Nat} {post : Value → Prop} {A : Around} {s : Shared} {Q E : Value → Shared → Prop} {g : Heap} {L : Addr} {m : Str → Option Value} {news : List (Addr × Obj)}
    (C : Pure w p loose mg mb f vs d u post) (F : Fr g L s.heap m) (N : News g L s.heap news) (X : (KK w.params).In g) (T : TopRead p loose mg mb g) (hh : A.handled = none) (hd : A.depth + d < recursionLimit) (hu : A.units + u < cLine)
    (h : ∀ r h' tk', Fr g L h' m → News g L h' news → post r → Q r { s with heap := h', toks := tk' }) : wpAny (model PySem.Challenge.rw_mr0361_01.prog w) A (call (.ref f) vs) Q E s :=
  C A s Q E g F.keep X T hh hd hu fun r h' tk' k hp => h r h' tk' (fr_of_stays F k) (news_of_stays N k) hp
theorem kgo (P : Params → Frag) (_ : P = KK) : PySem.Challenge.rw_mr0361_01 = PySem.Challenge.rw_mr0361_01 := rfl
theorem ltne0 {a b : Nat} (h : a < b) : a ≠ b := Nat.ne_of_lt h
theorem gtne0 {a b : Nat} (h : b < a) : a ≠ b := Nat.ne_of_gt h
theorem ltneR0 {r : Prop} {a b : Nat} (h : a < b ∧ r) : a ≠ b := Nat.ne_of_lt h.1
theorem ltne1 {p0 : Prop} {a b : Nat} (h : p0 ∧ a < b) : a ≠ b := Nat.ne_of_lt h.2
theorem gtneR1 {p0 : Prop} {r : Prop} {a b : Nat} (h : p0 ∧ b < a ∧ r) : a ≠ b := Nat.ne_of_gt h.2.1
theorem gtneR2 {p0 p1 : Prop} {r : Prop} {a b : Nat} (h : p0 ∧ p1 ∧ b < a ∧ r) : a ≠ b := Nat.ne_of_gt h.2.2.1
theorem depn {a b c n : Nat} (h : max a (max (b + 1) c) < n + 1) : b < n :=
  Nat.lt_of_succ_lt_succ (Nat.lt_of_le_of_lt (Nat.le_trans (Nat.le_max_left _ _) (Nat.le_max_right _ _)) h)
theorem lit0 {a k K : Nat} (h : a ≤ k) (e : k ≤ K) : a ≤ K := Nat.le_trans h e
theorem lit1 {a k c K : Nat} (h : a ≤ k) (e : k + c ≤ K) : a + c ≤ K := Nat.le_trans (Nat.add_le_add_right h c) e
theorem room0 {a b c d : Nat} (h : a + b < d) (k : c ≤ b) : a + c < d := Nat.lt_of_le_of_lt (Nat.add_le_add_left k a) h
theorem room1 {a b c d : Nat} (h : a + b < d + 1) (k : c + 1 ≤ b) : a + c < d := Nat.lt_of_succ_lt_succ (Nat.lt_of_le_of_lt (Nat.add_le_add_left k a) h)
theorem room3 {a b c d : Nat} (h : a + b < d + 3) (k : c + 3 ≤ b) : a + c < d :=
  Nat.lt_of_succ_lt_succ (Nat.lt_of_succ_lt_succ (Nat.lt_of_succ_lt_succ (Nat.lt_of_le_of_lt (Nat.add_le_add_left k a) h)))
theorem room1n {a b b' c d : Nat} (h : a + (b' + b) < d + 1) (k : c + 1 ≤ b) : a + c < d := room1 h (Nat.le_trans k (Nat.le_add_left b b'))
theorem room3n {a b b' c d : Nat} (h : a + (b' + b) < d + 3) (k : c + 3 ≤ b) : a + c < d := room3 h (Nat.le_trans k (Nat.le_add_left b b'))
theorem all_cons {d r : Addr} {o : Obj} {l : List (Addr × Obj)} (h : r ≠ d) (h' : ∀ q ∈ l, q.1 ≠ d) : ∀ q ∈ (r, o) :: l, q.1 ≠ d := fun q hq => by
  rcases List.mem_cons.mp hq with rfl | hq
  · exact h
  · exact h' q hq
theorem room3m {a b c d k n : Nat} (h : a + (k * (n + 1) + b) < d + 3) (e : c + 3 ≤ k + b) : a + c < d :=
  room3 h (Nat.le_trans e (Nat.add_le_add_right (Nat.le_mul_of_pos_right k (Nat.succ_pos n)) b))
theorem room3mm {a b c d k n : Nat} (h : a + (k * (n + 1) + b) < d + 3) (e : c + 3 ≤ k + b) : a + (k * n + c) < d :=
  room3 h (by rw [Nat.mul_succ, Nat.add_assoc, Nat.add_assoc]; exact Nat.add_le_add_left e _)
theorem room1m {a b c d n : Nat} (h : a + (n + 1 + b) < d + 1) (e : c ≤ b) : a + (n + c) < d :=
  room1 h (by rw [Nat.add_right_comm]; exact Nat.add_le_add_left e _)
theorem eqle {a b k K : Nat} (e : b = a) (h : a ≤ k) (q : k ≤ K) : b ≤ K := Nat.le_trans (Nat.le_of_eq e) (Nat.le_trans h q)
theorem sz2 {a b A B K : Nat} (h : a ≤ A) (k : b ≤ B) (e : A + B ≤ K) : a + b ≤ K := Nat.le_trans (Nat.add_le_add h k) e
theorem post_abs {M : Model} {A : Around} {target : Expr} {env : Env} {v : Value} {body : List Stmt} {P : Flow → Shared → Prop} {E E' : Value → Shared → Prop} {s : Shared}
    (h : ∀ Qt : Flow → Shared → Prop, (∀ f s₃, P f s₃ → Qt f s₃) → wpAny M A (assign target env v) (fun _ s₂ => wpAny M A (execs body env) Qt E' s₂) E s) :
    wpAny M A (assign target env v) (fun _ s₂ => wpAny M A (execs body env) P E' s₂) E s := h P fun _ _ p => p
theorem execs_one {M : Model} {A : Around} {E : Value → Shared → Prop} {s : Shared} {env : Env} {st : Stmt} {Q : Flow → Shared → Prop} (h : wpAny M A (exec st env) Q E s) : wpAny M A (execs [st] env) Q E s :=
  wpAny_execs_cons (wpAny_mono h (fun f _ q => match f, q with
    | .next, q => wpAny_execs_nil q
    | .cont, q => q
    | .brk, q => q
    | .ret _, q => q) fun _ _ e => e)
end
end
section
section
variable {prog : Program} {w : World} {A : Around} {s : Shared} {env : Env} {g : Heap} {target : Expr} {body orelse : List Stmt} {Q : Flow → Shared → Prop}

/-- what a turn must leave -/
noncomputable def TurnPost (g : Heap) (L : Addr) (own : List (Addr × Obj)) (Jn : (Str → Option Value) → List (Addr × Obj) → Prop) (s : Shared) (Q : Flow → Shared → Prop) (f : Flow) (s₃ : Shared) : Prop :=
  match f with
  | .ret v => Q (.ret v) s₃
  | .brk => Q .next s₃
  | _ => ∃ h' tk m' news', s₃ = { s with heap := h', toks := tk } ∧ Fr g L h' m' ∧ News g L h' (own ++ news') ∧ (∀ q ∈ news', ∀ r ∈ own, q.1 ≠ r.1) ∧ Jn m' news'

theorem TurnPost.next {L : Addr} {own : List (Addr × Obj)} {Jn : (Str → Option Value) → List (Addr × Obj) → Prop} {h' : Heap} {tk : Nat} {m' : Str → Option Value} {news' : List (Addr × Obj)}
    (F : Fr g L h' m') (N : News g L h' (own ++ news')) (ho : ∀ q ∈ news', ∀ r ∈ own, q.1 ≠ r.1) (hJ : Jn m' news') : TurnPost g L own Jn s Q .next { s with heap := h', toks := tk } := ⟨h', tk, m', news', rfl, F, N, ho, hJ⟩
theorem TurnPost.cont {L : Addr} {own : List (Addr × Obj)} {Jn : (Str → Option Value) → List (Addr × Obj) → Prop} {h' : Heap} {tk : Nat} {m' : Str → Option Value} {news' : List (Addr × Obj)}
    (F : Fr g L h' m') (N : News g L h' (own ++ news')) (ho : ∀ q ∈ news', ∀ r ∈ own, q.1 ≠ r.1) (hJ : Jn m' news') : TurnPost g L own Jn s Q .cont { s with heap := h', toks := tk } := ⟨h', tk, m', news', rfl, F, N, ho, hJ⟩

theorem TurnPost.brk {L : Addr} {own : List (Addr × Obj)} {Jn : (Str → Option Value) → List (Addr × Obj) → Prop} {s₃ : Shared} (h : Q .next s₃) : TurnPost g L own Jn s Q .brk s₃ := h
theorem loop_master {R : Result → Shared → Prop} {I : Addr} {fp wr : List Addr} {n : Nat} {P Md : Nat → Value → Heap → Prop} {St : Nat → Heap → Prop} {m : Str → Option Value} {news : List (Addr × Obj)} (W : KTurns prog w A target I fp wr n P Md St)
    (hLf : env.locals ∉ fp) (hwr : ∀ b ∈ wr, g.get? b = none) (hfp : ∀ b ∈ fp, b ∈ wr ∨ ∃ o, g.get? b = some o) (hnw : ∀ p ∈ news, p.1 ∉ wr) (hst : St 0 s.heap) (F : Fr g env.locals s.heap m) (N : News g env.locals s.heap news)
    (J : Nat → (Str → Option Value) → List (Addr × Obj) → Prop) (h0 : J 0 m news)
    (step : ∀ i v m₁ news₁ h₁ tk₁ own, i < n → P i v h₁ → J i m₁ news₁ → own.map (·.1) = wr → (∀ q ∈ news₁, ∀ r ∈ own, q.1 ≠ r.1) → St (i + 1) h₁ →
      Fr g env.locals h₁ m₁ → News g env.locals h₁ (own ++ news₁) →
      wpAny (model prog w) A (assign target env v) (fun _ s₂ => wpAny (model prog w) A (execs body env) (TurnPost g env.locals own (J (i + 1)) s fun f s' => R (.ok f) s') (fun _ _ => False) s₂) (fun _ _ => False) { s with heap := h₁, toks := tk₁ })
    (done : ∀ h' tk m' news', Fr g env.locals h' m' → News g env.locals h' news' → (∀ p ∈ news', p.1 ∉ wr) → J n m' news' → wpAny (model prog w) A (execs orelse env) (fun f s' => R (.ok f) s') (fun _ _ => False) { s with heap := h', toks := tk })
    (alive : ∀ i h, St i h → ∀ b ∈ wr, ∃ o, h.get? b = some o) :
    codeAny (model prog w) A (.forLoop target (.ref I) body orelse env) R s := by
  have hLw : env.locals ∉ wr := fun h => hLf (W.sub _ h)
  have old : ∀ b o, g.get? b = some o → b ∉ wr := fun b o e hb => by rw [hwr b hb] at e; cases e
  refine codeAny_forLoop_any
    (fun k s' => ∃ h' tk m' news' i, s' = { s with heap := h', toks := tk } ∧ St i h' ∧ Fr g env.locals h' m' ∧ News g env.locals h' news' ∧ (∀ p ∈ news', p.1 ∉ wr) ∧ J i m' news' ∧ i ≤ n ∧ k = n + 1 - i) ?_ (n + 1)
    ⟨s.heap, s.toks, m, news, 0, rfl, hst, F, N, hnw, h0, Nat.zero_le _, rfl⟩
  rintro k s' ⟨h', tk, m', news', i, rfl, hst', F', N', hnw', hJ, hi, rfl⟩
  have next : ∀ h₁ : Heap, (∀ b o, b ∉ wr → h'.get? b = some o → h₁.get? b = some o) → Fr g env.locals h₁ m' ∧ News g env.locals h₁ news' := fun h₁ hk₁ =>
    ⟨⟨F'.ns.at' fun o e => hk₁ _ o hLw e, fun b o e => hk₁ b o (old b o e) (F'.keep b o e), F'.above⟩, fun p hp => ⟨hk₁ _ _ (hnw' p hp) (N' p hp).1, (N' p hp).2⟩⟩
  by_cases hlt : i < n
  · refine W.item i _ _ _ hlt hst' fun v h₁ tk₁ hMd hk₁ => ?_
    refine W.go i v _ _ _ hMd fun h₂ hP hst₂ hk₂ => ?_
    obtain ⟨F₂, N₂⟩ := next h₂ fun b o hb x => hk₂ b o hb (hk₁ b o hb x)
    have hal := alive _ _ hst₂
    have exo : ∀ l : List Addr, (∀ b ∈ l, b ∈ wr) → ∃ own : List (Addr × Obj), own.map (·.1) = l ∧ News g env.locals h₂ own := by
      intro l
      induction l with
      | nil => exact fun _ => ⟨[], rfl, News.nil⟩
      | cons b l ih =>
        intro hl
        obtain ⟨own, e1, e2⟩ := ih fun x hx => hl x (.tail _ hx)
        have hb := hl b (.head _)
        obtain ⟨o, ho⟩ := hal b hb
        refine ⟨(b, o) :: own, by rw [List.map_cons, e1], fun q hq => ?_⟩
        rcases List.mem_cons.mp hq with rfl | hq
        · exact ⟨ho, fun e => hLw (e ▸ hb), hwr b hb⟩
        · exact e2 q hq
    obtain ⟨own, hown, Nown⟩ := exo wr fun _ h => h
    have hoff : ∀ q ∈ news', ∀ r ∈ own, q.1 ≠ r.1 := fun q hq r hr e => hnw' q hq (by rw [← hown, e]; exact List.mem_map_of_mem hr)
    have fin : ∀ s₃, (∃ h₃ tk m₃ news₃, s₃ = { s with heap := h₃, toks := tk } ∧ Fr g env.locals h₃ m₃ ∧ News g env.locals h₃ (own ++ news₃) ∧ (∀ q ∈ news₃, ∀ r ∈ own, q.1 ≠ r.1) ∧ J (i + 1) m₃ news₃) →
        ∃ m, m < n + 1 - i ∧ ∃ h' tk m' news' i', s₃ = { s with heap := h', toks := tk } ∧ St i' h' ∧ Fr g env.locals h' m' ∧ News g env.locals h' news' ∧ (∀ p ∈ news', p.1 ∉ wr) ∧ J i' m' news' ∧ i' ≤ n ∧ m = n + 1 - i' := by
      rintro s₃ ⟨h₃, tk₃, m₃, news₃, rfl, F₃, N₃, ho₃, hJ₃⟩
      refine ⟨n + 1 - (i + 1), by omega, h₃, tk₃, m₃, news₃, i + 1, rfl, ?_, F₃, N₃.right, fun q hq hw => ?_, hJ₃, hlt, rfl⟩
      · refine W.frame _ _ _ hst₂ fun b hb o e => ?_
        rcases hfp b hb with hw | ⟨o₀, h₀⟩
        · rw [← hown] at hw
          obtain ⟨r, hr, rfl⟩ := List.mem_map.mp hw
          have h1 := (Nown r hr).1
          have h2 := (N₃ r (List.mem_append_left _ hr)).1
          rw [e] at h1
          rw [h2]; exact h1.symm
        · have q := F₂.keep b o₀ h₀
          rw [e] at q
          exact (Option.some.inj q) ▸ F₃.keep b o₀ h₀
      · rw [← hown] at hw
        obtain ⟨r, hr, e⟩ := List.mem_map.mp hw
        exact ho₃ q hq r hr e.symm
    refine wpAny_mono (step i v m' news' h₂ tk₁ own hlt hP hJ hown hoff hst₂ F₂ (Nown.append N₂)) (fun _ s₂ h₂' => wpAny_mono h₂' (fun f s₃ h₃ => ?_) fun _ _ e => e.elim) fun _ _ e => e.elim
    cases f with
    | ret v => exact h₃
    | brk => exact h₃
    | cont => exact fin s₃ h₃
    | next => exact fin s₃ h₃
  · have hin : i = n := by omega
    subst hin
    refine W.done _ _ _ hst' fun h₁ tk₁ hk₁ => ?_
    obtain ⟨F₁, N₁⟩ := next h₁ hk₁
    exact wpAny_mono (done h₁ tk₁ m' news' F₁ N₁ hnw' hJ) (fun _ _ e => e) fun _ _ e => e.elim

theorem own_one {own : List (Addr × Obj)} {a : Addr} (h : own.map (·.1) = [a]) : ∃ o, own = [(a, o)] := by
  cases own with
  | nil => cases h
  | cons q r =>
    obtain ⟨b, o⟩ := q
    rw [List.map_cons] at h
    obtain ⟨h1, h2⟩ := List.cons.inj h
    have : r = [] := List.map_eq_nil_iff.mp h2
    subst this
    have h1' : b = a := h1
    subst h1'
    exact ⟨o, rfl⟩
noncomputable def okR (Q : Flow → Shared → Prop) (r : Result) (s' : Shared) : Prop := match r with
  | .ok f => Q f s'
  | .error _ => False
theorem for_rule {iter : Expr} {pos : Pos}
    (h : wpAny (model prog w) A (eval iter env) (fun xv s₁ => wpAny (model prog w) A (pyIter xv) (fun it s₂ => codeAny (model prog w) A (.forLoop target it body orelse env) (okR Q) s₂) (fun _ _ => False) s₁) (fun _ _ => False) s)
    (hs : ∀ x, foldedSetIterable iter env x = pure x := by intro _; rfl) : wpAny (model prog w) A (exec (.For target iter body orelse pos) env) Q (fun _ _ => False) s :=
  wpAny_For (wpAny_mono h (fun xv s₁ h₁ => wpAny_mono h₁ (fun it s₂ h₂ => codeAny_mono h₂ fun r s' hr => by
    cases r with
    | ok f => exact hr
    | error e => exact hr.elim) fun _ _ e => e) fun _ _ e => e) hs

/-- for over a list that the base heap holds -/
theorem pyIter_listB {ax : Addr} {items : List Value} {L : Addr} {m : Str → Option Value} {news : List (Addr × Obj)} {E : Value → Shared → Prop}
    (hL : env.locals = L) (hh : A.handled = none) (hl : g.IsList ax items.toArray) (F : Fr g L s.heap m) (N : News g L s.heap news)
    (J : Nat → (Str → Option Value) → List (Addr × Obj) → Prop) (h0 : J 0 m news)
    (step : ∀ I it, (∀ q ∈ news, q.1 < I) → ∀ i v m₁ news₁ h₁ tk₁, items[i]? = some v → J i m₁ news₁ → (∀ q ∈ news₁, q.1 ≠ I) →
      Fr g L h₁ m₁ → News g L h₁ ((I, it) :: news₁) →
      wpAny (model prog w) A (assign target env v) (fun _ s₂ => wpAny (model prog w) A (execs body env) (TurnPost g L [(I, it)] (J (i + 1)) s Q) (fun _ _ => False) s₂) (fun _ _ => False) { s with heap := h₁, toks := tk₁ })
    (done : ∀ h' tk m' news', Fr g L h' m' → News g L h' news' → J items.length m' news' → wpAny (model prog w) A (execs orelse env) Q (fun _ _ => False) { s with heap := h', toks := tk }) :
    wpAny (model prog w) A (pyIter (.ref ax)) (fun it s₂ => codeAny (model prog w) A (.forLoop target it body orelse env) (okR Q) s₂) E s := by
  subst hL
  have hls : s.heap.IsList ax items.toArray := stays_list (fun b o e => F.keep b o e) hl
  obtain ⟨lo, hlo, _⟩ := id hl
  have hne : ax ≠ s.heap.objs.size := Nat.ne_of_lt (Heap.lt_size (F.keep _ _ hlo))
  refine wpAny_pyIter_list hls ?_
  refine loop_master (KTurns.ofWalks (Walks.list hh s.heap.objs.size ax hne items.toArray) fun i v s Q E st q => letGo_listiter st.1 q) ?_ ?_ ?_ ?_ ?_ (F.push _) (fun p hp => ⟨Heap.get?_push_of_some _ (N p hp).1, (N p hp).2⟩) J h0 ?_ ?_ ?_
  · intro hI
    rcases List.mem_cons.mp hI with e | hI
    · exact absurd F.ns.lt (e ▸ Nat.lt_irrefl _)
    · have e := List.mem_singleton.mp hI
      exact absurd (Heap.lt_size hlo) (Nat.not_lt.mpr (e ▸ F.above))
  · intro b hb
    rw [List.mem_singleton.mp hb]
    exact next_is_new F
  · intro b hb
    rcases List.mem_cons.mp hb with e | hb
    · exact .inl (by simp [e])
    · exact .inr ⟨lo, (List.mem_singleton.mp hb) ▸ hlo⟩
  · intro p hp hI
    exact absurd (Heap.lt_size (N p hp).1) ((List.mem_singleton.mp hI) ▸ Nat.lt_irrefl _)
  · exact ⟨⟨_, Heap.get?_push_size _ rfl, rfl, rfl⟩, hls.at fun o e => Heap.get?_push_of_some _ e⟩
  · intro i v m₁ news₁ h₁ tk₁ own hi hP hJ hown hoff hst F₁ N₁
    obtain ⟨it, rfl⟩ := own_one hown
    have hP' : items[i]? = some v := by
      have hp' : items.toArray[i]? = some v := hP
      simpa using hp'
    exact step _ it (fun q hq => Heap.lt_size (N q hq).1) i v m₁ news₁ h₁ tk₁ hP' hJ (fun q hq => hoff q hq _ (.head _)) F₁ N₁
  · intro h' tk m' news' F' N' _ hJ
    exact done h' tk m' news' F' N' hJ
  · intro i h st b hb
    obtain ⟨it, hit, _⟩ := st.1
    exact ⟨it, (List.mem_singleton.mp hb) ▸ hit⟩

/-- for over a tuple that the base heap holds -/
theorem pyIter_tupB {ax : Addr} {items : List Value} {L : Addr} {m : Str → Option Value} {news : List (Addr × Obj)} {E : Value → Shared → Prop}
    (hL : env.locals = L) (hh : A.handled = none) (hl : g.IsTuple ax items.toArray) (F : Fr g L s.heap m) (N : News g L s.heap news)
    (J : Nat → (Str → Option Value) → List (Addr × Obj) → Prop) (h0 : J 0 m news)
    (step : ∀ I it, (∀ q ∈ news, q.1 < I) → ∀ i v m₁ news₁ h₁ tk₁, items[i]? = some v → J i m₁ news₁ → (∀ q ∈ news₁, q.1 ≠ I) →
      Fr g L h₁ m₁ → News g L h₁ ((I, it) :: news₁) →
      wpAny (model prog w) A (assign target env v) (fun _ s₂ => wpAny (model prog w) A (execs body env) (TurnPost g L [(I, it)] (J (i + 1)) s Q) (fun _ _ => False) s₂) (fun _ _ => False) { s with heap := h₁, toks := tk₁ })
    (done : ∀ h' tk m' news', Fr g L h' m' → News g L h' news' → J items.length m' news' → wpAny (model prog w) A (execs orelse env) Q (fun _ _ => False) { s with heap := h', toks := tk }) :
    wpAny (model prog w) A (pyIter (.ref ax)) (fun it s₂ => codeAny (model prog w) A (.forLoop target it body orelse env) (okR Q) s₂) E s := by
  subst hL
  have hls : s.heap.IsTuple ax items.toArray := hl.at fun o e => F.keep _ o e
  obtain ⟨lo, hlo, _⟩ := id hl
  have hne : ax ≠ s.heap.objs.size := Nat.ne_of_lt (Heap.lt_size (F.keep _ _ hlo))
  refine wpAny_pyIter_tuple hls ?_
  refine loop_master (KTurns.ofWalks (Walks.tuple hh s.heap.objs.size ax hne items.toArray) fun i v s Q E st q => letGo_tupleiter st.1 q) ?_ ?_ ?_ ?_ ?_ (F.push _) (fun p hp => ⟨Heap.get?_push_of_some _ (N p hp).1, (N p hp).2⟩) J h0 ?_ ?_ ?_
  · intro hI
    rcases List.mem_cons.mp hI with e | hI
    · exact absurd F.ns.lt (e ▸ Nat.lt_irrefl _)
    · have e := List.mem_singleton.mp hI
      exact absurd (Heap.lt_size hlo) (Nat.not_lt.mpr (e ▸ F.above))
  · intro b hb
    rw [List.mem_singleton.mp hb]
    exact next_is_new F
  · intro b hb
    rcases List.mem_cons.mp hb with e | hb
    · exact .inl (by simp [e])
    · exact .inr ⟨lo, (List.mem_singleton.mp hb) ▸ hlo⟩
  · intro p hp hI
    exact absurd (Heap.lt_size (N p hp).1) ((List.mem_singleton.mp hI) ▸ Nat.lt_irrefl _)
  · exact ⟨⟨_, Heap.get?_push_size _ rfl, rfl, rfl⟩, hls.at fun o e => Heap.get?_push_of_some _ e⟩
  · intro i v m₁ news₁ h₁ tk₁ own hi hP hJ hown hoff hst F₁ N₁
    obtain ⟨it, rfl⟩ := own_one hown
    have hP' : items[i]? = some v := by
      have hp' : items.toArray[i]? = some v := hP
      simpa using hp'
    exact step _ it (fun q hq => Heap.lt_size (N q hq).1) i v m₁ news₁ h₁ tk₁ hP' hJ (fun q hq => hoff q hq _ (.head _)) F₁ N₁
  · intro h' tk m' news' F' N' _ hJ
    exact done h' tk m' news' F' N' hJ
  · intro i h st b hb
    obtain ⟨it, hit, _⟩ := st.1
    exact ⟨it, (List.mem_singleton.mp hb) ▸ hit⟩

theorem letGo_rangeiter {E : Value → Shared → Prop} {I : Addr} {x left step : Int} {v : Value} {Q' : Unit → Shared → Prop} {s' : Shared} (hit : IsRangeIter s'.heap I x left step) (h : Q' () s') :
    wpAny (model prog w) A (letOwnedTupleGo target (.ref I) v) Q' E s' := by
  unfold letOwnedTupleGo
  split
  all_goals first | exact wpAny_pure h | skip
  all_goals
    cases v
    all_goals first
      | exact wpAny_pure h
      | exact wpAny_bind (wpAny_load hit (wpAny_pure h))
/-- for over range(0, n) -/
theorem pyIter_rangeB {r : Addr} {n : Nat} {t u v : Tok} {L : Addr} {m : Str → Option Value} {news : List (Addr × Obj)} {E : Value → Shared → Prop}
    (hL : env.locals = L) (hh : A.handled = none) (hr : IsRange s.heap r 0 n 1 t u v) (hn : n < 1000) (F : Fr g L s.heap m) (N : News g L s.heap news)
    (J : Nat → (Str → Option Value) → List (Addr × Obj) → Prop) (h0 : J 0 m news)
    (step : ∀ I it, (∀ q ∈ news, q.1 < I) → ∀ i t m₁ news₁ h₁ tk₁, i < n → J i m₁ news₁ → (∀ q ∈ news₁, q.1 ≠ I) →
      Fr g L h₁ m₁ → News g L h₁ ((I, it) :: news₁) →
      wpAny (model prog w) A (assign target env (.int i t)) (fun _ s₂ => wpAny (model prog w) A (execs body env) (TurnPost g L [(I, it)] (J (i + 1)) s Q) (fun _ _ => False) s₂) (fun _ _ => False) { s with heap := h₁, toks := tk₁ })
    (done : ∀ h' tk m' news', Fr g L h' m' → News g L h' news' → J n m' news' → wpAny (model prog w) A (execs orelse env) Q (fun _ _ => False) { s with heap := h', toks := tk }) :
    wpAny (model prog w) A (pyIter (.ref r)) (fun it s₂ => codeAny (model prog w) A (.forLoop target it body orelse env) (okR Q) s₂) E s := by
  subst hL
  have e1 : Builtin.Range.rangeSize 0 (n : Int) 1 = (n : Int) := by
    unfold Builtin.Range.rangeSize
    rw [if_pos (by decide)]
    split
    · rw [Int.ediv_one]; omega
    · omega
  have e2 : Builtin.Range.small 0 (n : Int) 1 = true := by
    unfold Builtin.Range.small
    simp [e1, Builtin.Range.rangeFitsLong]
    omega
  refine wpAny_pyIter_range hr e2 ?_
  rw [e1]
  have hR : IsRangeIter (s.heap.push { cls := .type "range_iterator", data := .fields #[rawInt 0, rawInt (n : Int), rawInt 1] }) s.heap.objs.size (0 + (0 : Nat) * 1) ((n : Int) - (0 : Nat)) 1 := by
    have e : (0 : Int) + ((0 : Nat) : Int) * 1 = 0 := by omega
    have e' : (n : Int) - ((0 : Nat) : Int) = n := by omega
    rw [e, e']
    exact Heap.get?_push_size _ rfl
  refine loop_master (KTurns.ofWalks (Walks.range hh s.heap.objs.size 0 1 n) fun i v s Q E st q => ?_) ?_ ?_ ?_ ?_ hR (F.push _) (fun p hp => ⟨Heap.get?_push_of_some _ (N p hp).1, (N p hp).2⟩) J h0 ?_ ?_ ?_
  · exact letGo_rangeiter st q
  · intro hI
    have e := List.mem_singleton.mp hI
    exact absurd F.ns.lt (e ▸ Nat.lt_irrefl _)
  · intro b hb
    rw [List.mem_singleton.mp hb]
    exact next_is_new F
  · intro b hb
    exact .inl hb
  · intro p hp hI
    exact absurd (Heap.lt_size (N p hp).1) ((List.mem_singleton.mp hI) ▸ Nat.lt_irrefl _)
  · intro i v m₁ news₁ h₁ tk₁ own hi hP hJ hown hoff hst F₁ N₁
    obtain ⟨it, rfl⟩ := own_one hown
    obtain ⟨t, rfl⟩ := hP
    have e : (0 : Int) + (i : Int) * 1 = (i : Int) := by omega
    rw [e]
    exact step _ it (fun q hq => Heap.lt_size (N q hq).1) i t m₁ news₁ h₁ tk₁ hi hJ (fun q hq => hoff q hq _ (.head _)) F₁ N₁
  · intro h' tk m' news' F' N' _ hJ
    exact done h' tk m' news' F' N' hJ
  · intro i h st b hb
    exact ⟨_, (List.mem_singleton.mp hb) ▸ st⟩
end
section
variable {M : Model} {A : Around} {E : Value → Shared → Prop} {s : Shared} {name : Str} {scope : Scope} {L a : Addr} {cd : Value} {g : Heap} {m : Str → Option Value} {news : List (Addr × Obj)} {x : Str} {Q : Unit → Shared → Prop}
theorem st_int {i : Int} {t : Tok} (F : Fr g L s.heap m) (N : News g L s.heap news)
    (h : ∀ h' tk t', Fr g L h' (fun y => if y = x then some (.int i t') else m y) → News g L h' news → Q () ⟨h', s.gens, s.drawn, tk, s.os⟩)
    (hk : scope.kind = .function) (hl : (envOf name scope L a cd).kindOf x = some .local) : wpAny M A (storeName (envOf name scope L a cd) x (.int i t)) Q E s :=
  stN F N (fun h' F' N' => h h' _ t F' N') hk hl
theorem st_str {i : Str} {t : Tok} (F : Fr g L s.heap m) (N : News g L s.heap news)
    (h : ∀ h' tk t', Fr g L h' (fun y => if y = x then some (.str i t') else m y) → News g L h' news → Q () ⟨h', s.gens, s.drawn, tk, s.os⟩)
    (hk : scope.kind = .function) (hl : (envOf name scope L a cd).kindOf x = some .local) : wpAny M A (storeName (envOf name scope L a cd) x (.str i t)) Q E s :=
  stN F N (fun h' F' N' => h h' _ t F' N') hk hl
theorem st_any {v : Value} (F : Fr g L s.heap m) (N : News g L s.heap news)
    (h : ∀ h' tk, Fr g L h' (fun y => if y = x then some v else m y) → News g L h' news → Q () ⟨h', s.gens, s.drawn, tk, s.os⟩)
    (hk : scope.kind = .function) (hl : (envOf name scope L a cd).kindOf x = some .local) : wpAny M A (storeName (envOf name scope L a cd) x v) Q E s :=
  stN F N (fun h' F' N' => h h' _ F' N') hk hl
end
end
section
open AutoSeq1 (wpAny_loadPart')
section
variable {prog : Program} {w : World} {A : Around} {E : Value → Shared → Prop} {s : Shared}

theorem nextOf_tup_item {it l : Addr} {i : Nat} {items} {x : Value} {Q : Value → Shared → Prop} (hit : s.heap.IsTupleIter it l i)
    (hl : s.heap.IsTuple l items) (hx : items[i]? = some x)
    (hQ : ∀ h', h'.IsTupleIter it l (i + 1) → Heap.SameBut it s.heap h' → Q x { s with heap := h' }) :
    wpAny (model prog w) A (Builtin.SmallTypes.nextOf (.ref it)) Q E s := by
  obtain ⟨o, ho, hc, hd⟩ := id hit
  obtain ⟨ol, hol, _, nl, hdl⟩ := hl
  unfold Builtin.SmallTypes.nextOf
  refine wpAny_bind (wpAny_callSpecial?_slot (name := Str.ofString "__next__") hit.typeIs F.slot_tuple_iterator_next
    (wpAny_call_entry F.slot_tuple_iterator_next hit.typeIs F.entry_tuple_iterator_next ?_ (F.args_tuple_iterator_next_1 _)))
  show wpAny _ _ (field (.ref it) 0 >>= _) _ _ s
  refine wpAny_bind (wpAny_field ho hd (x := .ref l) rfl ?_)
  show wpAny _ _ (if (Value.ref l == Value.none) = true then _ else _) _ _ s
  rw [if_neg (show ¬ ((Value.ref l == Value.none) = true) from Bool.false_ne_true)]
  show wpAny _ _ (field (.ref it) 1 >>= _) _ _ s
  refine wpAny_bind (wpAny_field ho hd (x := .int i 0) rfl ?_)
  show wpAny _ _ (seqItems? (.ref l) >>= _) _ _ s
  refine wpAny_bind (wpAny_seqItems hol hdl ?_)
  simp only [Int.toNat_natCast, hx]
  refine wpAny_bind (wpAny_setField ho hd (by simp) (wpAny_pure ⟨x, rfl, wpAny_pure (hQ _ ?_ (Heap.SameBut.update ..))⟩))
  exact ⟨_, Heap.get?_update_self _ ho (Obj.isFreed_of_fields (Obj.data_mapFields hd _)), (Obj.cls_mapFields ..).trans hc, by
    rw [Obj.data_mapFields hd]; simp [rawInt]⟩

theorem nextOf_tup_end {it l : Addr} {i : Nat} {items} {Q : Value → Shared → Prop} (hh : A.handled = none)
    (hit : s.heap.IsTupleIter it l i) (hl : s.heap.IsTuple l items) (hx : items[i]? = none)
    (hE : ∀ h' e, Heap.ExtBut it s.heap h' → (∃ o, h'.get? e = some o ∧ o.cls = .type "StopIteration") → E (.ref e) { s with heap := h' }) :
    wpAny (model prog w) A (Builtin.SmallTypes.nextOf (.ref it)) Q E s := by
  obtain ⟨o, ho, hc, hd⟩ := id hit
  obtain ⟨ol, hol, _, nl, hdl⟩ := hl
  unfold Builtin.SmallTypes.nextOf
  refine wpAny_bind (wpAny_callSpecial?_slot (name := Str.ofString "__next__") hit.typeIs F.slot_tuple_iterator_next
    (wpAny_call_entry F.slot_tuple_iterator_next hit.typeIs F.entry_tuple_iterator_next ?_ (F.args_tuple_iterator_next_1 _)))
  show wpAny _ _ (field (.ref it) 0 >>= _) _ _ s
  refine wpAny_bind (wpAny_field ho hd (x := .ref l) rfl ?_)
  show wpAny _ _ (if (Value.ref l == Value.none) = true then _ else _) _ _ s
  rw [if_neg (show ¬ ((Value.ref l == Value.none) = true) from Bool.false_ne_true)]
  show wpAny _ _ (field (.ref it) 1 >>= _) _ _ s
  refine wpAny_bind (wpAny_field ho hd (x := .int i 0) rfl ?_)
  show wpAny _ _ (seqItems? (.ref l) >>= _) _ _ s
  refine wpAny_bind (wpAny_seqItems hol hdl ?_)
  simp only [Int.toNat_natCast, hx]
  refine wpAny_bind (wpAny_rule (wpAny_bind (wpAny_setField ho hd (by simp) ?_)))
  show wpAny _ _ (newExc (.type "StopIteration") [] >>= _) _ _ _
  refine wpAny_bind ?_
  simp only [newExc, newTuple]
  refine wpAny_bind (wpAny_newObj_type ?_ (by size_fits))
  refine wpAny_bind (m := firstArgMember _ _) (wpAny_of_eq (a := Value.none) (by first | rfl | (simp only [firstArgMember]; rfl)) ?_)
  refine wpAny_newObj_type ?_ (by size_fits)
  simp only [raiseNew]
  refine wpAny_bind (wpAny_handled ?_)
  first | rw [show A.in1.handled = none from hh] | rw [hh]
  refine wpAny_bind (wpAny_pure (wpAny_throw ?_))
  exact hE _ _ (((Heap.SameBut.update ..).extBut.push _).push _) ⟨_, Heap.get?_push_size _ rfl, rfl⟩

/-- enumerate.__next__, whatever iterator lies below -/
theorem enum_next {e it : Addr} {i : Nat} {x old : Value} {P : Heap → Prop} {Q : Value → Shared → Prop}
    (he : IsEnum s.heap e it i old) (hne : e ≠ it)
    (hn : ∀ (A : Around) (Q' : Value → Shared → Prop), (∀ h', P h' → Heap.SameBut it s.heap h' → Q' x { s with heap := h' }) → wpAny (model prog w) A (Builtin.SmallTypes.nextOf (.ref it)) Q' E s)
    (hQ : ∀ h₁ h', P h₁ → Heap.SameBut it s.heap h₁ → IsEnumOut h' e it ((i : Int) + 1) x s.heap.objs.size →
      h'.get? s.heap.objs.size = some { cls := .type "tuple", data := .seq #[.int i s.toks, x] } → 
      (∀ b o, b ≠ e → h₁.get? b = some o → h'.get? b = some o) → Q (.ref s.heap.objs.size) { s with heap := h', toks := s.toks + 1 }) :
    wpAny (model prog w) A (Builtin.«enumerate.__next__» ⟨[.ref e], []⟩) (fun fin s' => ∃ v, fin = .done (.ret v) ∧ Q v s') E s := by
  obtain ⟨hp, g, d, tk, os⟩ := s
  show wpAny _ _ (field (.ref e) 2 >>= _) _ _ _
  refine wpAny_bind (wpAny_field he rfl (x := .ref it) rfl ?_)
  refine wpAny_bind (hn _ _ fun h₁ hP₁ hs₁ => ?_)
  have hs₁' := hs₁
  replace hs₁ : Heap.SameBut it hp h₁ := hs₁
  have he₁ : IsEnum h₁ e it i old := (hs₁.2 e hne).trans he
  show wpAny _ _ (field (.ref e) 3 >>= _) _ _ ⟨h₁, g, d, tk, os⟩
  refine wpAny_bind (wpAny_field he₁ rfl (x := rawInt i) rfl ?_)
  show wpAny _ _ (field (.ref e) 4 >>= _) _ _ ⟨h₁, g, d, tk, os⟩
  refine wpAny_bind (wpAny_field he₁ rfl (x := .none) rfl ?_)
  show wpAny _ _ (mkInt i >>= _) _ _ ⟨h₁, g, d, tk, os⟩
  refine wpAny_bind (wpAny_mkInt ?_)
  show wpAny _ _ (setField (.ref e) 3 (rawInt ((i : Int) + 1)) >>= _) _ _ ⟨h₁, g, d, tk + 1, os⟩
  refine wpAny_bind (wpAny_setField_rec he₁ (by simp) fun h₂ he₂ hs₂ => ?_)
  replace hs₂ : Heap.SameBut e h₁ h₂ := hs₂
  replace he₂ : IsEnum h₂ e it ((i : Int) + 1) old := he₂
  show wpAny _ _ (setField (.ref e) 4 .none >>= _) _ _ ⟨h₂, g, d, tk + 1, os⟩
  refine wpAny_bind (wpAny_setField_rec he₂ (by simp) fun h₃ he₃ hs₃ => ?_)
  replace hs₃ : Heap.SameBut e h₂ h₃ := hs₃
  replace he₃ : IsEnum h₃ e it ((i : Int) + 1) old := he₃
  show wpAny _ _ (newTuple [.int i tk, x] >>= _) _ _ ⟨h₃, g, d, tk + 1, os⟩
  refine wpAny_bind (wpAny_newTuple ?_)
  have he₄ : IsEnum (h₃.push { cls := .type "tuple", data := .seq #[.int i tk, x] }) e it ((i : Int) + 1) old := Heap.get?_push_of_some _ he₃
  generalize hh₄ : h₃.push { cls := .type "tuple", data := .seq #[.int i tk, x] } = h₄ at he₄
  have hsz : h₃.objs.size = hp.objs.size := by rw [hs₃.1, hs₂.1, hs₁.1]
  have hel : e < hp.objs.size := Heap.lt_size he
  have ht₄ : h₄.get? hp.objs.size = some { cls := .type "tuple", data := .seq #[.int i tk, x] } := by rw [← hh₄, ← hsz]; exact Heap.get?_push_size _ rfl
  have hk₄ : ∀ b o, b ≠ e → h₁.get? b = some o → h₄.get? b = some o := fun b o hbe hb => by
    rw [← hh₄]; exact Heap.get?_push_of_some _ (hs₃.extBut b o hbe (hs₂.extBut b o hbe hb))
  show wpAny _ _ (Builtin.SmallTypes.ownedTupleIsFree (.ref e) >>= _) _ _ ⟨h₄, g, d, tk + 1, os⟩
  rw [hsz]
  refine wpAny_bind ?_
  unfold Builtin.SmallTypes.ownedTupleIsFree
  refine wpAny_bind (wpAny_field he₄ rfl (x := .none) rfl (wpAny_pure ?_))
  simp only [if_true]
  refine wpAny_bind (wpAny_rule ?_)
  refine wpAny_bind (wpAny_field he₄ rfl (x := old) rfl ?_)
  refine wpAny_bind (wpAny_setField_rec he₄ (by simp) fun h₅ he₅ hs₅ => ?_)
  replace hs₅ : Heap.SameBut e h₄ h₅ := hs₅
  replace he₅ : IsEnum h₅ e it ((i : Int) + 1) x := he₅
  show wpAny _ _ (Builtin.SmallTypes.ownedTupleHandOut (.ref e) (.ref hp.objs.size) >>= _) _ _ ⟨h₅, g, d, tk + 1, os⟩
  refine wpAny_bind ?_
  unfold Builtin.SmallTypes.ownedTupleHandOut
  refine wpAny_bind (wpAny_setField_rec he₅ (by simp) fun h₆ he₆ hs₆ => ?_)
  replace hs₆ : Heap.SameBut e h₅ h₆ := hs₆
  replace he₆ : IsEnumOut h₆ e it ((i : Int) + 1) x hp.objs.size := he₆
  refine wpAny_setField_rec he₆ (by simp) fun h₇ he₇ hs₇ => ?_
  replace hs₇ : Heap.SameBut e h₆ h₇ := hs₇
  replace he₇ : IsEnumOut h₇ e it ((i : Int) + 1) x hp.objs.size := he₇
  refine wpAny_bind (wpAny_letGo (wpAny_pure ⟨_, rfl, hQ h₁ h₇ hP₁ hs₁ he₇ ?_ ?_⟩))
  · exact hs₇.extBut _ _ (Nat.ne_of_gt hel) (hs₆.extBut _ _ (Nat.ne_of_gt hel) (hs₅.extBut _ _ (Nat.ne_of_gt hel) ht₄))
  · exact fun b o hbe hb => hs₇.extBut b o hbe (hs₆.extBut b o hbe (hs₅.extBut b o hbe (hk₄ b o hbe hb)))

theorem meets_enum_newT (l : Addr) (items : Array Value) (n : Nat) (dct : Option Addr) (sl : Array (Option Value)) :
    Meets (Builtin.«enumerate.__new__» ⟨[.type "enumerate", .ref l], []⟩) (fun _ R s => s.heap.get? l = some { cls := .type "tuple", dict := dct, data := .seq items n, slots := sl } ∧
      R (.ok (.ret (.ref (s.heap.push { cls := .type "tuple_iterator", data := .fields #[.ref l, .int 0 0] }).objs.size)))
        { s with heap := (s.heap.push { cls := .type "tuple_iterator", data := .fields #[.ref l, .int 0 0] }).push { cls := .type "enumerate", data := .fields #[.none, .bool false, .ref s.heap.objs.size, rawInt 0, .none, .none] } }) :=
  .of_wp fun prog w A R s h => by
    obtain ⟨hp, g, d, tk, os⟩ := s; obtain ⟨hl, h⟩ := h
    have hsub := sub_enumerate
    have hL : Heap.IsTuple (Shared.heap ⟨hp, g, d, tk, os⟩) l items := ⟨_, hl, rfl, n, rfl⟩
    wp_walk using wpAny_loadPart' hl
    refine wpAny_stack_any fun st => wpAny_pure ?_
    split
    · rename_i c _ _ _ _ _
      cases (c == Value.type "enumerate")
      · wp_walk using wpAny_loadPart' hl, wpAny_pyIter_tuple hL
        exact ⟨_, rfl, h⟩
      · wp_walk using wpAny_loadPart' hl, wpAny_pyIter_tuple hL
        exact ⟨_, rfl, h⟩
    · wp_walk using wpAny_loadPart' hl, wpAny_pyIter_tuple hL
      exact ⟨_, rfl, h⟩
theorem call_enum_tup {l : Addr} {items : Array Value} {Q : Value → Shared → Prop} (hL : s.heap.IsTuple l items)
    (h : ∀ h', IsEnum h' (s.heap.objs.size + 1) s.heap.objs.size 0 .none → h'.IsTupleIter s.heap.objs.size l 0 →
      (∀ b o, s.heap.get? b = some o → h'.get? b = some o) → Q (.ref (s.heap.objs.size + 1)) { s with heap := h' }) :
    wpAny (model prog w) A (call (.type "enumerate") [.ref l]) Q E s := by
  obtain ⟨⟨c, dct, dt, sl⟩, hl, hc, n, hd⟩ := hL
  replace hc : c = .type "tuple" := hc
  replace hd : dt = .seq items n := hd
  subst hc hd
  refine callType_new F.called_enumerate (by decide) (F.typeCall_enumerate_1 _) (F.newCall_enumerate_1 _) (fun obj => F.args_object_init_2 obj _) F.entry_enumerate_new
    (meets_enum_newT l items n dct sl) ⟨hl, ?_⟩
  have hz : (s.heap.push { cls := .type "tuple_iterator", data := .fields #[.ref l, .int 0 0] }).objs.size = s.heap.objs.size + 1 := Heap.size_push ..
  show _ ∧ _
  rw [hz]
  have he : IsEnum ((s.heap.push { cls := .type "tuple_iterator", data := .fields #[.ref l, .int 0 0] }).push
      { cls := .type "enumerate", data := .fields #[.none, .bool false, .ref s.heap.objs.size, rawInt 0, .none, .none] }) (s.heap.objs.size + 1) s.heap.objs.size 0 .none := by
    have := Heap.get?_push_size (s.heap.push { cls := .type "tuple_iterator", data := .fields #[.ref l, .int 0 0] })
      (o := { cls := .type "enumerate", data := .fields #[.none, .bool false, .ref s.heap.objs.size, rawInt 0, .none, .none] }) rfl
    rw [hz] at this; exact this
  exact ⟨⟨_, he, rfl⟩, h _ he ⟨_, Heap.get?_push_of_some _ (Heap.get?_push_size _ rfl), rfl, rfl⟩ fun b o x => Heap.get?_push_of_some _ (Heap.get?_push_of_some _ x)⟩

theorem pyIter_enum {e it : Addr} {i : Int} {old : Value} {Q : Value → Shared → Prop} (he : IsEnum s.heap e it i old) (h : Q (.ref e) s) : wpAny (model prog w) A (pyIter (.ref e)) Q E s := by
  have hT : s.TypeIs (.ref e) "enumerate" := ⟨_, he, rfl⟩
  refine wpAny_pyIter_slot hT F.slot_enumerate_iter (wpAny_call_entry F.slot_enumerate_iter hT F.entry_enumerate_iter ?_ (F.args_enumerate_iter_1 _))
  show wpAny _ _ (ret (.ref e)) _ _ s
  exact wpAny_pure ⟨_, rfl, "enumerate", _, hT, F.slot_enumerate_next.lookup, h⟩

/-- a tuple enumerated: its turns -/
theorem turns_enumT {elts : List Expr} {k : Nat} {pos : Pos} (hh : A.handled = none) (e it l : Addr) (hei : e ≠ it) (hle : l ≠ e) (hli : l ≠ it) (items : Array Value) :
    KTurns prog w A (.Tuple elts k pos) e [e, it, l] [e, it] items.size
      (fun i v h => ∃ T t x, v = .ref T ∧ items[i]? = some x ∧ h.get? T = some { cls := .type "tuple", data := .seq #[.int i t, x] })
      (fun i v h => ∃ T t x, v = .ref T ∧ items[i]? = some x ∧ h.get? T = some { cls := .type "tuple", data := .seq #[.int i t, x] } ∧ IsEnumOut h e it ((i : Int) + 1) x T ∧ h.IsTupleIter it l (i + 1) ∧ h.IsTuple l items ∧ T ≠ e ∧ T ≠ it)
      (fun i h => (∃ old, IsEnum h e it i old) ∧ h.IsTupleIter it l i ∧ h.IsTuple l items) where
  sub := fun b hb => by
    rcases List.mem_cons.mp hb with rfl | hb
    · exact List.mem_cons_self ..
    · exact List.mem_cons_of_mem _ (by rcases List.mem_cons.mp hb with rfl | hb; exact List.mem_cons_self ..; cases hb)
  frame := fun i h h' hst hk => by
    obtain ⟨⟨old, he⟩, hit, hl⟩ := hst
    exact ⟨⟨old, hk e (by simp) _ he⟩, hit.at fun o x => hk it (by simp) o x, hl.at fun o x => hk l (by simp) o x⟩
  item := fun i s Q E hi hst hQ => by
    obtain ⟨⟨old, he⟩, hit, hl⟩ := hst
    have hx : items[i]? = some items[i] := Array.getElem?_eq_getElem hi
    have hT : s.TypeIs (.ref e) "enumerate" := ⟨_, he, rfl⟩
    have helt : e < s.heap.objs.size := Heap.lt_size he
    have hilt : it < s.heap.objs.size := by obtain ⟨_, x, _⟩ := hit; exact Heap.lt_size x
    unfold pyNext
    refine wpAny_bind (wpAny_attempt (wpAny_callSpecial?_slot (name := Str.ofString "__next__") hT F.slot_enumerate_next
      (wpAny_call_entry F.slot_enumerate_next hT F.entry_enumerate_next
        (enum_next (P := fun h' => h'.IsTupleIter it l (i + 1)) he hei (fun A Q' k => nextOf_tup_item hit hl hx k) fun h₁ h' hP hs₁ ho ht hk => wpAny_pure ?_) (F.args_enumerate_next_1 _))))
    refine hQ (.ref s.heap.objs.size) h' (s.toks + 1) ⟨_, _, _, rfl, hx, ht, ho, hP.at fun o y => hk _ _ (Ne.symm hei) y, hl.at fun o y => hk _ _ hle ((hs₁.2 l hli).trans y), Nat.ne_of_gt helt, Nat.ne_of_gt hilt⟩ fun b o hb y => ?_
    exact hk b o (fun e' => hb (by simp [e'])) ((hs₁.2 b fun e' => hb (by simp [e'])).trans y)
  go := fun i v s Q E hm hQ => by
    obtain ⟨T, t, x, rfl, hx, ht, ho, hit, hl, hTe, hTi⟩ := hm
    refine wpAny_letOwnedTupleGo_enum ho fun h' he' hs' => hQ h' ⟨T, t, x, rfl, hx, (hs'.2 T hTe).trans ht⟩ ⟨⟨x, by simpa using he'⟩, hit.at fun o y => (hs'.2 it hei.symm).trans y, hl.at fun o y => (hs'.2 l hle).trans y⟩ fun b o hb y => ?_
    exact (hs'.2 b fun e' => hb (by simp [e'])).trans y
  done := fun s Q E hst hQ => by
    obtain ⟨⟨old, he⟩, hit, hl⟩ := hst
    have hT : s.TypeIs (.ref e) "enumerate" := ⟨_, he, rfl⟩
    unfold pyNext
    refine wpAny_bind (wpAny_attempt (wpAny_callSpecial?_slot (name := Str.ofString "__next__") hT F.slot_enumerate_next
      (wpAny_call_entry F.slot_enumerate_next hT F.entry_enumerate_next ?_ (F.args_enumerate_next_1 _))))
    show wpAny _ _ (field (.ref e) 2 >>= _) _ _ _
    refine wpAny_bind (wpAny_field he rfl (x := .ref it) rfl ?_)
    refine wpAny_bind (nextOf_tup_end hh hit hl (Array.getElem?_eq_none (Nat.le_refl _)) fun h' x he' hx' => ?_)
    obtain ⟨o, ho, hc⟩ := hx'
    refine wpAny_bind (wpAny_isInstance (T := "StopIteration") (b := true) ⟨o, ho, hc⟩ isSubtype_stop ?_)
    exact wpAny_pure (hQ h' s.toks fun b o hb y => he' b o (fun e' => hb (by simp [e'])) y)
end
theorem own_two {own : List (Addr × Obj)} {a b : Addr} (h : own.map (·.1) = [a, b]) : ∃ o o', own = [(a, o), (b, o')] := by
  cases own with
  | nil => cases h
  | cons q r =>
    obtain ⟨c, o⟩ := q
    rw [List.map_cons] at h
    obtain ⟨h1, h2⟩ := List.cons.inj h
    obtain ⟨o', rfl⟩ := own_one h2
    have h1' : c = a := h1
    subst h1'
    exact ⟨o, o', rfl⟩
section
variable {prog : Program} {w : World} {A : Around} {s : Shared} {env : Env} {g : Heap} {elts : List Expr} {ek : Nat} {epos : Pos} {body orelse : List Stmt} {Q : Flow → Shared → Prop}
/-- for a, b in enumerate(a tuple that the base heap holds) -/
theorem pyIter_enumB {ax e it : Addr} {items : List Value} {L : Addr} {m : Str → Option Value} {news : List (Addr × Obj)} {E : Value → Shared → Prop}
    (hL : env.locals = L) (hh : A.handled = none) (hl : g.IsTuple ax items.toArray) (he : IsEnum s.heap e it 0 .none) (hi : s.heap.IsTupleIter it ax 0)
    (hge : g.get? e = none) (hgi : g.get? it = none) (hei : e ≠ it) (hLe : L ≠ e) (hLi : L ≠ it) (hne : ∀ q ∈ news, q.1 ≠ e ∧ q.1 ≠ it)
    (F : Fr g L s.heap m) (N : News g L s.heap news)
    (J : Nat → (Str → Option Value) → List (Addr × Obj) → Prop) (h0 : J 0 m news)
    (step : ∀ oe oi (i : Nat) T t x m₁ news₁ h₁ tk₁, items[i]? = some x → IsTup h₁ T #[.int i t, x] → J i m₁ news₁ → (∀ q ∈ news₁, q.1 ≠ e ∧ q.1 ≠ it) →
      Fr g L h₁ m₁ → News g L h₁ ((e, oe) :: (it, oi) :: news₁) →
      wpAny (model prog w) A (assign (.Tuple elts ek epos) env (.ref T)) (fun _ s₂ => wpAny (model prog w) A (execs body env) (TurnPost g L [(e, oe), (it, oi)] (J (i + 1)) s Q) (fun _ _ => False) s₂) (fun _ _ => False) { s with heap := h₁, toks := tk₁ })
    (done : ∀ h' tk m' news', Fr g L h' m' → News g L h' news' → J items.length m' news' → wpAny (model prog w) A (execs orelse env) Q (fun _ _ => False) { s with heap := h', toks := tk }) :
    wpAny (model prog w) A (pyIter (.ref e)) (fun it s₂ => codeAny (model prog w) A (.forLoop (.Tuple elts ek epos) it body orelse env) (okR Q) s₂) E s := by
  subst hL
  have hls : s.heap.IsTuple ax items.toArray := hl.at fun o e => F.keep _ o e
  obtain ⟨lo, hlo, _⟩ := id hl
  have hae : ax ≠ e := fun q => by rw [q, hge] at hlo; cases hlo
  have hai : ax ≠ it := fun q => by rw [q, hgi] at hlo; cases hlo
  refine pyIter_enum he ?_
  refine loop_master (turns_enumT hh e it ax hei hae hai items.toArray) ?_ ?_ ?_ ?_ ⟨⟨_, he⟩, hi, hls⟩ F N J h0 ?_ ?_ ?_
  · intro hI
    rcases List.mem_cons.mp hI with q | hI
    · exact hLe q
    · rcases List.mem_cons.mp hI with q | hI
      · exact hLi q
      · have q := List.mem_singleton.mp hI
        exact absurd (Heap.lt_size hlo) (Nat.not_lt.mpr (q ▸ F.above))
  · intro b hb
    rcases List.mem_cons.mp hb with q | hb
    · rw [q]; exact hge
    · rw [List.mem_singleton.mp hb]; exact hgi
  · intro b hb
    rcases List.mem_cons.mp hb with q | hb
    · exact .inl (by simp [q])
    · rcases List.mem_cons.mp hb with q | hb
      · exact .inl (by simp [q])
      · exact .inr ⟨lo, (List.mem_singleton.mp hb) ▸ hlo⟩
  · intro q hq hI
    rcases List.mem_cons.mp hI with z | hI
    · exact (hne q hq).1 z
    · exact (hne q hq).2 (List.mem_singleton.mp hI)
  · intro i v m₁ news₁ h₁ tk₁ own hi hP hJ hown hoff hst F₁ N₁
    obtain ⟨oe, oi, rfl⟩ := own_two hown
    obtain ⟨T, t, x, rfl, hx, ht⟩ := hP
    have hP' : items[i]? = some x := by simpa using hx
    exact step oe oi i T t x m₁ news₁ h₁ tk₁ hP' ⟨_, ht, rfl, _, rfl⟩ hJ (fun q hq => ⟨hoff q hq _ (.head _), hoff q hq _ (.tail _ (.head _))⟩) F₁ N₁
  · intro h' tk m' news' F' N' _ hJ
    exact done h' tk m' news' F' N' hJ
  · intro i h st b hb
    rcases List.mem_cons.mp hb with q | hb
    · obtain ⟨⟨old, x⟩, _⟩ := st
      exact ⟨_, q ▸ x⟩
    · obtain ⟨_, ⟨o, x, _⟩, _⟩ := st
      exact ⟨o, (List.mem_singleton.mp hb) ▸ x⟩
end
section
variable {prog : Program} {w : World} {A : Around} {E : Value → Shared → Prop} {s : Shared} {env : Env} {g : Heap} {L : Addr} {m : Str → Option Value} {news : List (Addr × Obj)}
theorem assign2 {a b : Str} {pa pb tp : Pos} {kk : Nat} {T : Addr} {x y : Value} {Q : Unit → Shared → Prop} (hh : A.handled = none) (F : Fr g L s.heap m) (N : News g L s.heap news) (ht : IsTup s.heap T #[x, y])
    (hL : env.locals = L) (ha : env.kindOf a = some .local) (hb : env.kindOf b = some .local) (hp : (env.scope.kind == .class || (env.scope.kind == .module && env.locals != env.globals)) = false)
    (h : ∀ h' tk, Fr g L h' (fun z => if z = b then some y else if z = a then some x else m z) → News g L h' news → Q () ⟨h', s.gens, s.drawn, tk, s.os⟩) :
    wpAny (model prog w) A (assign (.Tuple [.Name a pa, .Name b pb] kk tp) env (.ref T)) Q E s := by
  subst hL
  refine kcp_assign hh ht ha hb hp F.ns fun h' tk hn hk => h h' tk ⟨hn, fun c o q => hk c o (fun z => ?_) (F.keep c o q), F.above⟩ fun q hq => ⟨hk _ _ (N q hq).2.1 (N q hq).1, (N q hq).2⟩
  exact absurd (Heap.lt_size q) (Nat.not_lt.mpr (z ▸ F.above))
theorem isTup_of {h : Heap} {a : Addr} {items : Array Value} (F : Fr g L h m) (t : IsTup g a items) : IsTup h a items := let ⟨o, ho, r⟩ := t; ⟨o, F.keep _ _ ho, r⟩
end
end
section
/-- the pattern's code -/
noncomputable def reCode : Array Nat := #[14, 17, 4, 1, 1, 21, 9, 0, 604043296, 1, 0, 0, 0, 0, 0, 8, 4, 0, 13, 14, 21, 9, 0, 604043296, 1, 0, 0, 0, 0, 0, 8, 4, 0, 1]
/-- a sign that quote lets stand -/
noncomputable def safeC (c : Nat) : Bool := (decide (c < 256) && (reCode.getD (6 + (1 + c / 32)) 0).testBit (c % 32)) || Sre.isWord c
noncomputable def safeC2 (c : Nat) : Bool := (decide (c < 256) && (reCode.getD (21 + (1 + c / 32)) 0).testBit (c % 32)) || Sre.isWord c
theorem cat_word (c : Nat) : Sre.category 4 c = .ok (Sre.isWord c) := by
  show Except.ok (Sre.isWord c != false) = _
  cases Sre.isWord c <;> rfl
theorem inSet_at5 (c : Nat) (seen : Sre.Seen) : ∃ seen', Sre.inSet reCode c 34 5 true seen = .ok (!safeC c, seen') := by
  show ∃ seen', Sre.inSet reCode c 33 6 false _ = _
  unfold Sre.inSet
  show ∃ seen', (if decide (c < 256) && (reCode.getD (6 + (1 + c / 32)) 0).testBit (c % 32) then Except.ok (false, _) else Sre.inSet reCode c 32 15 false _) = _
  unfold safeC
  cases h : decide (c < 256) && (reCode.getD (6 + (1 + c / 32)) 0).testBit (c % 32) with
  | true => exact ⟨_, rfl⟩
  | false =>
    rw [if_neg Bool.false_ne_true]
    unfold Sre.inSet
    show ∃ seen', (Sre.category 4 c >>= fun b => if b = true then pure (false, _) else Sre.inSet reCode c 31 17 false _) = _
    rw [cat_word]
    cases hw : Sre.isWord c with
    | true => exact ⟨_, rfl⟩
    | false => exact ⟨_, rfl⟩
theorem inSet_at20 (c : Nat) (seen : Sre.Seen) : ∃ seen', Sre.inSet reCode c 34 20 true seen = .ok (!safeC2 c, seen') := by
  show ∃ seen', Sre.inSet reCode c 33 21 false _ = _
  unfold Sre.inSet
  show ∃ seen', (if decide (c < 256) && (reCode.getD (21 + (1 + c / 32)) 0).testBit (c % 32) then Except.ok (false, _) else Sre.inSet reCode c 32 30 false _) = _
  unfold safeC2
  cases h : decide (c < 256) && (reCode.getD (21 + (1 + c / 32)) 0).testBit (c % 32) with
  | true => exact ⟨_, rfl⟩
  | false =>
    rw [if_neg Bool.false_ne_true]
    unfold Sre.inSet
    show ∃ seen', (Sre.category 4 c >>= fun b => if b = true then pure (false, _) else Sre.inSet reCode c 31 32 false _) = _
    rw [cat_word]
    cases hw : Sre.isWord c with
    | true => exact ⟨_, rfl⟩
    | false => exact ⟨_, rfl⟩
theorem safe_same (c : Nat) : safeC2 c = safeC c := by
  unfold safeC safeC2
  by_cases h : c < 256
  · have e : ∀ k, k < 8 → reCode.getD (21 + (1 + k)) 0 = reCode.getD (6 + (1 + k)) 0 := by decide
    rw [e (c / 32) (by omega)]
  · rw [decide_eq_false h]; rfl

open Sre (M)
theorem admitted_none {m : M} (hc : m.code = reCode) : ∀ (fuel s : Nat) (seen : Sre.Seen), (∀ i, s ≤ i → i < m.lim → safeC (m.text.getD i 0) = true) → ∃ seen', M.admitted m fuel s seen = .ok (none, seen')
  | 0, _, seen, _ => ⟨seen, rfl⟩
  | fuel + 1, s, seen, h => by
    unfold M.admitted
    by_cases hs : s ≥ m.lim
    · rw [if_pos hs]; exact ⟨_, rfl⟩
    · rw [if_neg hs, hc]
      obtain ⟨seen₁, e⟩ := inSet_at5 (m.text.getD s 0) seen
      show ∃ seen', (match Sre.inSet reCode (m.text.getD s 0) 34 5 true seen with | .ok (true, seen) => Except.ok (some s, seen) | .ok (false, seen) => M.admitted m fuel (s + 1) seen | .error why => Except.error why) = _
      rw [e, h s (Nat.le_refl _) (Nat.lt_of_not_le hs)]
      exact admitted_none hc fuel (s + 1) seen₁ fun i h1 h2 => h i (by omega) h2
theorem admitted_some {m : M} (hc : m.code = reCode) : ∀ (fuel s : Nat) (seen : Sre.Seen), m.lim - s < fuel → (∃ i, s ≤ i ∧ i < m.lim ∧ safeC (m.text.getD i 0) = false) → ∃ k seen', M.admitted m fuel s seen = .ok (some k, seen') ∧ k < m.lim ∧ safeC (m.text.getD k 0) = false
  | 0, _, seen, hf, _ => absurd hf (Nat.not_lt_zero _)
  | fuel + 1, s, seen, hf, h => by
    obtain ⟨i, h1, h2, h3⟩ := h
    unfold M.admitted
    rw [if_neg (show ¬ (s ≥ m.lim) by omega), hc]
    obtain ⟨seen₁, e⟩ := inSet_at5 (m.text.getD s 0) seen
    show ∃ k seen', (match Sre.inSet reCode (m.text.getD s 0) 34 5 true seen with | .ok (true, seen) => Except.ok (some s, seen) | .ok (false, seen) => M.admitted m fuel (s + 1) seen | .error why => Except.error why) = _ ∧ _
    rw [e]
    cases q : safeC (m.text.getD s 0) with
    | false => exact ⟨s, seen₁, rfl, by omega, q⟩
    | true =>
      have : i ≠ s := fun z => by rw [z, q] at h3; cases h3
      exact admitted_some hc fuel (s + 1) seen₁ (by omega) ⟨i, by omega, h2, h3⟩

theorem first_set {m : M} (hc : m.code = reCode) : m.hasFirstSet = true := by
  unfold M.hasFirstSet; rw [hc]; rfl
theorem says_ends {m : M} (b : Bool) (hf : m.frames = []) (ho : m.outcome = none) : ((m.say b).runFor 4).outcome = some (if b then .matched else .failed) := by
  obtain ⟨code, text, lim, start, ls, wt, ma, pc, pos, ha, om, marks, lm, li, loops, inner, frames, weight, answer, seen, outcome⟩ := m
  subst hf ho
  rfl
theorem att_none {m : M} (hc : m.code = reCode) (hf : m.frames = []) (ho : m.outcome = none) {s : Nat} (h : ∀ i, s ≤ i → i < m.lim → safeC (m.text.getD i 0) = true) : ((m.attemptFrom s true).runFor 4).outcome = some .failed := by
  unfold M.attemptFrom
  rw [first_set hc]
  obtain ⟨seen', e⟩ := admitted_none hc (m.lim + 1 - s) s m.seen h
  show ((match M.admitted m (m.lim + 1 - s) s m.seen with | .ok (some s, seen) => { m with mustAdvance := false, seen }.attemptAt s true | .ok (none, seen) => { m with seen }.say false | .error why => m.stick why).runFor 4).outcome = _
  rw [e]
  exact says_ends false hf ho
theorem att_some {m : M} (hc : m.code = reCode) (hp : m.pc = 18) (hf : m.frames = []) (ho : m.outcome = none) (ha : m.answer = none) (hw : m.weight = 0) (ht : m.wholeText = false) {s : Nat} (h : ∃ i, s ≤ i ∧ i < m.lim ∧ safeC (m.text.getD i 0) = false) : ((m.attemptFrom s true).runFor 4).outcome = some .matched := by
  unfold M.attemptFrom
  rw [first_set hc]
  obtain ⟨k, seen', e, hk, hs⟩ := admitted_some hc (m.lim + 1 - s) s m.seen (by obtain ⟨i, _, _⟩ := h; omega) h
  show ((match M.admitted m (m.lim + 1 - s) s m.seen with | .ok (some s, seen) => { m with mustAdvance := false, seen }.attemptAt s true | .ok (none, seen) => { m with seen }.say false | .error why => m.stick why).runFor 4).outcome = _
  rw [e]
  obtain ⟨code, text, lim, start, ls, wt, ma, pc, pos, hd, om, marks, lm, li, loops, inner, frames, weight, answer, seen, outcome⟩ := m
  dsimp only at hc hp hf ho ha hw ht hk hs ⊢
  subst hc hp hf ho ha hw ht
  obtain ⟨seen₂, e₂⟩ := inSet_at20 (text.getD k 0) (seen'.add 13)
  rw [safe_same, hs] at e₂
  have ea : Sre.accepts reCode 18 (text.getD k 0) (seen'.add 13) = .ok (true, seen₂) := e₂
  let m0 : M := ⟨reCode, text, lim, k, ls, false, false, 18, k, k, true, marks, -1, -1, loops, inner, [{ wait := .nextStart, pc := 18, pos := k, outermost := true }], 1, none, seen', none⟩
  show (M.runFor 3 (M.exec m0)).outcome = _
  have h1 : M.exec m0 = ⟨reCode, text, lim, k, ls, false, false, 33, k + 1, k, true, marks, -1, -1, loops, inner, [{ wait := .nextStart, pc := 18, pos := k, outermost := true }], 1, none, seen₂, none⟩ := by
    show (if k ≥ lim then _ else match Sre.accepts reCode 18 (text.getD k 0) (seen'.add 13) with | .error why => _ | .ok (false, seen) => _ | .ok (true, seen) => _) = _
    rw [if_neg (Nat.not_le.mpr hk), ea]
    rfl
  rw [h1]
  rfl
theorem search_none {text : Array Nat} (h : ∀ i, i < text.size → safeC (text.getD i 0) = true) : ((Sre.forSearch reCode text 0 0 text.size false).runFor 4).outcome = some .failed := by
  unfold Sre.forSearch
  by_cases hz : text.size = 0
  · rw [hz]; rfl
  · rw [if_neg (show ¬ ((decide (0 > text.size) || decide (text.size - 0 < (Sre.header reCode).1)) = true) by
      show ¬ ((decide (0 > text.size) || decide (text.size - 0 < 1)) = true)
      rw [decide_eq_false (by omega), decide_eq_false (by omega)]; decide)]
    exact att_none rfl rfl rfl fun i _ hi => h i hi
theorem search_some {text : Array Nat} (h : ∃ i, i < text.size ∧ safeC (text.getD i 0) = false) : ((Sre.forSearch reCode text 0 0 text.size false).runFor 4).outcome = some .matched := by
  obtain ⟨i, hi, hs⟩ := h
  unfold Sre.forSearch
  rw [if_neg (show ¬ ((decide (0 > text.size) || decide (text.size - 0 < (Sre.header reCode).1)) = true) by
      show ¬ ((decide (0 > text.size) || decide (text.size - 0 < 1)) = true)
      rw [decide_eq_false (by omega), decide_eq_false (by omega)]; decide)]
  exact att_some rfl rfl rfl rfl rfl rfl rfl ⟨i, Nat.zero_le _, hi, hs⟩
end
section
section
variable {w : World} {A : Around} {E : Value → Shared → Prop} {s : Shared} {Q : Value → Shared → Prop}
theorem keeps_752 {M : Model} (h : Heap) (X : (KK w.params).In h) : ∃ k, (k = Keeper.frame ∨ k = Keeper.machine ∨ k = Keeper.boundFrame) ∧ Looks M h (keeperOf (.ref 752)) k := ⟨.machine, .inr (.inl rfl), Looks.of_peek X rfl⟩
theorem code_builtin {prog : Program} {id : String} {args : Args} {b : Builtin} {R : Result → Shared → Prop} (hp : plainId id = true) (hb : entryFor table id = some b)
    (h : wpAny (model prog w) A.in1 (b args) (fun fin s' => ∃ v, fin = .done (.ret v) ∧ R (.ok (.ret v)) s') (fun e s' => R (.error e) s') s) : codeAny (model prog w) A (.builtin id args) R s := by
  refine codeAny_of_tree ?_
  show wpAny _ _ (match entryFor table id with | some b => b args | none => unsupported ((withoutEnding? id "#data").getD id)) _ _ s
  rw [hb, Around.under_plainId hp]
  refine wpAny_mono h (fun fin s' hq => ?_) fun _ _ e => e
  obtain ⟨v, rfl, hv⟩ := hq
  exact hv
theorem entry_search : entryFor table "re.Pattern.search" = some Builtin.«re.Pattern.search» := entryFor_of_fast (by kernel_rfl)
theorem bound_search {M : Model} {h : Heap} (X : (KK w.params).In h) (x : Str) (t : Tok) : Looks M h (checkBoundCall "re.Pattern.search" ⟨[.ref 49, .str x t], []⟩) () := Looks.of_peek X (by kernel_rfl)
theorem call_752 {x : Str} {t : Tok} (X : (KK w.params).In s.heap)
    (h : wpAny (model PySem.Challenge.rw_mr0361_01.prog w) A.in1 (Builtin.«re.Pattern.search» ⟨[.ref 49, .str x t], []⟩) (fun fin s' => ∃ v, fin = .done (.ret v) ∧ Q v s') E s) :
    wpAny (model PySem.Challenge.rw_mr0361_01.prog w) A (call (.ref 752) [.str x t]) Q E s := by
  refine wpAny_call (codeAny_of_tree ?_)
  show wpAny _ _ (callAny (.ref 752) _) _ _ _
  refine nd_load (X _ _ rfl) ?_
  show wpAny _ _ (checkBoundCall "re.Pattern.search" ⟨[.ref 49, .str x t], []⟩ >>= fun _ => again (Code.builtin "re.Pattern.search" ⟨[.ref 49, .str x t], []⟩)) _ _ _
  refine wpAny_bind ((bound_search X x t).here (wpAny_pure ⟨plainId_quiet (by decide +kernel) _, code_builtin (by decide +kernel) entry_search ?_⟩))
  exact h
end
end
section
open PySem.Builtin.Re
section
variable {w : World} {A : Around} {E : Value → Shared → Prop} {s : Shared} {Q : Value → Shared → Prop}
theorem target_49 {M : Model} {h : Heap} (X : (KK w.params).In h) (x : Str) (t : Tok) :
    Looks M h (reTarget "re.Pattern.search" "search" ⟨[.ref 49, .str x t], []⟩) { pattern := .ref 49, string := .str x t, code := reCode, text := x.cps, kind := 0, groups := 0, pos := 0, lim := min 9223372036854775807 x.cps.size } :=
  Looks.of_peek X (by kernel_rfl)
theorem drive_ends {M : Model} {m : Sre.M} {n : Nat} {Q : Sre.M → Shared → Prop} (h : (m.runFor 4).outcome.isSome = true) (hq : Q (m.runFor 4) s) : wpAny M A (reDrive (n + 1) m) Q E s := by
  unfold reDrive
  show wpAny M A (if (m.runFor 4).outcome.isSome = true then pure (m.runFor 4) else _) Q E s
  rw [if_pos h]
  exact wpAny_pure hq

theorem rules_loop {M : Model} (c : Nat → Bool) (f : Nat → String) {Q : PUnit → Shared → Prop} (hq : Q ⟨⟩ s) : ∀ l : List Nat, wpAny M A (forIn l PUnit.unit fun i (_ : PUnit) => (if c i = true then rule (f i) >>= fun _ => pure (ForInStep.yield PUnit.unit) else pure (ForInStep.yield PUnit.unit) : Sem (ForInStep PUnit))) Q E s
  | [] => wpAny_pure hq
  | i :: l => by
    rw [List.forIn_cons]
    refine wpAny_bind ?_
    by_cases h : c i = true
    · rw [if_pos h]
      exact wpAny_bind (wpAny_rule (wpAny_pure (rules_loop c f hq l)))
    · rw [if_neg h]
      exact wpAny_pure (rules_loop c f hq l)
theorem run_failed {M : Model} {m : Sre.M} {Q : Option Sre.M → Shared → Prop} (h : (m.runFor 4).outcome = some .failed) (hq : Q none s) : wpAny M A (reRunToEnd m) Q E s := by
  unfold reRunToEnd
  refine wpAny_bind (drive_ends (n := 18446744073709551615) (by rw [h]; rfl) ?_)
  refine wpAny_bind (rules_loop (fun i => (m.runFor 4).seen.has i) (fun i => Sre.names.getD i "") ?_ _)
  rw [h]
  exact wpAny_pure hq
theorem run_matched {M : Model} {m : Sre.M} {Q : Option Sre.M → Shared → Prop} (h : (m.runFor 4).outcome = some .matched) (hq : Q (some (m.runFor 4)) s) : wpAny M A (reRunToEnd m) Q E s := by
  unfold reRunToEnd
  refine wpAny_bind (drive_ends (n := 18446744073709551615) (by rw [h]; rfl) ?_)
  refine wpAny_bind (rules_loop (fun i => (m.runFor 4).seen.has i) (fun i => Sre.names.getD i "") ?_ _)
  rw [h]
  exact wpAny_pure hq
/-- _find_unsafe of a text that is safe -/
theorem find_none {x : Str} {t : Tok} (X : (KK w.params).In s.heap) (hx : x.length ≤ 16777216) (h : ∀ i, i < x.cps.size → safeC (x.cps.getD i 0) = true) (hq : Q .none s) :
    wpAny (model PySem.Challenge.rw_mr0361_01.prog w) A (call (.ref 752) [.str x t]) Q E s := by
  refine call_752 X ?_
  unfold Builtin.«re.Pattern.search»
  refine wpAny_bind ((target_49 X x t).here ?_)
  have hm : min 9223372036854775807 x.cps.size = x.cps.size := Nat.min_eq_right (by have : x.cps.size ≤ 16777216 := hx; omega)
  dsimp only
  rw [hm]
  unfold reAnswer
  exact wpAny_bind (run_failed (search_none h) (wpAny_pure ⟨_, rfl, hq⟩))
/-- _find_unsafe of a text that is not: an object -/
theorem find_some {x : Str} {t : Tok} (X : (KK w.params).In s.heap) (hx : x.length ≤ 16777216) (h : ∃ i, i < x.cps.size ∧ safeC (x.cps.getD i 0) = false) (hq : ∀ a h', s.heap.StaysIn h' → Q (.ref a) { s with heap := h' }) :
    wpAny (model PySem.Challenge.rw_mr0361_01.prog w) A (call (.ref 752) [.str x t]) Q E s := by
  refine call_752 X ?_
  unfold Builtin.«re.Pattern.search»
  refine wpAny_bind ((target_49 X x t).here ?_)
  have hm : min 9223372036854775807 x.cps.size = x.cps.size := Nat.min_eq_right (by have : x.cps.size ≤ 16777216 := hx; omega)
  dsimp only
  rw [hm]
  unfold reAnswer
  refine wpAny_bind (run_matched (search_some h) ?_)
  refine wpAny_bind ?_
  generalize Sre.M.runFor 4 (Sre.forSearch reCode x.cps 0 0 x.cps.size false) = mm
  show wpAny _ _ (newTuple [rawInt mm.start, rawInt mm.handed] >>= fun v => newFields "re.Match" [.str x t, .ref 49, rawInt (0 : Nat), rawInt (x.cps.size : Nat), rawInt mm.lastindex, v]) _ _ _
  refine wpAny_bind (wpAny_newTuple ?_)
  refine wpAny_newObj_type ?_ (by size_fits)
  exact wpAny_pure ⟨_, rfl, hq _ _ fun b o e => Heap.get?_push_of_some _ (Heap.get?_push_of_some _ e)⟩
theorem callWith_752 {M : Model} {pos : Pos} {env : Env} {first : List Value} {e : Expr} {rest : List Expr} (h : wpAny M A (spliced (backTo pos (starEach (e :: rest) env))) (fun vs s₁ => (KK w.params).In s₁.heap ∧ wpAny M A (call (.ref 752) (first ++ vs)) Q E s₁) E s)
    (he : starEach (e :: rest) env = (false, eval e env) :: starEach rest env := by rfl) (hplain : (backTo pos (starEach rest env)).any (·.1) = false := by rfl) :
    wpAny M A (callWith pos (.ref 752) first (backTo pos (starEach (e :: rest) env)) []) Q E s := by
  rw [he] at h ⊢
  exact callWith_of (by show ((false || (backTo pos (starEach rest env)).any (·.1)) || false) = false; rw [hplain]; rfl) (keeps_752 (w := w)) (evalArgs_plain h)
end
end
section
/-- an apostrophe as quote writes it -/
noncomputable def escC (c : Nat) : List Nat := if c = 39 then [39, 34, 39, 34, 39] else [c]
noncomputable def escL (l : List Nat) : List Nat := l.flatMap escC
theorem escL_append (a b : List Nat) : escL (a ++ b) = escL a ++ escL b := List.flatMap_append ..
theorem escL_free : ∀ {l : List Nat}, 39 ∉ l → escL l = l
  | [], _ => rfl
  | c :: l, h => by
    have h1 : c ≠ 39 := fun e => h (e ▸ .head _)
    show escC c ++ escL l = c :: l
    rw [escL_free fun q => h (.tail _ q), escC, if_neg h1]
    rfl
theorem esc_join : ∀ ps : List Str, (∀ q ∈ ps, 39 ∉ q.cps.toList) → escL (Str.join ⟨#[39]⟩ ps).cps.toList = (Str.join ⟨#[39, 34, 39, 34, 39]⟩ ps).cps.toList
  | [], _ => rfl
  | [a], h => escL_free (h a (.head _))
  | a :: b :: r, h => by
    show escL (a.cps ++ #[39] ++ (Str.join ⟨#[39]⟩ (b :: r)).cps).toList = (a.cps ++ #[39, 34, 39, 34, 39] ++ (Str.join ⟨#[39, 34, 39, 34, 39]⟩ (b :: r)).cps).toList
    rw [Array.toList_append, Array.toList_append, Array.toList_append, Array.toList_append, escL_append, escL_append, escL_free (h a (.head _)), esc_join (b :: r) fun q hq => h q (.tail _ hq)]
    rfl
theorem replace_esc (x : Str) : Txt.replace x (Str.ofString "'") (Str.ofString "'\"'\"'") = ⟨(escL x.cps.toList).toArray⟩ := by
  have e1 : Str.ofString "'" = ⟨#[39]⟩ := by decide
  have e2 : Str.ofString "'\"'\"'" = ⟨#[39, 34, 39, 34, 39]⟩ := by decide
  rw [e1, e2, StrLaws.replace_one]
  have h := esc_join _ (StrLaws.split_free x 39)
  rw [StrLaws.join_split] at h
  rw [h]
theorem escL_len : ∀ l : List Nat, (escL l).length ≤ 5 * l.length
  | [] => Nat.le_refl _
  | c :: l => by
    show (escC c ++ escL l).length ≤ 5 * (l.length + 1)
    rw [List.length_append]
    have h1 : (escC c).length ≤ 5 := by unfold escC; split <;> simp
    have := escL_len l
    omega
end
local macro_rules | `(tactic| walk_at "eval Name") => `(tactic| (k_here; k_dflt (refine' ld (by k_asm) (by first | exact rfl | ((conv => lhs; whnf); with_reducible assumption)) ?_; k_whole)))
local macro_rules | `(tactic| walk_at "loadName") => `(tactic| (k_here; k_dflt (refine' ldn (by k_asm) (by first | exact rfl | ((conv => lhs; whnf); with_reducible assumption)) ?_; k_whole)))
local macro_rules | `(tactic| walk_at "binaryOp FloorDiv int int") => `(tactic| with_reducible (refine floordiv_int ?_ ?_ (Or.inl (PyProof.noPylong_small (by first | assumption | omega))); first | decide | assumption))
local macro_rules | `(tactic| walk_at "storeName") => `(tactic| (k_here; k_dflt (first | refine' st_int (by k_asm) (by k_asm) ?_ (by rfl) (by rfl) | refine' st_str (by k_asm) (by k_asm) ?_ (by rfl) (by rfl) | refine' st_any (by k_asm) (by k_asm) ?_ (by rfl) (by rfl)); k_whole; intros; (try k_sweep); (try dsimp only)))
local macro_rules | `(tactic| walk_at "call builtin:list.append") => `(tactic| (k_here; k_dflt (refine' append_K (by k_asm) (by k_asm) (by k_upd) ?_ (by first | with_reducible assumption | size_fits); k_whole); intros; (try k_sweep); (try dsimp only)))
local macro_rules | `(tactic| k_upd) => `(tactic| first | refine' Upd.head (by first | with_reducible ((repeat' (first | assumption | exact List.forall_mem_nil _ | refine all_cons ?_ ?_)); done) | k_all) | refine' Upd.tail (by first | with_reducible (first | assumption | (refine Ne.symm ?_; assumption)) | k_ne) (by k_upd))
local macro_rules | `(tactic| walk_at "ite") => `(tactic| with_reducible first | refine ite_tt ?_ | refine ite_ff ?_)
local macro_rules | `(tactic| walk_at "execs cons") => `(tactic| (with_reducible refine execs_one ?_; first | k_gentoks | (try dsimp only)))
local macro_rules | `(tactic| omega) => `(tactic| with_reducible first | decide | assumption | exact lit0 (by assumption) (by decide) | exact lit1 (by assumption) (by decide) | exact room3 (by assumption) (by decide) | exact room1 (by assumption) (by decide) | exact room3n (by assumption) (by decide) | exact room1n (by assumption) (by decide) | exact room0 (by assumption) (by decide) | exact room3m (by assumption) (by decide) | exact room3mm (by assumption) (by decide) | exact room1m (by assumption) (by decide))
local macro_rules | `(tactic| k_ne) => `(tactic| (refine neN ?_; (try dsimp only); with_reducible first | exact ltne0 (by assumption) | exact gtne0 (by assumption) | exact ltneR0 (by assumption) | exact ltne1 (by assumption) | exact gtneR1 (by assumption) | exact gtneR2 (by assumption)))
section
variable {w : World}
example : KK = KK ∧ PySem.Challenge.rw_mr0361_01 = PySem.Challenge.rw_mr0361_01 := by k_fill; exact ⟨rfl, rfl⟩
end
section
variable {w : World} {p : Program} {loose : List Str} {mg mb : Str → Option Value}
theorem c_ifmt (x : Int) (t : Tok) : Pure w p loose mg mb 766 [.int x t] 1 8 (fun r => ∃ t', r = .int (Builtin.bitAnd x 61440) t') := by
  refine' Pure.of_body [("mode", .int x t)] ?ho ?hcd ?b1 ?b2 ?hb ?hl ?a1 ?a2 ?a3 ?a4 ?a5 ?h
  case ho => k_is
  case hcd => k_is
  all_goals try exact rfl
  case a4 => decide
  intro A g L s Q F N X T hh hd hu hret
  (repeat' ((fail_if_success (with_reducible show wpAny _ _ (exec (Stmt.For _ _ _ _ _) _) _ _ _)); (fail_if_success (with_reducible show wpAny _ _ (exec (Stmt.While _ _ _ _) _) _ _ _)); (first | (k_unfold; (try dsimp only)) | walk1 | (dsimp only; walk1))))
  all_goals exact hret _ _ _ _ F ⟨_, rfl⟩
theorem c_isdir (x : Int) (t : Tok) : Pure w p loose mg mb 773 [.int x t] 2 16 (fun r => r = .bool (decide (Builtin.bitAnd x 61440 = 16384))) := by
  refine' Pure.of_body [("mode", .int x t)] ?ho ?hcd ?b1 ?b2 ?hb ?hl ?a1 ?a2 ?a3 ?a4 ?a5 ?h
  case ho => k_is
  case hcd => k_is
  all_goals try exact rfl
  case a4 => decide
  intro A g L s Q F N X T hh hd hu hret
  (repeat' ((fail_if_success (with_reducible show wpAny _ _ (exec (Stmt.For _ _ _ _ _) _) _ _ _)); (fail_if_success (with_reducible show wpAny _ _ (exec (Stmt.While _ _ _ _) _) _ _ _)); (first | (k_unfold; (try dsimp only)) | walk1 | (dsimp only; walk1))))
  refine (c_ifmt x t).use F N X T hh (by omega) (by omega) ?_
  rintro r h' tk' F' N' ⟨t', rfl⟩
  (repeat' ((fail_if_success (with_reducible show wpAny _ _ (exec (Stmt.For _ _ _ _ _) _) _ _ _)); (fail_if_success (with_reducible show wpAny _ _ (exec (Stmt.While _ _ _ _) _) _ _ _)); (first | (k_unfold; (try dsimp only)) | walk1 | (dsimp only; walk1))))
  all_goals exact hret _ _ _ _ F' rfl
theorem c_islnk (x : Int) (t : Tok) : Pure w p loose mg mb 780 [.int x t] 2 16 (fun r => r = .bool (decide (Builtin.bitAnd x 61440 = 40960))) := by
  refine' Pure.of_body [("mode", .int x t)] ?ho ?hcd ?b1 ?b2 ?hb ?hl ?a1 ?a2 ?a3 ?a4 ?a5 ?h
  case ho => k_is
  case hcd => k_is
  all_goals try exact rfl
  case a4 => decide
  intro A g L s Q F N X T hh hd hu hret
  (repeat' ((fail_if_success (with_reducible show wpAny _ _ (exec (Stmt.For _ _ _ _ _) _) _ _ _)); (fail_if_success (with_reducible show wpAny _ _ (exec (Stmt.While _ _ _ _) _) _ _ _)); (first | (k_unfold; (try dsimp only)) | walk1 | (dsimp only; walk1))))
  refine (c_ifmt x t).use F N X T hh (by omega) (by omega) ?_
  rintro r h' tk' F' N' ⟨t', rfl⟩
  (repeat' ((fail_if_success (with_reducible show wpAny _ _ (exec (Stmt.For _ _ _ _ _) _) _ _ _)); (fail_if_success (with_reducible show wpAny _ _ (exec (Stmt.While _ _ _ _) _) _ _ _)); (first | (k_unfold; (try dsimp only)) | walk1 | (dsimp only; walk1))))
  all_goals exact hret _ _ _ _ F' rfl

/-- the signs of one place -/
noncomputable def sig1 (x : Int) (i : Nat) : Str :=
  let f := Int.fmod (Int.fdiv x (8 ^ (2 - (i : Int)).toNat)) 8
  let a := Int.fmod (Int.fdiv x (2 ^ (11 - (i : Int)).toNat)) 2
  Txt.item "-r" (Int.fdiv f 4) ++ Txt.item "-w" (Int.fmod (Int.fdiv f 2) 2) ++ Txt.item "-xSs-xTt" (Int.fdiv i 2 * 4 + a * 2 + Int.fmod f 2)
noncomputable def sigTo (x : Int) : Nat → Str
  | 0 => Txt.item "?pc?d?b?-?l?s???" (Int.fdiv x 4096)
  | i + 1 => sigTo x i ++ sig1 x i
theorem sigTo_len (x : Int) : ∀ i, (sigTo x i).length = 1 + 3 * i
  | 0 => rfl
  | i + 1 => by
    show (sigTo x i ++ (_ ++ _ ++ _) : Str).length = _
    simp only [Str.length_append, sigTo_len x i, len_item]
    omega
theorem three_ok : ∀ i : Nat, i < 3 → (8 : Int) ^ (2 - (i : Int)).toNat ≠ 0 ∧ (2 : Int) ^ (11 - (i : Int)).toNat ≠ 0 ∧ ((8 : Int) ^ (2 - (i : Int)).toNat).natAbs < 1073741824 ∧ ((2 : Int) ^ (11 - (i : Int)).toNat).natAbs < 1073741824 ∧
    (0 ≤ 2 - (i : Int) ∧ 2 - (i : Int) ≤ 1000000 ∧ 0 ≤ 11 - (i : Int) ∧ 11 - (i : Int) ≤ 1000000) ∧ 0 ≤ (8 : Int) ^ (2 - (i : Int)).toNat ∧ 0 ≤ (2 : Int) ^ (11 - (i : Int)).toNat := by decide +kernel
theorem fin_of {y : Int} {n : Nat} (h : 0 < (n : Int)) : ∃ j : Fin n, y.fmod n = ((j.1 : Nat) : Int) := by
  obtain ⟨k, hk⟩ := Int.eq_ofNat_of_zero_le (Int.fmod_nonneg_of_pos y h)
  exact ⟨⟨k, Int.ofNat_lt.mp (hk ▸ Int.fmod_lt_of_pos y h)⟩, hk⟩
theorem eight_key : ∀ (i : Fin 3) (f : Fin 8) (a : Fin 2), -((2 : Nat) : Int) ≤ Int.fdiv ((f.1 : Nat) : Int) 4 ∧ Int.fdiv ((f.1 : Nat) : Int) 4 < ((2 : Nat) : Int) ∧ -((2 : Nat) : Int) ≤ Int.fmod (Int.fdiv ((f.1 : Nat) : Int) 2) 2 ∧ Int.fmod (Int.fdiv ((f.1 : Nat) : Int) 2) 2 < ((2 : Nat) : Int) ∧
    -((8 : Nat) : Int) ≤ Int.fdiv ((i.1 : Nat) : Int) 2 * 4 + ((a.1 : Nat) : Int) * 2 + Int.fmod ((f.1 : Nat) : Int) 2 ∧ Int.fdiv ((i.1 : Nat) : Int) 2 * 4 + ((a.1 : Nat) : Int) * 2 + Int.fmod ((f.1 : Nat) : Int) 2 < ((8 : Nat) : Int) := by decide +kernel
theorem eight_ok (i : Nat) (hi : i < 3) (u v : Int) : -((2 : Nat) : Int) ≤ (u.fmod 8).fdiv 4 ∧ (u.fmod 8).fdiv 4 < ((2 : Nat) : Int) ∧ -((2 : Nat) : Int) ≤ ((u.fmod 8).fdiv 2).fmod 2 ∧ ((u.fmod 8).fdiv 2).fmod 2 < ((2 : Nat) : Int) ∧
    -((8 : Nat) : Int) ≤ Int.fdiv (i : Int) 2 * 4 + v.fmod 2 * 2 + (u.fmod 8).fmod 2 ∧ Int.fdiv (i : Int) 2 * 4 + v.fmod 2 * 2 + (u.fmod 8).fmod 2 < ((8 : Nat) : Int) ∧ (0 ≤ u.fmod 8 ∧ u.fmod 8 < 8) ∧ (0 ≤ v.fmod 2 ∧ v.fmod 2 < 2) := by
  obtain ⟨f, hf⟩ := fin_of (y := u) (n := 8) (by decide)
  obtain ⟨a, ha⟩ := fin_of (y := v) (n := 2) (by decide)
  rw [show (u.fmod 8) = ((f.1 : Nat) : Int) from hf, show v.fmod 2 = ((a.1 : Nat) : Int) from ha]
  obtain ⟨h1, h2, h3, h4, h5, h6⟩ := eight_key ⟨i, hi⟩ f a
  exact ⟨h1, h2, h3, h4, h5, h6, ⟨Int.natCast_nonneg _, Int.ofNat_lt.mpr f.2⟩, ⟨Int.natCast_nonneg _, Int.ofNat_lt.mpr a.2⟩⟩
theorem c_signs (x : Int) (t : Tok) (h0 : 0 ≤ x) (h1 : x < 65536) : Pure w p loose mg mb 848 [.int x t] 2 16 (fun r => ∃ t', r = .str (sigTo x 3) t') := by
  refine' Pure.of_body [("mode", .int x t)] ?ho ?hcd ?b1 ?b2 ?hb ?hl ?a1 ?a2 ?a3 ?a4 ?a5 ?h
  case ho => k_is
  case hcd => k_is
  all_goals try exact rfl
  case a4 => decide
  intro A g L s Q F N X T hh hd hu hret
  (repeat' ((fail_if_success (with_reducible show wpAny _ _ (exec (Stmt.For _ _ _ _ _) _) _ _ _)); (fail_if_success (with_reducible show wpAny _ _ (exec (Stmt.While _ _ _ _) _) _ _ _)); (first | (k_unfold; (try dsimp only)) | walk1 | (dsimp only; walk1))))
  refine for_rule ?_
  (repeat' ((fail_if_success (with_reducible show wpAny _ _ (exec (Stmt.For _ _ _ _ _) _) _ _ _)); (fail_if_success (with_reducible show wpAny _ _ (exec (Stmt.While _ _ _ _) _) _ _ _)); (first | (k_unfold; (try dsimp only)) | walk1 | (dsimp only; walk1))))
  rename_i r _ _ _ hr F1 N1 _
  refine pyIter_rangeB (n := 3) rfl hh hr (by decide) F1 N1 (fun i m news => m "mode" = some (.int x t) ∧ (∃ tt, m "text" = some (.str (sigTo x i) tt)) ∧ (sigTo x i).length = 1 + 3 * i ∧ news = []) ⟨rfl, ⟨_, rfl⟩, sigTo_len _ _, rfl⟩ ?_ ?_
  · rintro I it hI i ti m₁ news₁ h₁ tk₁ hi ⟨hm1, ⟨tt, hm2⟩, hl, rfl⟩ _ F2 N2
    refine post_abs fun Qt hQt => ?_
    obtain ⟨n8, n2, b8, b2, ⟨l1, l2, l3, l4⟩, p8, p2⟩ := three_ok i hi
    obtain ⟨g1, g2, g3, g4, g5, g6, g7, g8⟩ := eight_ok i hi (x.fdiv (8 ^ (2 - (i : Int)).toNat)) (x.fdiv (2 ^ (11 - (i : Int)).toNat))
    (repeat' ((fail_if_success (with_reducible show wpAny _ _ (exec (Stmt.For _ _ _ _ _) _) _ _ _)); (fail_if_success (with_reducible show wpAny _ _ (exec (Stmt.While _ _ _ _) _) _ _ _)); (first | (k_unfold; (try dsimp only)) | walk1 | (dsimp only; walk1))))
    rename_i F' N'
    refine hQt _ _ ?_
    refine TurnPost.next F' N' (fun q hq => nomatch hq) ⟨?_, ⟨_, if_pos rfl⟩, sigTo_len _ _, rfl⟩
    (conv => lhs; whnf); with_reducible assumption
  · rintro h' tk m' news' F2 N2 ⟨hm1, ⟨tt, hm2⟩, hl, rfl⟩
    (repeat' ((fail_if_success (with_reducible show wpAny _ _ (exec (Stmt.For _ _ _ _ _) _) _ _ _)); (fail_if_success (with_reducible show wpAny _ _ (exec (Stmt.While _ _ _ _) _) _ _ _)); (first | (k_unfold; (try dsimp only)) | walk1 | (dsimp only; walk1))))
    exact hret _ _ _ _ F2 ⟨_, rfl⟩
end
section
variable {w : World} {p : Program} {loose : List Str} {mg mb : Str → Option Value}
/-- what _law_number reckons -/
noncomputable def numTo (x : Str) : Nat → Int
  | 0 => Txt.find "?pc?d?b?-?l?s" (Txt.item x 0) * 4096
  | i + 1 => numTo x i + (if (Builtin.Str.occurrences (Str.ofString "-ST") (Txt.item x (↑i + 1)) 0 (Str.ofString "-ST").length 1).isEmpty = true then Int.fdiv 256 (2 ^ (i : Int).toNat) else 0)
      + (if (Builtin.Str.occurrences (Str.ofString "sStT") (Txt.item x (↑i + 1)) 0 (Str.ofString "sStT").length 1).isEmpty = true then 0 else Int.fdiv 2048 (2 ^ ((i : Int).fdiv 3).toNat))
theorem c_number (x : Str) (t : Tok) (hx : x.length = 10) : Pure w p loose mg mb 860 [.str x t] 2 16 (fun r => ∃ t', r = .int (numTo x 9) t') := by
  refine' Pure.of_body [("text", .str x t)] ?ho ?hcd ?b1 ?b2 ?hb ?hl ?a1 ?a2 ?a3 ?a4 ?a5 ?h
  case ho => k_is
  case hcd => k_is
  all_goals try exact rfl
  case a4 => decide
  intro A g L s Q F N X T hh hd hu hret
  (repeat' ((fail_if_success (with_reducible show wpAny _ _ (exec (Stmt.For _ _ _ _ _) _) _ _ _)); (fail_if_success (with_reducible show wpAny _ _ (exec (Stmt.While _ _ _ _) _) _ _ _)); (first | (k_unfold; (try dsimp only)) | walk1 | (dsimp only; walk1))))
  refine for_rule ?_
  (repeat' ((fail_if_success (with_reducible show wpAny _ _ (exec (Stmt.For _ _ _ _ _) _) _ _ _)); (fail_if_success (with_reducible show wpAny _ _ (exec (Stmt.While _ _ _ _) _) _ _ _)); (first | (k_unfold; (try dsimp only)) | walk1 | (dsimp only; walk1))))
  rename_i hr F1 N1 _
  refine pyIter_rangeB (n := 9) rfl hh hr (by decide) F1 N1 (fun i m news => m "text" = some (.str x t) ∧ (∃ tt, m "number" = some (.int (numTo x i) tt)) ∧ news = []) ⟨rfl, ⟨_, rfl⟩, rfl⟩ ?_ ?_
  · rintro I it hI i ti m₁ news₁ h₁ tk₁ hi ⟨hm1, ⟨tt, hm2⟩, rfl⟩ _ F2 N2
    refine post_abs fun Qt hQt => ?_
    (repeat' ((fail_if_success (with_reducible show wpAny _ _ (exec (Stmt.For _ _ _ _ _) _) _ _ _)); (fail_if_success (with_reducible show wpAny _ _ (exec (Stmt.While _ _ _ _) _) _ _ _)); (first | (k_unfold; (try dsimp only)) | walk1 | (dsimp only; walk1))))
    all_goals
      (with_reducible rename Fr _ _ _ _ => F'); (with_reducible rename News _ _ _ _ => N')
      refine hQt _ _ ?_
      refine TurnPost.next F' N' (fun q hq => nomatch hq) ⟨?_, ⟨_, Eq.trans (b := some (Value.int _ _)) (by first | exact if_pos rfl | ((conv => lhs; whnf); with_reducible assumption)) (congrArg (fun z => some (Value.int z _)) ?_)⟩, rfl⟩
      · (conv => lhs; whnf); with_reducible assumption
      · simp only [numTo, *, if_true, if_false, Int.add_zero, Bool.false_eq_true]
  · rintro h' tk m' news' F2 N2 ⟨hm1, ⟨tt, hm2⟩, rfl⟩
    (repeat' ((fail_if_success (with_reducible show wpAny _ _ (exec (Stmt.For _ _ _ _ _) _) _ _ _)); (fail_if_success (with_reducible show wpAny _ _ (exec (Stmt.While _ _ _ _) _) _ _ _)); (first | (k_unfold; (try dsimp only)) | walk1 | (dsimp only; walk1))))
    exact hret _ _ _ _ F2 ⟨_, rfl⟩
end
section
variable {w : World} {p : Program} {loose : List Str} {mg mb : Str → Option Value}
/-- the table of filemode: bits and signs -/
noncomputable def fmTab : List (List (Int × Nat)) :=
  [[(40960, 108), (49152, 115), (32768, 45), (24576, 98), (16384, 100), (8192, 99), (4096, 112)], [(256, 114)], [(128, 119)], [(2112, 115), (2048, 83), (64, 120)], [(32, 114)], [(16, 119)], [(1032, 115), (1024, 83), (8, 120)], [(4, 114)], [(2, 119)], [(513, 116), (512, 84), (1, 120)]]
noncomputable def PairAt (g : Heap) (v : Value) (b : Int) (c : Nat) : Prop := ∃ a t u, v = .ref a ∧ IsTup g a #[.int b t, .str ⟨#[c]⟩ u]
inductive RowAt (g : Heap) : List Value → List (Int × Nat) → Prop where
  | nil : RowAt g [] []
  | cons {v : Value} {b : Int} {c : Nat} {vs : List Value} {r : List (Int × Nat)} (h : PairAt g v b c) (t : RowAt g vs r) : RowAt g (v :: vs) ((b, c) :: r)
inductive TabIs (g : Heap) : List Value → List (List (Int × Nat)) → Prop where
  | nil : TabIs g [] []
  | cons {a : Addr} {refs : List Value} {row : List (Int × Nat)} {vs : List Value} {r : List (List (Int × Nat))} (h : g.IsTuple a refs.toArray) (h' : RowAt g refs row) (t : TabIs g vs r) : TabIs g (.ref a :: vs) (row :: r)
noncomputable def fmItems : List Value := [vr 788, vr 790, vr 792, vr 796, vr 798, vr 800, vr 804, vr 806, vr 808, vr 812]
theorem tab_at {g : Heap} (X : (KK w.params).In g) : TabIs g fmItems fmTab := by
  have P : ∀ (a : Addr) (b : Int) (c : Nat) (t u : Tok) (x : String), (KK w.params).lookup a = some ⟨.type "tuple", none, .seq #[.int b t, .str (Str.ofString x) u] 0, #[]⟩ → Str.ofString x = ⟨#[c]⟩ → PairAt g (.ref a) b c :=
    fun a b c t u x h e => ⟨a, t, u, rfl, _, X _ _ h, rfl, 0, by rw [e]⟩
  have T : ∀ (a : Addr) (l : List Value), (KK w.params).lookup a = some ⟨.type "tuple", none, .seq l.toArray 0, #[]⟩ → g.IsTuple a l.toArray := fun a l h => ⟨_, X _ _ h, rfl, 0, rfl⟩
  unfold fmItems fmTab
  repeat' first
    | exact TabIs.nil
    | exact RowAt.nil
    | refine TabIs.cons (T _ _ rfl) ?_ ?_
    | refine RowAt.cons (P _ _ _ _ _ _ rfl (by decide)) ?_
noncomputable def fmHit (i : Nat) (x b : Int) : Bool := if i = 0 then Builtin.bitAnd x 61440 == b else Builtin.bitAnd x b == b
noncomputable def fmPick (i : Nat) (x : Int) : List (Int × Nat) → Nat
  | [] => if i = 0 then 63 else 45
  | (b, c) :: r => if fmHit i x b = true then c else fmPick i x r
noncomputable def fmTo (x : Int) : Nat → List Nat
  | 0 => []
  | i + 1 => fmTo x i ++ [fmPick i x (fmTab.getD i [])]
noncomputable abbrev sgn (c : Nat) : Str := ⟨#[c]⟩
theorem StrsAre.snoc {y : Str} {t : Tok} : ∀ {vs : List Value} {ys : List Str}, StrsAre vs ys → StrsAre (vs ++ [.str y t]) (ys ++ [y])
  | _, _, .nil => .cons _ _ .nil
  | _, _, .cons _ _ h => .cons _ _ (StrsAre.snoc h)
theorem TabIs.at {g : Heap} : ∀ {vs : List Value} {rows : List (List (Int × Nat))} {i : Nat} {v : Value}, TabIs g vs rows → vs[i]? = some v → ∃ a refs row, v = .ref a ∧ rows[i]? = some row ∧ g.IsTuple a refs.toArray ∧ RowAt g refs row
  | _, _, 0, _, .cons h h' _, e => by cases e; exact ⟨_, _, _, rfl, rfl, h, h'⟩
  | _, _, i + 1, _, .cons _ _ t, e => TabIs.at (i := i) t (by simpa using e)
theorem RowAt.at {g : Heap} : ∀ {vs : List Value} {row : List (Int × Nat)} {i : Nat} {v : Value}, RowAt g vs row → vs[i]? = some v → ∃ b c, row[i]? = some (b, c) ∧ PairAt g v b c
  | _, _, 0, _, .cons h _, e => by cases e; exact ⟨_, _, rfl, h⟩
  | _, _, i + 1, _, .cons _ t, e => RowAt.at (i := i) t (by simpa using e)
theorem RowAt.len {g : Heap} : ∀ {vs : List Value} {row : List (Int × Nat)}, RowAt g vs row → vs.length = row.length
  | _, _, .nil => rfl
  | _, _, .cons _ t => congrArg (· + 1) t.len
theorem fmPick_at {i : Nat} {x b : Int} {c k : Nat} {row : List (Int × Nat)} (h : row[k]? = some (b, c)) : fmPick i x (row.drop k) = if fmHit i x b = true then c else fmPick i x (row.drop (k + 1)) := by
  have hk : k < row.length := by
    cases q : decide (k < row.length) with
    | true => exact of_decide_eq_true q
    | false => rw [List.getElem?_eq_none (Nat.not_lt.mp (of_decide_eq_false q))] at h; cases h
  have e : row[k] = (b, c) := by rw [List.getElem?_eq_getElem hk] at h; exact Option.some.inj h
  rw [List.drop_eq_getElem_cons hk, e, fmPick]
theorem fm_snoc {x : Int} {i c : Nat} {tc : Tok} {y : Str} {vs : Array Value} {row : List (Int × Nat)} (hvs : StrsAre vs.toList ((fmTo x i).map sgn)) (hrow : fmTab[i]? = some row) (hp : fmPick i x row = c) (hy : y = sgn c) :
    StrsAre (vs.push (.str y tc)).toList ((fmTo x (i + 1)).map sgn) := by
  have e : fmTab.getD i [] = row := by rw [List.getD_eq_getElem?_getD, hrow]; rfl
  rw [Array.toList_push, fmTo, e, hp, List.map_append, hy]
  exact StrsAre.snoc hvs
theorem fmHit_z {i : Nat} {x b : Int} (h : (i : Int) = 0) : fmHit i x b = decide (Builtin.bitAnd x 61440 = b) := by
  have : i = 0 := by omega
  subst this
  rfl
theorem fmHit_n {i : Nat} {x b : Int} (h : (i : Int) ≠ 0) : fmHit i x b = decide (Builtin.bitAnd x b = b) := by
  have : i ≠ 0 := by omega
  unfold fmHit
  rw [if_neg this]
  rfl
theorem fmPick_end {i : Nat} {x : Int} {row : List (Int × Nat)} {k : Nat} (h : row.length ≤ k) : fmPick i x (row.drop k) = if i = 0 then 63 else 45 := by
  rw [List.drop_eq_nil_of_le h]; rfl
theorem sgn_sum : ∀ l : List Nat, ((l.map sgn).map fun x => x.length).sum = l.length
  | [] => rfl
  | a :: l => by
    show 1 + ((l.map sgn).map fun x => x.length).sum = l.length + 1
    rw [sgn_sum l]; omega
theorem fmTo_len (x : Int) : ∀ i, (fmTo x i).length = i
  | 0 => rfl
  | i + 1 => by rw [fmTo, List.length_append, fmTo_len x i]; rfl
theorem glued_join (sep : Str) (l : List Str) : Txt.join sep l = Str.join sep l := StrLaws.glued_eq_join sep l
theorem join_sgn : ∀ l : List Nat, Str.join (Str.ofString "") (l.map sgn) = ⟨l.toArray⟩
  | [] => rfl
  | [a] => rfl
  | a :: b :: l => by
    show sgn a ++ Str.ofString "" ++ Str.join (Str.ofString "") ((b :: l).map sgn) = _
    rw [join_sgn (b :: l)]
    refine congrArg Str.mk ?_
    show (#[a] ++ (Str.ofString "").cps) ++ (b :: l).toArray = _
    have e : (Str.ofString "").cps = #[] := by decide
    rw [e]
    simp
theorem c_filemode (x : Int) (t : Tok) : Pure w p loose mg mb 820 [.int x t] 3 40 (fun r => ∃ t', r = .str ⟨(fmTo x 10).toArray⟩ t') := by
  refine' Pure.of_body [("mode", .int x t)] ?ho ?hcd ?b1 ?b2 ?hb ?hl ?a1 ?a2 ?a3 ?a4 ?a5 ?h
  case ho => k_is
  case hcd => k_is
  all_goals try exact rfl
  case a4 => decide
  intro A g L s Q F N X T hh hd hu hret
  (repeat' ((fail_if_success (with_reducible show wpAny _ _ (exec (Stmt.For _ _ _ _ _) _) _ _ _)); (fail_if_success (with_reducible show wpAny _ _ (exec (Stmt.While _ _ _ _) _) _ _ _)); (first | (k_unfold; (try dsimp only)) | walk1 | (dsimp only; walk1))))
  rename_i P h2 _ h3 tk3 F3 N3
  refine for_rule ?_
  (repeat' ((fail_if_success (with_reducible show wpAny _ _ (exec (Stmt.For _ _ _ _ _) _) _ _ _)); (fail_if_success (with_reducible show wpAny _ _ (exec (Stmt.While _ _ _ _) _) _ _ _)); (first | (k_unfold; (try dsimp only)) | walk1 | (dsimp only; walk1))))
  have hT : g.IsTuple 813 fmItems.toArray := ⟨_, X _ _ rfl, rfl, 0, rfl⟩
  refine call_enum_tup (hT.at fun o q => F3.keep _ o q) ?_
  intro h4 he hi hk
  have F4 := fr_of_stays F3 hk
  have N4 := news_of_stays N3 hk
  have hP : P < h3.objs.size := Heap.lt_size (N3 _ (.head _)).1
  have hLs : L < h3.objs.size := F3.ns.lt
  replace hP := ltN hP
  replace hLs := ltN hLs
  have fresh : ∀ b, h3.objs.size ≤ b → g.get? b = none := fun b hb => by
    cases q : g.get? b with
    | none => rfl
    | some o => exact absurd (Heap.lt_size (F3.keep _ _ q)) (Nat.not_lt.mpr hb)
  dsimp only at he hi hk F4 N4 ⊢
  refine pyIter_enumB (items := fmItems) (L := L) rfl hh hT he hi (fresh _ (Nat.le_succ _)) (fresh _ (Nat.le_refl _)) (neN (by omega)) (neN (by omega)) (neN (by omega)) (fun q hq => ?_) F4 N4
    (fun i m news => m "mode" = some (.int x t) ∧ m "perm" = some (.ref P) ∧ ∃ vs n, news = [(P, W.listOf vs n)] ∧ StrsAre vs.toList ((fmTo x i).map sgn) ∧ vs.size = i) ⟨rfl, rfl, _, _, rfl, .nil, rfl⟩ ?_ ?_
  · rcases List.mem_cons.mp hq with rfl | hq
    · exact ⟨neN (by dsimp only; omega), neN (by dsimp only; omega)⟩
    · cases hq
  · rintro oe oi i Tu t1 v m₁ news₁ h₁ tk₁ hx hTup ⟨hm1, hm2, vs, n, rfl, hvs, hn⟩ hoff F5 N5
    refine post_abs fun Qt hQt => ?_
    obtain ⟨hPe, hPi⟩ := hoff _ (.head _)
    dsimp only at hPe hPi
    replace hPe := neN hPe
    replace hPi := neN hPi
    have hi10 : i < 10 := by
      cases q : decide (i < 10) with
      | true => exact of_decide_eq_true q
      | false => rw [List.getElem?_eq_none (Nat.not_lt.mp (of_decide_eq_false q))] at hx; cases hx
    have hsl : vs.size ≤ sizeLine := by rw [sizeLine_eq]; omega
    refine assign2 hh F5 N5 hTup rfl rfl rfl rfl fun h6 tk6 F6 N6 => ?_
    dsimp only
    (repeat' ((fail_if_success (with_reducible show wpAny _ _ (exec (Stmt.For _ _ _ _ _) _) _ _ _)); (fail_if_success (with_reducible show wpAny _ _ (exec (Stmt.While _ _ _ _) _) _ _ _)); (first | (k_unfold; (try dsimp only)) | walk1 | (dsimp only; walk1))))
    refine for_rule ?_
    (repeat' ((fail_if_success (with_reducible show wpAny _ _ (exec (Stmt.For _ _ _ _ _) _) _ _ _)); (fail_if_success (with_reducible show wpAny _ _ (exec (Stmt.While _ _ _ _) _) _ _ _)); (first | (k_unfold; (try dsimp only)) | walk1 | (dsimp only; walk1))))
    obtain ⟨a2, refs, row, rfl, hrow, hrefs, hR⟩ := (tab_at X).at hx
    refine pyIter_tupB (items := refs) (L := L) rfl hh hrefs F6 N6
      (fun k m news => m "mode" = some (.int x t) ∧ m "perm" = some (.ref P) ∧ m "index" = some (.int i t1) ∧ news = [(h3.objs.size + 1, oe), (h3.objs.size, oi), (P, W.listOf vs n)] ∧ fmPick i x row = fmPick i x (row.drop k))
      ⟨by (conv => lhs; whnf); with_reducible assumption, by (conv => lhs; whnf); with_reducible assumption, rfl, rfl, rfl⟩ ?_ ?_
    · rintro I2 it2 hI2 k v2 m₂ news₂ h7 tk7 hv2 ⟨hm3, hm4, hm5, rfl, hpk⟩ hoff2 F7 N7
      refine post_abs fun Qt2 hQt2 => ?_
      have hPI := hI2 _ (.tail _ (.tail _ (.head _)))
      obtain ⟨b, c, hbc, a3, tb, tc, rfl, hpair⟩ := hR.at hv2
      rw [fmPick_at hbc] at hpk
      refine assign2 hh F7 N7 (isTup_of F7 hpair) rfl rfl rfl rfl fun h8 tk8 F8 N8 => ?_
      dsimp only at hPI ⊢
      replace hPI := ltN hPI
      (repeat' ((fail_if_success (with_reducible show wpAny _ _ (exec (Stmt.For _ _ _ _ _) _) _ _ _)); (fail_if_success (with_reducible show wpAny _ _ (exec (Stmt.While _ _ _ _) _) _ _ _)); (first | (k_unfold; (try dsimp only)) | walk1 | (dsimp only; walk1))))
      · rename_i hz
        rw [fmHit_z hz] at hpk
        refine (c_ifmt x t).use F8 N8 X T hh (by omega) (by omega) ?_
        rintro r h9 tk9 F9 N9 ⟨t9, rfl⟩
        (repeat' ((fail_if_success (with_reducible show wpAny _ _ (exec (Stmt.For _ _ _ _ _) _) _ _ _)); (fail_if_success (with_reducible show wpAny _ _ (exec (Stmt.While _ _ _ _) _) _ _ _)); (first | (k_unfold; (try dsimp only)) | walk1 | (dsimp only; walk1))))
        · have hc : Builtin.bitAnd x 61440 = b := by with_reducible assumption
          (with_reducible rename Fr _ _ _ _ => F10); (with_reducible rename News _ _ _ _ => N10)
          refine hQt2 _ _ ?_
          refine TurnPost.brk ?_
          (repeat' ((fail_if_success (with_reducible show wpAny _ _ (exec (Stmt.For _ _ _ _ _) _) _ _ _)); (fail_if_success (with_reducible show wpAny _ _ (exec (Stmt.While _ _ _ _) _) _ _ _)); (first | (k_unfold; (try dsimp only)) | walk1 | (dsimp only; walk1))))
          refine hQt _ _ ?_
          refine TurnPost.next F10 (fun q hq => N10 q (.tail _ hq)) (fun q hq r hr => ?_) ⟨by (conv => lhs; whnf); with_reducible assumption, by (conv => lhs; whnf); with_reducible assumption, _, _, rfl, fm_snoc hvs hrow (hpk.trans (if_pos (decide_eq_true hc))) rfl, by rw [Array.size_push, hn]⟩
          rcases List.mem_singleton.mp hq with rfl
          rcases List.mem_cons.mp hr with rfl | hr
          · exact hPe
          · rcases List.mem_singleton.mp hr with rfl; exact hPi
        · have hc : Builtin.bitAnd x 61440 ≠ b := by with_reducible assumption
          (with_reducible rename Fr _ _ _ _ => F10); (with_reducible rename News _ _ _ _ => N10)
          refine hQt2 _ _ ?_
          refine TurnPost.next F10 N10 (fun q hq r hr => ?_) ⟨by (conv => lhs; whnf); with_reducible assumption, by (conv => lhs; whnf); with_reducible assumption, by (conv => lhs; whnf); with_reducible assumption, rfl, hpk.trans (if_neg (by rw [decide_eq_false hc]; decide))⟩
          rcases List.mem_singleton.mp hr with rfl
          exact hoff2 q hq
      · have hz : (i : Int) ≠ 0 := by with_reducible assumption
        rw [fmHit_n hz] at hpk
        have hc : Builtin.bitAnd x b = b := by with_reducible assumption
        (with_reducible rename Fr _ _ _ _ => F10); (with_reducible rename News _ _ _ _ => N10)
        refine hQt2 _ _ ?_
        refine TurnPost.brk ?_
        (repeat' ((fail_if_success (with_reducible show wpAny _ _ (exec (Stmt.For _ _ _ _ _) _) _ _ _)); (fail_if_success (with_reducible show wpAny _ _ (exec (Stmt.While _ _ _ _) _) _ _ _)); (first | (k_unfold; (try dsimp only)) | walk1 | (dsimp only; walk1))))
        refine hQt _ _ ?_
        refine TurnPost.next F10 (fun q hq => N10 q (.tail _ hq)) (fun q hq r hr => ?_) ⟨by (conv => lhs; whnf); with_reducible assumption, by (conv => lhs; whnf); with_reducible assumption, _, _, rfl, fm_snoc hvs hrow (hpk.trans (if_pos (decide_eq_true hc))) rfl, by rw [Array.size_push, hn]⟩
        rcases List.mem_singleton.mp hq with rfl
        rcases List.mem_cons.mp hr with rfl | hr
        · exact hPe
        · rcases List.mem_singleton.mp hr with rfl; exact hPi
      · have hz : (i : Int) ≠ 0 := by with_reducible assumption
        rw [fmHit_n hz] at hpk
        have hc : Builtin.bitAnd x b ≠ b := by with_reducible assumption
        (with_reducible rename Fr _ _ _ _ => F10); (with_reducible rename News _ _ _ _ => N10)
        refine hQt2 _ _ ?_
        refine TurnPost.next F10 N10 (fun q hq r hr => ?_) ⟨by (conv => lhs; whnf); with_reducible assumption, by (conv => lhs; whnf); with_reducible assumption, by (conv => lhs; whnf); with_reducible assumption, rfl, hpk.trans (if_neg (by rw [decide_eq_false hc]; decide))⟩
        rcases List.mem_singleton.mp hr with rfl
        exact hoff2 q hq
    · rintro h7 tk7 m₂ news₂ F7 N7 ⟨hm3, hm4, hm5, rfl, hpk⟩
      rw [fmPick_end (Nat.le_of_eq hR.len.symm)] at hpk
      (repeat' ((fail_if_success (with_reducible show wpAny _ _ (exec (Stmt.For _ _ _ _ _) _) _ _ _)); (fail_if_success (with_reducible show wpAny _ _ (exec (Stmt.While _ _ _ _) _) _ _ _)); (first | (k_unfold; (try dsimp only)) | walk1 | (dsimp only; walk1))))
      · rename_i hz _ _ F8 N8
        refine hQt _ _ ?_
        refine TurnPost.next F8 N8 (fun q hq r hr => ?_) ⟨hm3, hm4, _, _, rfl, fm_snoc hvs hrow (hpk.trans (if_pos (by omega))) (by decide), by rw [Array.size_push, hn]⟩
        rcases List.mem_singleton.mp hq with rfl
        rcases List.mem_cons.mp hr with rfl | hr
        · exact hPe
        · rcases List.mem_singleton.mp hr with rfl; exact hPi
      · rename_i hz _ _ F8 N8
        refine hQt _ _ ?_
        refine TurnPost.next F8 N8 (fun q hq r hr => ?_) ⟨hm3, hm4, _, _, rfl, fm_snoc hvs hrow (hpk.trans (if_neg (by omega))) (by decide), by rw [Array.size_push, hn]⟩
        rcases List.mem_singleton.mp hq with rfl
        rcases List.mem_cons.mp hr with rfl | hr
        · exact hPe
        · rcases List.mem_singleton.mp hr with rfl; exact hPi
  · rintro h' tk m' news' F5 N5 ⟨hm1, hm2, vs, n, rfl, hvs, hn⟩
    (repeat' ((fail_if_success (with_reducible show wpAny _ _ (exec (Stmt.For _ _ _ _ _) _) _ _ _)); (fail_if_success (with_reducible show wpAny _ _ (exec (Stmt.While _ _ _ _) _) _ _ _)); (first | (k_unfold; (try dsimp only)) | walk1 | (dsimp only; walk1))))
    refine join_list (N5.isList (.head _)) hvs ?_ fun t' k => ?_
    · rw [sgn_sum, List.length_map, fmTo_len]; decide
    · exact hret _ _ _ _ F5 ⟨_, congrArg (fun z => Value.str z t') ((glued_join _ _).trans (join_sgn _))⟩
end
section
variable {w : World} {p : Program} {loose : List Str} {mg mb : Str → Option Value}
/-- the signs that tempt -/
noncomputable def tgSigns : List Str := ["", "'", "\"", " ", "\\", "#", "\n", "-", "@", "%", "a", "Z", "7", "_", "~", "é"]
noncomputable def tgOf (r : Int) : Str := if r < 16 then tgSigns.getD r.toNat Str.empty else ⟨#[(Int.fmod r 55296).toNat]⟩
theorem c_target (x : Int) (t : Tok) (h0 : 0 ≤ x) : Pure w p loose mg mb 827 [.int x t] 2 16 (fun r => ∃ t', r = .str (tgOf x) t') := by
  refine' Pure.of_body [("rest", .int x t)] ?ho ?hcd ?b1 ?b2 ?hb ?hl ?a1 ?a2 ?a3 ?a4 ?a5 ?h
  case ho => k_is
  case hcd => k_is
  all_goals try exact rfl
  case a4 => decide
  intro A g L s Q F N X T hh hd hu hret
  (repeat' ((fail_if_success (with_reducible show wpAny _ _ (exec (Stmt.For _ _ _ _ _) _) _ _ _)); (fail_if_success (with_reducible show wpAny _ _ (exec (Stmt.While _ _ _ _) _) _ _ _)); (first | (k_unfold; (try dsimp only)) | walk1 | (dsimp only; walk1))))
  · (with_reducible rename Fr _ _ _ _ => F1)
    exact hret _ _ _ _ F1 ⟨_, congrArg (fun z => Value.str z _) (if_pos (by omega)).symm⟩
  · (with_reducible rename Fr _ _ _ _ => F1)
    exact hret _ _ _ _ F1 ⟨_, congrArg (fun z => Value.str z _) (if_neg (by omega)).symm⟩
end
section
variable {w : World} {p : Program} {loose : List Str} {mg mb : Str → Option Value}
/-- what quote gives -/
noncomputable def allSafe (x : Str) : Bool := x.cps.all safeC
noncomputable def quoteS (x : Str) : Str := if x.length = 0 then Str.ofString "''" else if allSafe x = true then x else Str.ofString "'" ++ Txt.replace x (Str.ofString "'") (Str.ofString "'\"'\"'") ++ Str.ofString "'"
theorem allSafe_at {x : Str} (h : allSafe x = true) : ∀ i, i < x.cps.size → safeC (x.cps.getD i 0) = true := fun i hi => by
  have := (Array.all_eq_true.mp h) i hi
  rw [Array.getD, dif_pos hi]; exact this
theorem not_allSafe {x : Str} (h : ¬ allSafe x = true) : ∃ i, i < x.cps.size ∧ safeC (x.cps.getD i 0) = false := by
  apply Classical.byContradiction
  intro hn
  refine h (Array.all_eq_true.mpr fun i hi => ?_)
  cases q : safeC x.cps[i] with
  | true => rfl
  | false => exact absurd ⟨i, hi, by rw [Array.getD, dif_pos hi]; exact q⟩ hn
theorem replace_len (x : Str) : (Txt.replace x (Str.ofString "'") (Str.ofString "'\"'\"'")).length ≤ 5 * x.length := by
  rw [replace_esc]
  show (escL x.cps.toList).toArray.size ≤ 5 * x.cps.size
  rw [List.size_toArray]
  have := escL_len x.cps.toList
  rwa [Array.length_toList] at this
theorem c_quote (x : Str) (t : Tok) (hx : x.length ≤ 100000) : Pure w p loose mg mb 759 [.str x t] 3 40 (fun r => ∃ t', r = .str (quoteS x) t') := by
  refine' Pure.of_body [("s", .str x t)] ?ho ?hcd ?b1 ?b2 ?hb ?hl ?a1 ?a2 ?a3 ?a4 ?a5 ?h
  case ho => k_is
  case hcd => k_is
  all_goals try exact rfl
  case a4 => decide
  intro A g L s Q F N X T hh hd hu hret
  have hrep := replace_len x
  (repeat' ((fail_if_success (with_reducible show wpAny _ _ (exec (Stmt.For _ _ _ _ _) _) _ _ _)); (fail_if_success (with_reducible show wpAny _ _ (exec (Stmt.While _ _ _ _) _) _ _ _)); (first | (k_unfold; (try dsimp only)) | walk1 | (dsimp only; walk1))))
  · refine callWith_752 (w := w) ?_
    (repeat' ((fail_if_success (with_reducible show wpAny _ _ (exec (Stmt.For _ _ _ _ _) _) _ _ _)); (fail_if_success (with_reducible show wpAny _ _ (exec (Stmt.While _ _ _ _) _) _ _ _)); (first | (k_unfold; (try dsimp only)) | walk1 | (dsimp only; walk1))))
    have hnz : ¬ x.length = 0 := by first | assumption | omega | simp_all
    by_cases hs : allSafe x = true
    · refine find_none (X.keeps F.keep) (by omega) (allSafe_at hs) ?_
      (repeat' ((fail_if_success (with_reducible show wpAny _ _ (exec (Stmt.For _ _ _ _ _) _) _ _ _)); (fail_if_success (with_reducible show wpAny _ _ (exec (Stmt.While _ _ _ _) _) _ _ _)); (first | (k_unfold; (try dsimp only)) | walk1 | (dsimp only; walk1))))
      exact hret _ _ _ _ F ⟨_, congrArg (fun z => Value.str z _) (by unfold quoteS; rw [if_neg hnz, if_pos hs])⟩
    · refine find_some (X.keeps F.keep) (by omega) (not_allSafe hs) ?_
      intro a h' hk
      have F2 := fr_of_stays F hk
      have N2 := news_of_stays N hk
      clear F N
      (repeat' ((fail_if_success (with_reducible show wpAny _ _ (exec (Stmt.For _ _ _ _ _) _) _ _ _)); (fail_if_success (with_reducible show wpAny _ _ (exec (Stmt.While _ _ _ _) _) _ _ _)); (first | (k_unfold; (try dsimp only)) | walk1 | (dsimp only; walk1))))
      exact hret _ _ _ _ F2 ⟨_, congrArg (fun z => Value.str z _) (by unfold quoteS; rw [if_neg hnz, if_neg hs])⟩
  · have hz : x.length = 0 := by first | assumption | omega | simp_all
    exact hret _ _ _ _ F ⟨_, congrArg (fun z => Value.str z _) (by unfold quoteS; rw [if_pos hz])⟩
end
section
/-- a tree of files: what stands in a list, item for item -/
inductive Tr where
  | nil
  | num (n : Nat) (r : Tr)
  | txt (x : Str) (r : Tr)
  | sub (t : Tr) (r : Tr)

noncomputable abbrev Holds := Addr → List Value → Prop
/-- the values of a list that tell the tree, P says what list lies where -/
noncomputable def Vals (P : Holds) : Tr → List Value → Prop
  | .nil, vs => vs = []
  | .num n r, vs => ∃ t vs', vs = .int n t :: vs' ∧ Vals P r vs'
  | .txt x r, vs => ∃ t vs', vs = .str x t :: vs' ∧ Vals P r vs'
  | .sub t r, vs => ∃ a vs' ws, vs = .ref a :: vs' ∧ P a ws ∧ Vals P t ws ∧ Vals P r vs'
theorem Vals.mono {P P' : Holds} (h : ∀ a ws, P a ws → P' a ws) : ∀ {t : Tr} {vs : List Value}, Vals P t vs → Vals P' t vs
  | .nil, _, e => e
  | .num n r, _, ⟨t, vs', e, q⟩ => ⟨t, vs', e, Vals.mono h q⟩
  | .txt x r, _, ⟨t, vs', e, q⟩ => ⟨t, vs', e, Vals.mono h q⟩
  | .sub t r, _, ⟨a, vs', ws, e, p, q, q'⟩ => ⟨a, vs', ws, e, h _ _ p, Vals.mono h q, Vals.mono h q'⟩
noncomputable def Tr.app : Tr → Tr → Tr
  | .nil, u => u
  | .num n r, u => .num n (r.app u)
  | .txt x r, u => .txt x (r.app u)
  | .sub t r, u => .sub t (r.app u)
theorem Tr.app_nil : ∀ t : Tr, t.app .nil = t
  | .nil => rfl
  | .num n r => congrArg (Tr.num n) r.app_nil
  | .txt x r => congrArg (Tr.txt x) r.app_nil
  | .sub t r => congrArg (Tr.sub t) r.app_nil
theorem Tr.app_assoc : ∀ a b c : Tr, (a.app b).app c = a.app (b.app c)
  | .nil, _, _ => rfl
  | .num n r, b, c => congrArg (Tr.num n) (r.app_assoc b c)
  | .txt x r, b, c => congrArg (Tr.txt x) (r.app_assoc b c)
  | .sub t r, b, c => congrArg (Tr.sub t) (r.app_assoc b c)
theorem Vals.app {P : Holds} : ∀ {t u : Tr} {vs ws : List Value}, Vals P t vs → Vals P u ws → Vals P (t.app u) (vs ++ ws)
  | .nil, _, _, _, e, q => by cases e; exact q
  | .num n r, _, _, _, ⟨t, vs', e, q⟩, q' => by subst e; exact ⟨t, _, rfl, Vals.app q q'⟩
  | .txt x r, _, _, _, ⟨t, vs', e, q⟩, q' => by subst e; exact ⟨t, _, rfl, Vals.app q q'⟩
  | .sub t r, _, _, _, ⟨a, vs', w0, e, p, q, q1⟩, q' => by subst e; exact ⟨a, _, w0, rfl, p, q, Vals.app q1 q'⟩
noncomputable def Tr.len : Tr → Nat
  | .nil => 0
  | .num _ r => r.len + 1
  | .txt _ r => r.len + 1
  | .sub _ r => r.len + 1
theorem Vals.len {P : Holds} : ∀ {t : Tr} {vs : List Value}, Vals P t vs → vs.length = t.len
  | .nil, _, e => by cases e; rfl
  | .num n r, _, ⟨t, vs', e, q⟩ => by subst e; exact congrArg (· + 1) q.len
  | .txt x r, _, ⟨t, vs', e, q⟩ => by subst e; exact congrArg (· + 1) q.len
  | .sub t r, _, ⟨a, vs', w0, e, p, q, q1⟩ => by subst e; exact congrArg (· + 1) q1.len
noncomputable def Tr.dep : Tr → Nat
  | .nil => 0
  | .num _ r => r.dep
  | .txt _ r => r.dep
  | .sub t r => max (t.dep + 1) r.dep
theorem Tr.len_app : ∀ a b : Tr, (a.app b).len = a.len + b.len
  | .nil, b => (Nat.zero_add _).symm
  | .num n r, b => by show (r.app b).len + 1 = r.len + 1 + b.len; rw [r.len_app b]; omega
  | .txt n r, b => by show (r.app b).len + 1 = r.len + 1 + b.len; rw [r.len_app b]; omega
  | .sub n r, b => by show (r.app b).len + 1 = r.len + 1 + b.len; rw [r.len_app b]; omega
theorem Tr.dep_app : ∀ a b : Tr, (a.app b).dep = max a.dep b.dep
  | .nil, b => (Nat.zero_max _).symm
  | .num n r, b => r.dep_app b
  | .txt n r, b => r.dep_app b
  | .sub n r, b => by show max (n.dep + 1) (r.app b).dep = max (max (n.dep + 1) r.dep) b.dep; rw [r.dep_app b, Nat.max_assoc]
noncomputable abbrev inHeap (h : Heap) : Holds := fun a ws => h.IsList a ws.toArray
noncomputable abbrev inLed (news : List (Addr × Obj)) : Holds := fun a ws => ∃ n, (a, W.listOf ws.toArray n) ∈ news
theorem inHeap_keeps {h h' : Heap} (k : h.StaysIn h') {t : Tr} {vs : List Value} (q : Vals (inHeap h) t vs) : Vals (inHeap h') t vs := q.mono fun _ _ e => stays_list k e

section
variable {w : World} {p : Program} {loose : List Str} {mg mb : Str → Option Value}
/-- a contract: muts is what the call may write; ns what it leaves new or written -/
noncomputable def Con (w : World) (p : Program) (loose : List Str) (mg mb : Str → Option Value) (f : Addr) (vs : List Value) (d u : Nat) (muts : List (Addr × Obj)) (pre : Heap → Prop) (post : Value → List (Addr × Obj) → Prop) : Prop :=
  ∀ (A : Around) (s : Shared) (Q E : Value → Shared → Prop) (H : Heap), H.StaysIn s.heap → (KK w.params).In H → TopRead p loose mg mb H → A.handled = none → A.depth + d < recursionLimit → A.units + u < cLine →
    (∀ q ∈ muts, s.heap.get? q.1 = some q.2 ∧ H.get? q.1 = none) → pre H →
    (∀ r h' tk' ns, (∀ b o, s.heap.get? b = some o → b ∉ muts.map (·.1) → h'.get? b = some o) → (∀ q ∈ ns, h'.get? q.1 = some q.2 ∧ (q.1 ∈ muts.map (·.1) ∨ s.heap.get? q.1 = none)) → post r ns → Q r { s with heap := h', toks := tk' }) → wpAny (model PySem.Challenge.rw_mr0361_01.prog w) A (call (.ref f) vs) Q E s

theorem Con.of_body {f : Addr} {vs : List Value} {d u : Nat} {muts : List (Addr × Obj)} {pre : Heap → Prop} {post : Value → List (Addr × Obj) → Prop} {st st1 : Stmt} {rest : List Stmt} {name qual : String} {dV pm cdv : Value} {kd : ScopeKind} {names : List (Str × NameKind)} {ig ic : Bool} {more : List (Str × Const)} (binds : List (Str × Value))
    (ho : (KK w.params).lookup f = some ⟨.type "function", none, .func (fnAt st name qual dV pm cdv), #[]⟩) (hcd : codeIn (KK w.params) cdv (Str.ofString qual) = true)
    (hbody : dBody st = st1 :: rest) (hscope : dScope st = ⟨kd, names, ig, ic, more⟩)
    (hbind : ∀ s : Shared, (KK w.params).In s.heap → BindsTo s (fnAt st name qual dV pm cdv) ⟨vs, []⟩ binds) (hloc : (binds.all fun x => decide (names.lookup x.1 = some .local)) = true)
    (hco : ic = false) (hgen : ig = false) (hk : kd = .function) (hd : 0 < d)
    (hcell : (names.all fun x => decide (x.2 ≠ .cell)) = true)
    (hpre : ∀ h h' : Heap, h.StaysIn h' → pre h → pre h')
    (h : ∀ (A : Around) (g : Heap) (L : Addr) (s : Shared) (Q : Flow → Shared → Prop), Fr g L s.heap (fun y => binds.reverse.lookup y) → News g L s.heap muts → (∀ q ∈ muts, q.1 < L) → (KK w.params).In g → TopRead p loose mg mb g → A.handled = none → A.depth + d < recursionLimit + 1 → A.units + u < cLine + 3 → pre g →
      (∀ v h' tk' m ns, Fr g L h' m → News g L h' ns → post v ns → Q (.ret v) { s with heap := h', toks := tk' }) →
      wpAny (model PySem.Challenge.rw_mr0361_01.prog w) A (execs (st1 :: rest) (envOf (Str.ofString qual) ⟨kd, names, ig, ic, more⟩ L f cdv)) Q (fun _ _ => False) s) : Con w p loose mg mb f vs d u muts pre post := by
  intro A s Q E H hH X T hh hroom hun hmut hp hret
  have Xs := X.keeps hH
  have hb := hbind s Xs
  unfold fnAt at ho hb
  rw [hbody, hscope] at ho hb
  refine wpAny_call (enterN (news := muts) hH X T hmut ho hcd (by omega) hb (locs hloc) (fun g L' h₁ st hg F N X' T' hlt => ?_) hco hgen hk (fun x hx => of_decide_eq_true (List.all_eq_true.mp hcell x hx)))
  refine wpAny_mono (h (A.deeper _) g L' _ _ F N hlt X' T' hh (by show A.depth + 1 + d < _; omega) (by show A.units + 3 + u < _; omega) (hpre _ _ st hp) fun v h' tk' m ns F' N' hq => ?_) (fun _ _ q => q) fun _ _ q => q.elim
  refine hret v h' tk' ns (fun b o e nm => F'.keep b o (hg b o e nm)) (fun q hq' => ⟨(N' q hq').1, ?_⟩) hq
  cases e : s.heap.get? q.1 with
  | none => exact .inr rfl
  | some o =>
    by_cases hm : q.1 ∈ muts.map (·.1)
    · exact .inl hm
    · have := hg _ _ e hm
      rw [(N' q hq').2.2] at this; cases this

theorem stays_hide {g h : Heap} {l : List Addr} (k : g.StaysIn h) (hn : ∀ a ∈ l, g.get? a = none) : g.StaysIn (hideAll h l) := fun b o e =>
  hideAll_get _ (k b o e) fun q => by rw [hn b q] at e; cases e
theorem hide_in (h : Heap) (l : List Addr) : (hideAll h l).StaysIn h := fun b o e => of_hideAll _ e

theorem Con.use {f : Addr} {vs : List Value} {d u : Nat} {muts : List (Addr × Obj)} {pre : Heap → Prop} {post : Value → List (Addr × Obj) → Prop} {A : Around} {s : Shared} {Q E : Value → Shared → Prop} {g : Heap} {L : Addr} {m : Str → Option Value} {rest : List (Addr × Obj)}
    (C : Con w p loose mg mb f vs d u muts pre post) (F : Fr g L s.heap m) (N : News g L s.heap (muts ++ rest)) (X : (KK w.params).In g) (T : TopRead p loose mg mb g) (hh : A.handled = none) (hd : A.depth + d < recursionLimit) (hu : A.units + u < cLine)
    (hap : ∀ q ∈ rest, ∀ r ∈ muts, q.1 ≠ r.1)
    (hpre : pre (hideAll s.heap (muts.map (·.1))))
    (h : ∀ r h' tk' ns, Fr g L h' m → News g L h' (ns ++ rest) → (∀ q ∈ ns, ∀ r ∈ rest, q.1 ≠ r.1) → post r ns → Q r { s with heap := h', toks := tk' }) : wpAny (model PySem.Challenge.rw_mr0361_01.prog w) A (call (.ref f) vs) Q E s := by
  have hn : ∀ a ∈ muts.map (·.1), g.get? a = none := fun a ha => by
    obtain ⟨q, hq, rfl⟩ := List.mem_map.mp ha
    exact (N q (List.mem_append_left _ hq)).2.2
  have st := stays_hide F.keep hn
  have hL : L ∉ muts.map (·.1) := fun ha => by
    obtain ⟨q, hq, e⟩ := List.mem_map.mp ha
    exact (N q (List.mem_append_left _ hq)).2.1 e
  have X' : (KK w.params).In (hideAll s.heap (muts.map (·.1))) := X.keeps st
  have T' : TopRead p loose mg mb (hideAll s.heap (muts.map (·.1))) := T.keeps st
  refine C A s Q E (hideAll s.heap (muts.map (·.1))) (hide_in _ _) X' T' hh hd hu (fun q hq => ⟨(N q (List.mem_append_left _ hq)).1, hideAll_none _ (List.mem_map_of_mem hq)⟩) hpre fun r h' tk' ns k kn hp => ?_
  have hrest : ∀ q ∈ rest, q.1 ∉ muts.map (·.1) := fun q hq hm => by
    obtain ⟨r, hr, e⟩ := List.mem_map.mp hm
    exact hap q hq r hr e.symm
  refine h r h' tk' ns ⟨F.ns.at' fun o e => k _ o e hL, (fun b o e => k b o (F.keep b o e) fun hm => by rw [hn b hm] at e; cases e), F.above⟩ (fun q hq => ?_) (fun q hq r hr e => ?_) hp
  · rcases List.mem_append.mp hq with hq | hq
    · obtain ⟨h1, h2⟩ := kn q hq
      refine ⟨h1, fun e => ?_, ?_⟩
      · rcases h2 with h2 | h2
        · exact hL (e ▸ h2)
        · obtain ⟨o, _, _, ho, _⟩ := F.ns
          rw [e, ho] at h2; cases h2
      · rcases h2 with h2 | h2
        · exact hn _ h2
        · cases e : g.get? q.1 with
          | none => rfl
          | some o => rw [F.keep _ _ e] at h2; cases h2
    · exact ⟨k _ _ (N q (List.mem_append_right _ hq)).1 (hrest q hq), (N q (List.mem_append_right _ hq)).2⟩
  · rcases (kn q hq).2 with h2 | h2
    · exact hrest r hr (e ▸ h2)
    · rw [e, (N r (List.mem_append_right _ hr)).1] at h2; cases h2
end
end
section
variable {w : World} {p : Program} {loose : List Str} {mg mb : Str → Option Value}
noncomputable def unk (n : Nat) : Bool := decide (Txt.item (sigTo n 3) 0 = Str.ofString "?")
noncomputable def knownT : Tr → Tr
  | .nil => .nil
  | .num n r => .num (if unk n = true then n % 4096 else n) (knownT r)
  | .txt x r => .txt x (knownT r)
  | .sub t r => .sub (knownT t) (knownT r)
theorem knownT_app : ∀ a b : Tr, knownT (a.app b) = (knownT a).app (knownT b)
  | .nil, _ => rfl
  | .num n r, b => congrArg (Tr.num _) (knownT_app r b)
  | .txt x r, b => congrArg (Tr.txt x) (knownT_app r b)
  | .sub t r, b => congrArg (Tr.sub _) (knownT_app r b)
/-- a number stands first -/
noncomputable def Tr.hd : Tr → Prop
  | .nil => True
  | .num .. => True
  | _ => False
/-- numbers of sixteen bits, targets of one sign at most -/
noncomputable def Tr.ok : Tr → Prop
  | .nil => True
  | .num n r => n < 65536 ∧ r.ok
  | .txt x r => (x.length ≤ 1 ∧ PyData.strOk x = true) ∧ r.ok
  | .sub t r => (t.ok ∧ t.len ≤ 1000 ∧ t.hd) ∧ r.ok
theorem Tr.ok_app : ∀ {a b : Tr}, (a.app b).ok ↔ a.ok ∧ b.ok
  | .nil, _ => ⟨fun h => ⟨trivial, h⟩, fun h => h.2⟩
  | .num n r, b => by show (_ ∧ (r.app b).ok) ↔ _; rw [Tr.ok_app]; exact and_assoc.symm
  | .txt n r, b => by show (_ ∧ (r.app b).ok) ↔ _; rw [Tr.ok_app]; exact and_assoc.symm
  | .sub n r, b => by show (_ ∧ (r.app b).ok) ↔ _; rw [Tr.ok_app]; exact and_assoc.symm
theorem drop_at {α : Type} {l : List α} {i : Nat} {v : α} (h : l[i]? = some v) : l.drop i = v :: l.drop (i + 1) := by
  obtain ⟨hi, e⟩ := List.getElem?_eq_some_iff.mp h
  rw [List.drop_eq_getElem_cons hi, e]
theorem off_cons {D I : Addr} {o it : Obj} {extra : List (Addr × Obj)} (hDI : D ≠ I) (h : ∀ q ∈ extra, q.1 ≠ I) : ∀ q ∈ (D, o) :: extra, ∀ r ∈ [(I, it)], q.1 ≠ r.1 := fun q hq r hr => by
  rcases List.mem_singleton.mp hr with rfl
  rcases List.mem_cons.mp hq with rfl | hq
  · exact hDI
  · exact h q hq
theorem Vals.num1 {P : Holds} {n : Nat} {x : Int} {t : Tok} (h : x = n) : Vals P (.num n .nil) [.int x t] := ⟨t, [], by rw [h], rfl⟩
theorem c_known : ∀ (n : Nat) (t : Tr), t.dep < n → t.ok → t.len ≤ 1000 → ∀ a, Con w p loose mg mb 874 [.ref a] (n + 4) (60 * n + 60) [] (fun H => ∃ ws, H.IsList a ws.toArray ∧ Vals (inHeap H) t ws) (fun r ns => ∃ D ws k, r = .ref D ∧ (D, W.listOf ws.toArray k) ∈ ns ∧ Vals (inLed ns) (knownT t) ws) := by
  intro n
  induction n with
  | zero => exact fun t h => absurd h (Nat.not_lt_zero _)
  | succ n ih =>
  intro t hdep hok hlen a
  refine' Con.of_body [("tree", .ref a)] ?ho ?hcd ?b1 ?b2 ?hb ?hl ?a1 ?a2 ?a3 ?a4 ?a5 ?hpre ?h
  case ho => k_is
  case hcd => k_is
  case hb => exact fun s _ => BindsTo.of_eq rfl
  case hpre => exact fun h h' k ⟨ws, e, q⟩ => ⟨ws, stays_list k e, inHeap_keeps k q⟩
  all_goals try exact rfl
  case a4 => omega
  rintro A g L s Q F N _ X T hh hd hu ⟨ws, hl, hv⟩ hret
  (repeat' ((fail_if_success (with_reducible show wpAny _ _ (exec (Stmt.For _ _ _ _ _) _) _ _ _)); (fail_if_success (with_reducible show wpAny _ _ (exec (Stmt.While _ _ _ _) _) _ _ _)); (first | (k_unfold; (try dsimp only)) | walk1 | (dsimp only; walk1))))
  refine for_rule ?_
  (repeat' ((fail_if_success (with_reducible show wpAny _ _ (exec (Stmt.For _ _ _ _ _) _) _ _ _)); (fail_if_success (with_reducible show wpAny _ _ (exec (Stmt.While _ _ _ _) _) _ _ _)); (first | (k_unfold; (try dsimp only)) | walk1 | (dsimp only; walk1))))
  rename_i D _ _ _ _ F1 N1
  refine pyIter_listB (items := ws) (L := L) rfl hh hl F1 N1 (fun i m news => m "known" = some (.ref D) ∧ ∃ vs k extra, news = (D, W.listOf vs k) :: extra ∧ (∀ q ∈ extra, q.1 ≠ D) ∧ vs.size = i ∧
      ∃ done rem : Tr, t = done.app rem ∧ Vals (inHeap g) rem (ws.drop i) ∧ Vals (inLed extra) (knownT done) vs.toList) ?_ ?_ ?_
  · exact ⟨rfl, _, _, [], rfl, (fun _ h => nomatch h), rfl, .nil, t, rfl, hv, rfl⟩
  · rintro I it hI i v m₁ news₁ h₁ tk₁ hx ⟨hm1, vs, k, extra, rfl, hex, hsz, done, rem, rfl, hrem, hdone⟩ hoff F2 N2
    refine post_abs fun Qt hQt => ?_
    have hDI : D ≠ I := hoff _ (.head _)
    rw [drop_at hx] at hrem
    have hd' := hdep
    rw [Tr.dep_app] at hd'
    have hok' := Tr.ok_app.mp hok
    have hsl : vs.size ≤ sizeLine := by
      have := (List.getElem?_eq_some_iff.mp hx).1
      rw [sizeLine_eq, hsz]
      have := hv.len
      omega
    cases rem with
    | nil => cases hrem
    | num n0 r =>
      obtain ⟨t0, vs', e, hr⟩ := hrem
      obtain ⟨rfl, rfl⟩ := List.cons.inj e
      obtain ⟨hn0, hokr⟩ := hok'.2
      (repeat' ((fail_if_success (with_reducible show wpAny _ _ (exec (Stmt.For _ _ _ _ _) _) _ _ _)); (fail_if_success (with_reducible show wpAny _ _ (exec (Stmt.While _ _ _ _) _) _ _ _)); (first | (k_unfold; (try dsimp only)) | walk1 | (dsimp only; walk1))))
      (with_reducible rename Fr _ _ _ _ => F3); (with_reducible rename News _ _ _ _ => N3)
      refine (c_signs n0 _ (by omega) (by omega)).use F3 N3 X T hh (by omega) (by omega) ?_
      rintro r3 h4 tk4 F4 N4 ⟨t3, rfl⟩
      have hl4 := sigTo_len n0 3
      (repeat' ((fail_if_success (with_reducible show wpAny _ _ (exec (Stmt.For _ _ _ _ _) _) _ _ _)); (fail_if_success (with_reducible show wpAny _ _ (exec (Stmt.While _ _ _ _) _) _ _ _)); (first | (k_unfold; (try dsimp only)) | walk1 | (dsimp only; walk1))))
      · (with_reducible rename Fr _ _ _ _ => F5); (with_reducible rename News _ _ _ _ => N5)
        refine hQt _ _ ?_
        refine TurnPost.next F5 N5 (off_cons hDI fun q hq => hoff q (.tail _ hq)) ⟨by (conv => lhs; whnf); with_reducible assumption, _, _, _, rfl, hex, by rw [Array.size_push, hsz], done.app (.num n0 .nil), r, ?_, hr, ?_⟩
        · rw [Tr.app_assoc]; rfl
        · rw [Array.toList_push, knownT_app]
          have hu : unk n0 = true := decide_eq_true (eq_of_beq (by with_reducible assumption))
          exact hdone.app (Vals.num1 (by rw [hu, if_pos rfl, Int.fmod_eq_emod_of_nonneg _ (by decide)]; omega))
      · (with_reducible rename Fr _ _ _ _ => F5); (with_reducible rename News _ _ _ _ => N5)
        refine hQt _ _ ?_
        refine TurnPost.next F5 N5 (off_cons hDI fun q hq => hoff q (.tail _ hq)) ⟨by (conv => lhs; whnf); with_reducible assumption, _, _, _, rfl, hex, by rw [Array.size_push, hsz], done.app (.num n0 .nil), r, ?_, hr, ?_⟩
        · rw [Tr.app_assoc]; rfl
        · rw [Array.toList_push, knownT_app]
          have hu : unk n0 = false := decide_eq_false (fun h => absurd (beq_iff_eq.mpr h) (by rw [Bool.not_eq_true]; with_reducible assumption))
          exact hdone.app (Vals.num1 (by rw [hu, if_neg (by decide)]))
    | txt x0 r =>
      obtain ⟨t0, vs', e, hr⟩ := hrem
      obtain ⟨rfl, rfl⟩ := List.cons.inj e
      (repeat' ((fail_if_success (with_reducible show wpAny _ _ (exec (Stmt.For _ _ _ _ _) _) _ _ _)); (fail_if_success (with_reducible show wpAny _ _ (exec (Stmt.While _ _ _ _) _) _ _ _)); (first | (k_unfold; (try dsimp only)) | walk1 | (dsimp only; walk1))))
      (with_reducible rename Fr _ _ _ _ => F3); (with_reducible rename News _ _ _ _ => N3)
      refine hQt _ _ ?_
      refine TurnPost.next F3 N3 (off_cons hDI fun q hq => hoff q (.tail _ hq)) ⟨by (conv => lhs; whnf); with_reducible assumption, _, _, _, rfl, hex, by rw [Array.size_push, hsz], done.app (.txt x0 .nil), r, ?_, hr, ?_⟩
      · rw [Tr.app_assoc]; rfl
      · rw [Array.toList_push, knownT_app]
        exact hdone.app ⟨_, _, rfl, rfl⟩
    | sub t1 r =>
      obtain ⟨a1, vs', ws1, e, hl1, hv1, hr⟩ := hrem
      obtain ⟨rfl, rfl⟩ := List.cons.inj e
      (repeat' ((fail_if_success (with_reducible show wpAny _ _ (exec (Stmt.For _ _ _ _ _) _) _ _ _)); (fail_if_success (with_reducible show wpAny _ _ (exec (Stmt.While _ _ _ _) _) _ _ _)); (first | (k_unfold; (try dsimp only)) | walk1 | (dsimp only; walk1))))
      (with_reducible rename Fr _ _ _ _ => F3); (with_reducible rename News _ _ _ _ => N3)
      refine (ih t1 (by simp only [Tr.dep] at hd'; exact depn hd') hok'.2.1.1 hok'.2.1.2.1 a1).use (rest := _) F3 N3 X T hh (by omega) (by omega) (fun _ _ _ h => absurd h List.not_mem_nil) ⟨ws1, stays_list (stays_hide F3.keep fun _ h => absurd h List.not_mem_nil) hl1, inHeap_keeps (stays_hide F3.keep fun _ h => absurd h List.not_mem_nil) hv1⟩ ?_
      rintro r3 h4 tk4 ns F4 N4 hne ⟨D4, ws4, k4, rfl, hm4, hv4⟩
      have hN5 : News g L h4 ((I, it) :: (D, W.listOf vs k) :: (ns ++ extra)) := fun q hq => N4 q (by
        rcases List.mem_cons.mp hq with rfl | hq
        · exact List.mem_append_right _ (.head _)
        · rcases List.mem_cons.mp hq with rfl | hq
          · exact List.mem_append_right _ (.tail _ (.head _))
          · rcases List.mem_append.mp hq with hq | hq
            · exact List.mem_append_left _ hq
            · exact List.mem_append_right _ (.tail _ (.tail _ hq)))
      have hex4 : ∀ q ∈ ns ++ extra, q.1 ≠ D := fun q hq => by
        rcases List.mem_append.mp hq with hq | hq
        · exact hne q hq _ (.tail _ (.head _))
        · exact hex q hq
      clear N4
      (repeat' ((fail_if_success (with_reducible show wpAny _ _ (exec (Stmt.For _ _ _ _ _) _) _ _ _)); (fail_if_success (with_reducible show wpAny _ _ (exec (Stmt.While _ _ _ _) _) _ _ _)); (first | (k_unfold; (try dsimp only)) | walk1 | (dsimp only; walk1))))
      (with_reducible rename Fr _ _ _ _ => F5); (with_reducible rename News _ _ _ _ => N5)
      refine hQt _ _ ?_
      refine TurnPost.next F5 N5 (fun q hq r hr => ?_) ⟨by (conv => lhs; whnf); with_reducible assumption, _, _, _, rfl, hex4, by rw [Array.size_push, hsz], done.app (.sub t1 .nil), r, ?_, hr, ?_⟩
      · rcases List.mem_singleton.mp hr with rfl
        rcases List.mem_cons.mp hq with rfl | hq
        · exact hDI
        · rcases List.mem_append.mp hq with hq | hq
          · exact hne q hq _ (.head _)
          · exact hoff q (.tail _ hq)
      · rw [Tr.app_assoc]; rfl
      · rw [Array.toList_push, knownT_app]
        exact (hdone.mono fun a ws ⟨n, h⟩ => ⟨n, List.mem_append_right _ h⟩).app ⟨_, _, _, rfl, ⟨_, List.mem_append_left _ hm4⟩, hv4.mono fun a ws ⟨n, h⟩ => ⟨n, List.mem_append_left _ h⟩, rfl⟩
  · rintro h' tk m' news' F5 N5 ⟨hm1, vs, k, extra, rfl, hex, hsz, done, rem, rfl, hrem, hdone⟩
    rw [List.drop_length] at hrem
    have hr : rem = .nil := by
      cases rem with
      | nil => rfl
      | num n0 r => obtain ⟨_, _, e, _⟩ := hrem; cases e
      | txt n0 r => obtain ⟨_, _, e, _⟩ := hrem; cases e
      | sub n0 r => obtain ⟨_, _, _, e, _⟩ := hrem; cases e
    subst hr
    rw [Tr.app_nil] at hret
    (repeat' ((fail_if_success (with_reducible show wpAny _ _ (exec (Stmt.For _ _ _ _ _) _) _ _ _)); (fail_if_success (with_reducible show wpAny _ _ (exec (Stmt.While _ _ _ _) _) _ _ _)); (first | (k_unfold; (try dsimp only)) | walk1 | (dsimp only; walk1))))
    exact hret _ _ _ _ _ F5 N5 ⟨D, vs.toList, k, rfl, by rw [Array.toArray_toList]; exact .head _, hdone.mono fun a ws ⟨n, h⟩ => ⟨n, .tail _ h⟩⟩
end
section
noncomputable def deepS (m : Str) : Str := m ++ Str.ofString "\"" ++ m ++ Str.ofString "\"" ++ m
noncomputable def safeTxt : Str := Str.ofString "ABCDEFGHIJKLMNOPQRSTUVWXYZabcdefghijklmnopqrstuvwxyz0123456789_@%+=:,./-"
/-- what stands bare in a line: a directory of one file of a known kind, neither directory nor link -/
noncomputable def bareT : Tr → Bool
  | .num n .nil => [1, 2, 6, 8, 12].contains (n / 4096)
  | _ => false
noncomputable def bareX (x : Str) : Bool := decide (x ≠ Str.ofString "") && x.cps.all fun c => safeTxt.cps.contains c
noncomputable def escX (d x : Str) : Str := Str.join (Str.ofString "") (x.cps.toList.map fun c => if c = 39 then d else sgn c)
noncomputable def barred (b : Bool) (m x : Str) : Str := if b = true then x else m ++ x ++ m
noncomputable def toldW (m : Str) : Tr → List Str
  | .nil => []
  | .num n r => barred (!unk n) m (sigTo n 3) :: toldW m r
  | .txt x r => barred (bareX x) m (escX (deepS m) x) :: toldW m r
  | .sub t r => barred (bareT t) m (Str.join (Str.ofString " ") (toldW (deepS m) t)) :: toldW m r
noncomputable def toldS (m : Str) (t : Tr) : Str := Str.join (Str.ofString " ") (toldW m t)
theorem toldW_app (m : Str) : ∀ a b : Tr, toldW m (a.app b) = toldW m a ++ toldW m b
  | .nil, _ => rfl
  | .num n r, b => by rw [Tr.app, toldW, toldW, toldW_app m r b]; exact List.cons_append.symm
  | .txt n r, b => by rw [Tr.app, toldW, toldW, toldW_app m r b]; exact List.cons_append.symm
  | .sub n r, b => by rw [Tr.app, toldW, toldW, toldW_app m r b]; exact List.cons_append.symm
/-- how long it may be -/
noncomputable def lenB (M : Nat) : Tr → Nat
  | .nil => 0
  | .num _ r => 2 * M + 11 + lenB M r
  | .txt _ r => 5 * M + 3 + lenB M r
  | .sub t r => 2 * M + lenB (3 * M + 2) t + 1 + lenB M r
theorem deepS_len {m : Str} {M : Nat} (h : m.length ≤ M) : (deepS m).length ≤ 3 * M + 2 := by
  unfold deepS
  simp only [Str.length_append]
  have : (Str.ofString "\"").length = 1 := by decide
  omega
theorem sgn_eq {c : Nat} (h : (({ cps := #[c] } : Str) == Str.ofString "'") = true) : c = 39 := by
  have e : Str.ofString "'" = ⟨#[39]⟩ := by decide
  have := eq_of_beq h
  rw [e] at this
  simpa using this
theorem sgn_ne {c : Nat} (h : (({ cps := #[c] } : Str) == Str.ofString "'") = false) : c ≠ 39 := by
  rintro rfl
  have : (({ cps := #[39] } : Str) == Str.ofString "'") = true := by decide
  rw [this] at h; cases h
theorem one_cases {x : Str} (h : x.length ≤ 1) : x = ⟨#[]⟩ ∨ ∃ c, x = ⟨#[c]⟩ := by
  obtain ⟨⟨l⟩⟩ := x
  have h' : l.length ≤ 1 := h
  match l, h' with
  | [], _ => exact .inl rfl
  | [c], _ => exact .inr ⟨c, rfl⟩
  | _ :: _ :: _, h => simp at h
theorem join_len (sep : Str) : ∀ l : List Str, (Str.join sep l).length ≤ (l.map fun x => x.length).sum + l.length * sep.length
  | [] => Nat.zero_le _
  | [a] => by
    show a.length ≤ a.length + 0 + 1 * sep.length
    omega
  | a :: b :: r => by
    have ih := join_len sep (b :: r)
    show (a ++ sep ++ Str.join sep (b :: r)).length ≤ _
    rw [Str.length_append, Str.length_append, List.map_cons, List.sum_cons, List.length_cons (a := a)]
    rw [Nat.add_mul]
    omega
theorem escX_len {d x : Str} {B : Nat} (hd : d.length ≤ B) (hB : 1 ≤ B) (hx : x.length ≤ 1) : (escX d x).length ≤ B := by
  rcases one_cases hx with rfl | ⟨c, rfl⟩
  · exact Nat.zero_le _
  · show (if c = 39 then d else sgn c).length ≤ B
    split
    · exact hd
    · exact hB
theorem escX_sum {d x : Str} {B : Nat} (hd : d.length ≤ B) (hB : 1 ≤ B) (hx : x.length ≤ 1) : ((x.cps.toList.map fun c => if c = 39 then d else sgn c).map fun y => y.length).sum ≤ B ∧ (x.cps.toList.map fun c => if c = 39 then d else sgn c).length ≤ 1 := by
  rcases one_cases hx with rfl | ⟨c, rfl⟩
  · exact ⟨Nat.zero_le _, Nat.zero_le _⟩
  · refine ⟨?_, Nat.le_refl _⟩
    show (if c = 39 then d else sgn c).length + 0 ≤ B
    split
    · exact hd
    · exact hB
theorem barred_len (b : Bool) (m x : Str) : (barred b m x).length ≤ 2 * m.length + x.length := by
  unfold barred
  split
  · omega
  · rw [Str.length_append, Str.length_append]; omega
theorem space_len : (Str.ofString " ").length = 1 := by decide
theorem toldW_sum : ∀ (t : Tr) (m : Str) (M : Nat), t.ok → m.length ≤ M → ((toldW m t).map fun x => x.length).sum + (toldW m t).length ≤ lenB M t
  | .nil, m, M, _, _ => Nat.le_refl _
  | .num n r, m, M, h, hm => by
    have ih := toldW_sum r m M h.2 hm
    have h1 := barred_len (!unk n) m (sigTo n 3)
    have h2 := sigTo_len n 3
    rw [toldW, lenB, List.map_cons, List.sum_cons, List.length_cons]
    omega
  | .txt x r, m, M, h, hm => by
    have ih := toldW_sum r m M h.2 hm
    have h1 := barred_len (bareX x) m (escX (deepS m) x)
    have h2 := escX_len (deepS_len hm) (by omega) h.1.1
    rw [toldW, lenB, List.map_cons, List.sum_cons, List.length_cons]
    omega
  | .sub t r, m, M, h, hm => by
    have ih := toldW_sum r m M h.2 hm
    have ih2 := toldW_sum t (deepS m) (3 * M + 2) h.1.1 (deepS_len hm)
    have h1 := barred_len (bareT t) m (Str.join (Str.ofString " ") (toldW (deepS m) t))
    have h2 := join_len (Str.ofString " ") (toldW (deepS m) t)
    rw [space_len] at h2
    rw [toldW, lenB, List.map_cons, List.sum_cons, List.length_cons]
    omega
theorem toldS_len {t : Tr} {m : Str} {M : Nat} (h : t.ok) (hm : m.length ≤ M) : (toldS m t).length ≤ lenB M t := by
  have h1 := toldW_sum t m M h hm
  have h2 := join_len (Str.ofString " ") (toldW m t)
  rw [space_len] at h2
  unfold toldS
  omega
theorem lenB_app (M : Nat) : ∀ a b : Tr, lenB M (a.app b) = lenB M a + lenB M b
  | .nil, b => (Nat.zero_add _).symm
  | .num n r, b => by rw [Tr.app, lenB, lenB, lenB_app M r b]; omega
  | .txt n r, b => by rw [Tr.app, lenB, lenB, lenB_app M r b]; omega
  | .sub n r, b => by rw [Tr.app, lenB, lenB, lenB_app M r b]; omega
theorem bareX_one {c : Nat} : bareX ⟨#[c]⟩ = safeTxt.cps.contains c := by
  unfold bareX
  have : decide ((⟨#[c]⟩ : Str) ≠ Str.ofString "") = true := decide_eq_true (fun e => by
    have := congrArg (fun x => x.cps.size) e
    cases this)
  rw [this]
  simp
theorem barred_t (m x : Str) : barred true m x = x := if_pos rfl
theorem barred_f (m x : Str) : barred false m x = m ++ x ++ m := if_neg Bool.false_ne_true
theorem toldS_def (m : Str) (t : Tr) : toldS m t = Str.join (Str.ofString " ") (toldW m t) := rfl
theorem bareT_len : ∀ {t : Tr}, t.len ≠ 1 → bareT t = false
  | .nil, _ => rfl
  | .num n .nil, h => absurd rfl h
  | .num n (.num ..), _ => rfl
  | .num n (.txt ..), _ => rfl
  | .num n (.sub ..), _ => rfl
  | .txt .., _ => rfl
  | .sub .., _ => rfl
theorem len_one : ∀ {t : Tr}, t.len = 1 → t.hd → ∃ n, t = .num n .nil
  | .nil, h, _ => by cases h
  | .num n .nil, _, _ => ⟨n, rfl⟩
  | .num n (.num ..), h, _ => by simp [Tr.len] at h
  | .num n (.txt ..), h, _ => by simp [Tr.len] at h
  | .num n (.sub ..), h, _ => by simp [Tr.len] at h
  | .txt .., _, h => h.elim
  | .sub .., _, h => h.elim
end
section
section
variable {prog : Program} {w : World} {A : Around} {E : Value → Shared → Prop} {s : Shared} {g : Heap} {L : Addr} {m : Str → Option Value} {news : List (Addr × Obj)} {env : Env}
theorem add_s {x y : Str} {t u : Tok} {Q : Value → Shared → Prop} (hsz : x.length + y.length ≤ 16777216) (h : ∀ t' k, Q (.str (x ++ y) t') ⟨s.heap, s.gens, s.drawn, k, s.os⟩) : wpAny (model prog w) A (binaryOp .Add (.str x t) (.str y u)) Q E s :=
  SBL.add (fun t' k _ => h t' k) (by rw [sizeLine_eq]; exact hsz)
theorem len_base {a : Addr} {items : List Value} {Q : Value → Shared → Prop} (hl : g.IsList a items.toArray) (F : Fr g L s.heap m) (hn : items.length ≤ 1000000) (h : ∀ t k, Q (.int items.length t) ⟨s.heap, s.gens, s.drawn, k, s.os⟩) : wpAny (model prog w) A (call (.builtin "len") [.ref a]) Q E s := by
  refine len_list (stays_list F.keep hl) ?_ ?_
  · rw [List.size_toArray]; omega
  · have := h (s.toks + 1) (s.toks + 1 + 1)
    rwa [← List.size_toArray] at this
/-- what a list of texts is paired with -/
theorem paired_strs {pz : Nat → Bool} {f : Nat → Str} : ∀ {vs : List Value} {cs : List Nat} {ys : List Value}, vs.length = cs.length → (∀ (j : Nat) (v : Value), vs[j]? = some v → ∃ c u, cs[j]? = some c ∧ v = Value.str ⟨#[c]⟩ u) →
    Paired (fun v r => ∃ c u t, v = Value.str ⟨#[c]⟩ u ∧ r = Value.str (f c) t) (vs.filter fun v => match v with | .str x _ => pz (x.cps.getD 0 0) | _ => false) ys → StrsAre ys ((cs.filter pz).map f)
  | [], [], _, _, _, h => by cases h; exact .nil
  | [], _ :: _, _, e, _, _ => by cases e
  | _ :: _, [], _, e, _, _ => by cases e
  | v :: vs, c :: cs, ys, e, hj, h => by
    obtain ⟨c', u, hc, rfl⟩ := hj 0 v rfl
    have hc' : c = c' := by simpa using hc
    subst hc'
    have ih := fun ys => paired_strs (pz := pz) (f := f) (vs := vs) (cs := cs) (ys := ys) (by simpa using e) fun j v hv => by simpa using hj (j + 1) v (by simpa using hv)
    have e0 : (match Value.str ⟨#[c]⟩ u with | .str x _ => pz (x.cps.getD 0 0) | _ => false) = pz c := rfl
    rw [List.filter_cons, e0] at h
    rw [List.filter_cons]
    cases hp : pz c with
    | false =>
      rw [hp] at h
      exact ih _ h
    | true =>
      rw [hp] at h
      cases h with
      | cons h1 h2 =>
        obtain ⟨c1, u1, t1, e1, rfl⟩ := h1
        have : c = c1 := by
          injection e1 with e2
          injection e2 with e3
          simpa using e3
        subst this
        exact .cons _ _ (ih _ h2)
/-- a comprehension over the signs of a text, in a frame with cells -/
theorem comp_signs {elt iter : Expr} {x : Str} {px : Pos} {ifs : List Expr} {scope : Scope} {cl : List (Str × Addr)} {pos : Pos} {Q : Value → Shared → Prop} {y : Str} (pz : Nat → Bool) (f : Nat → Str)
    (hh : A.handled = none) (hclos : closureFor scope env = pure cl) (hcell : ∀ y ∈ scope.names, y.2 ≠ .cell) (hkind : scope.kind = .function)
    (hnames : ∀ y ∈ scope.names, y.2 = .local → scope.names.lookup y.1 = some .local) (hx : scope.names.lookup x = some .local)
    (hy : y.length ≤ sizeLine) (F : Fr g L s.heap m) (N : News g L s.heap news)
    (hi : ∀ Q' : Value → Shared → Prop, (∀ ty, Q' (Value.str y ty) s) → wpAny (model prog w) A (eval iter env) Q' E s)
    (tests : ∀ C c u s₂ m₂ E' (Q'' : Bool → Shared → Prop), c ∈ y.cps.toList → s₂.heap.Ns C m₂ → m₂ x = some (.str ⟨#[c]⟩ u) → News g L s₂.heap news → (∀ k, Q'' (pz c) ⟨s₂.heap, s₂.gens, s₂.drawn, k, s₂.os⟩) →
      wpAny (model prog w) A (forIn ifs true fun c r => if r = true then do let ok ← isTrue c (compEnvC scope cl C env) (eval c (compEnvC scope cl C env)); pure (ForInStep.yield ok) else pure (ForInStep.yield r)) Q'' E' s₂)
    (elts : ∀ C c u s₂ m₂ E' (Q'' : Value → Shared → Prop), c ∈ y.cps.toList → s₂.heap.Ns C m₂ → m₂ x = some (.str ⟨#[c]⟩ u) → News g L s₂.heap news → (∀ t k, Q'' (.str (f c) t) ⟨s₂.heap, s₂.gens, s₂.drawn, k, s₂.os⟩) →
      wpAny (model prog w) A (eval elt (compEnvC scope cl C env)) Q'' E' s₂)
    (hQ : ∀ D (ys : Array Value) k h' tk, Fr g L h' m → News g L h' ((D, W.listOf ys k) :: news) → (∀ q ∈ news, q.1 ≠ D) → StrsAre ys.toList ((y.cps.toList.filter pz).map f) → Q (.ref D) { s with heap := h', toks := tk })
    (hs : ∀ x, foldedSetIterable iter env x = pure x := by intro _; rfl) :
    wpAny (model prog w) A (eval (.ListComp elt [⟨.Name x px, iter, ifs, 0⟩] scope pos) env) Q E s := by
  refine wpAny_ListComp_free (fun v => match v with | .str x _ => pz (x.cps.getD 0 0) | _ => false) (fun v r => ∃ c u t, v = Value.str ⟨#[c]⟩ u ∧ r = Value.str (f c) t) hclos hcell hkind hnames hx (hi _ fun ty => ?_) hs
  refine wpAny_pyIter_str fun o St Wk hst => ?_
  have up : ∀ (h' : Heap), (∀ b o', b ∉ [s.heap.objs.size] → (s.heap.push o).get? b = some o' → h'.get? b = some o') → ∀ b o', s.heap.get? b = some o' → h'.get? b = some o' :=
    fun h' hk b o' e => hk b o' (old_not_new e) (Heap.get?_push_of_some _ e)
  have mem : ∀ {i c}, y.cps[i]? = some c → c ∈ y.cps.toList := fun h => Array.mem_toList_iff.mpr (Array.mem_of_getElem? h)
  refine ⟨s.heap.objs.size, [s.heap.objs.size], [s.heap.objs.size], y.cps.size, SignAt y, St, rfl, Wk A hh, hy, hst, ?_, ⟨?_, ?_⟩, ?_⟩
  · intro b hb
    show b < (s.heap.push o).objs.size
    rw [Heap.size_push, List.mem_singleton.mp hb]
    exact Nat.lt_succ_self _
  · intro C i v s₃ m₃ E' _ hP hn hm hk _
    obtain ⟨c, u, hc, rfl⟩ := hP
    exact tests C c u s₃ m₃ E' _ (mem hc) hn hm (news_of_stays N (up _ hk)) fun k => ⟨rfl, _, _, rfl, fun _ _ e => e⟩
  · intro C i v s₃ m₃ E' _ hP _ hn hm hk _
    obtain ⟨c, u, hc, rfl⟩ := hP
    exact elts C c u s₃ m₃ E' _ (mem hc) hn hm (news_of_stays N (up _ hk)) fun t k => ⟨⟨c, u, t, rfl, rfl⟩, _, _, rfl, fun _ _ e => e⟩
  · intro D h' tk ys vs hnew hlD hplD hlen hP hF hk
    obtain ⟨k, hpl⟩ := hplD
    have hk' := up h' hk
    have fresh : ∀ b o', s.heap.get? b = some o' → b ≠ D := fun b o' e e' => by
      subst e'
      have := Heap.get?_push_of_some o e
      rw [hnew] at this; cases this
    refine hQ D ys k h' tk (F.keeps hk') (fun q hq => ?_) (fun q hq => fresh _ _ (N q hq).1) (paired_strs (by rw [hlen, Array.length_toList]) (fun j v hv => ?_) hF)
    · rcases List.mem_cons.mp hq with rfl | hq
      · refine ⟨hpl, fun e => ?_, ?_⟩
        · obtain ⟨o', _, _, ho', _⟩ := F.ns
          exact fresh _ _ ho' e.symm
        · cases e : g.get? D with
          | none => rfl
          | some o' => exact absurd rfl (fresh _ _ (F.keep _ _ e))
      · exact news_of_stays N hk' q hq
    · obtain ⟨c, u, hc, rfl⟩ := hP j v hv
      exact ⟨c, u, by rw [Array.getElem?_toList]; exact hc, rfl⟩
end
end
section
variable {w : World} {p : Program} {loose : List Str} {mg mb : Str → Option Value}
theorem bindL_local {kindOf : Str → Option NameKind} : ∀ (binds : List (Str × Value)) (m : Str → Option Value), (∀ x ∈ binds, kindOf x.1 = some .local) → bindL kindOf binds m = fun y => (binds.reverse.lookup y).or (m y)
  | [], m, _ => funext fun y => rfl
  | (n, v) :: r, m, h => by
    show bindL kindOf r (if kindOf n = some .local then _ else m) = _
    rw [if_pos (h (n, v) (.head _)), bindL_local r _ fun x hx => h x (.tail _ hx)]
    funext y
    rw [List.reverse_cons, List.lookup_append]
    by_cases e : y = n
    · subst e
      simp [List.lookup]
    · have hb : (y == n) = false := beq_eq_false_iff_ne.mpr e
      simp [List.lookup, e, hb]
theorem bindC_local {kindOf : Str → Option NameKind} : ∀ (binds : List (Str × Value)) (m : Str → Option Value), (∀ x ∈ binds, kindOf x.1 = some .local) → bindC kindOf binds m = m
  | [], m, _ => rfl
  | (n, v) :: r, m, h => by
    show bindC kindOf r (if kindOf n = some .local then m else _) = _
    rw [if_pos (h (n, v) (.head _)), bindC_local r _ fun x hx => h x (.tail _ hx)]
/-- a contract of a def with cells -/
theorem Con.of_cells {f : Addr} {vs : List Value} {d u : Nat} {pre : Heap → Prop} {post : Value → List (Addr × Obj) → Prop} {st st1 : Stmt} {rest : List Stmt} {name : String} {pm cdv : Value} {kd : ScopeKind} {names : List (Str × NameKind)} {ig ic : Bool} {more : List (Str × Const)} (binds : List (Str × Value))
    (ho : (KK w.params).lookup f = some ⟨.type "function", none, .func (fnAt st name name .none pm cdv), #[]⟩) (hcd : codeIn (KK w.params) cdv (Str.ofString name) = true)
    (hbody : dBody st = st1 :: rest) (hscope : dScope st = ⟨kd, names, ig, ic, more⟩)
    (hbind : bindArgs (fnAt st name name .none pm cdv) ⟨vs, []⟩ = pure binds) (hloc : (binds.all fun x => decide (names.lookup x.1 = some .local)) = true)
    (hnd : ((cellsFrom 0 names []).map (·.1)).Nodup) (cl : Addr → List (Str × Addr)) (hcl : ∀ L : Addr, cellsFrom (L + 1) names [] = cl L)
    (hco : ic = false) (hgen : ig = false) (hk : kd = .function) (hd : 0 < d)
    (hpre : ∀ h h' : Heap, h.StaysIn h' → pre h → pre h')
    (h : ∀ (A : Around) (g : Heap) (L : Addr) (s : Shared) (Q : Flow → Shared → Prop) (cells : List (Addr × Obj)), Fr g L s.heap (fun y => binds.reverse.lookup y) → News g L s.heap cells →
      CellsAre (fun _ => none) (cl L) cells →
      (KK w.params).In g → TopRead p loose mg mb g → A.handled = none → A.depth + d < recursionLimit + 1 → A.units + u < cLine + 3 → pre g →
      (∀ v h' tk' m ns, Fr g L h' m → News g L h' ns → post v ns → Q (.ret v) { s with heap := h', toks := tk' }) →
      wpAny (model PySem.Challenge.rw_mr0361_01.prog w) A (execs (st1 :: rest) (envX (Str.ofString name) ⟨kd, names, ig, ic, more⟩ L f cdv (cl L))) Q (fun _ _ => False) s) : Con w p loose mg mb f vs d u [] pre post := by
  intro A s Q E H hH X T hh hroom hun hmut hp hret
  have Xs : (KK w.params).In s.heap := X.keeps hH
  have Ts := T.keeps hH
  unfold fnAt at ho hbind
  rw [hbody, hscope] at ho hbind
  refine wpAny_call (call_cellsN_ret (name := Str.ofString name) (params := dPar st) (body := st1 :: rest) (scope := ⟨kd, names, ig, ic, more⟩) (pm := pm) (cd := cdv) (doc := .none) (binds := binds) (by omega) (Xs _ _ ho) rfl Ts.nolimit (codeRec_of Xs hcd) hbind (fun x hx => .inl (of_decide_eq_true (List.all_eq_true.mp hloc x hx))) hnd (fun h₁ tk cells F N C => ?_) hco hgen hk)
  have hall : ∀ x ∈ binds, (envOfC (Str.ofString name) ⟨kd, names, ig, ic, more⟩ s.heap.objs.size f cdv).kindOf x.1 = some .local := fun x hx => of_decide_eq_true (List.all_eq_true.mp hloc x hx)
  rw [bindL_local _ _ hall] at F
  rw [bindC_local _ _ hall] at C
  have C' : CellsAre (fun _ => none) (cl s.heap.objs.size) cells := hcl _ ▸ C
  have F' : Fr s.heap s.heap.objs.size h₁ (fun y => binds.reverse.lookup y) := by
    have e : (fun y => (binds.reverse.lookup y).or none) = fun y => binds.reverse.lookup y := funext fun y => Option.or_none
    exact e ▸ F
  have henv : envOfC (Str.ofString name) ⟨kd, names, ig, ic, more⟩ s.heap.objs.size f cdv = envX (Str.ofString name) ⟨kd, names, ig, ic, more⟩ s.heap.objs.size f cdv (cl s.heap.objs.size) := by rw [← hcl]; rfl
  rw [henv]
  refine wpAny_mono (h (A.deeper _) s.heap _ _ _ cells F' N C' Xs Ts hh (by show A.depth + 1 + d < _; omega) (by show A.units + 3 + u < _; omega) (hpre _ _ hH hp) fun v h' tk' m ns F' N' hq => ?_) (fun _ _ q => q) fun _ _ q => q.elim
  exact hret v h' tk' ns (fun b o e _ => F'.keep b o e) (fun q hq' => ⟨(N' q hq').1, .inr (N' q hq').2.2⟩) hq

section
variable {M : Model} {A : Around} {E : Value → Shared → Prop} {s : Shared} {cn : Str} {cs : Scope} {L a : Addr} {ccd : Value} {cl : List (Str × Addr)} {g : Heap} {m : Str → Option Value} {news : List (Addr × Obj)} {x : Str} {Q : Unit → Shared → Prop}
theorem stx_int {i : Int} {t : Tok} (F : Fr g L s.heap m) (N : News g L s.heap news)
    (h : ∀ h' tk t', Fr g L h' (fun y => if y = x then some (.int i t') else m y) → News g L h' news → Q () ⟨h', s.gens, s.drawn, tk, s.os⟩)
    (hk : cs.kind = .function) (hl : (envX cn cs L a ccd cl).kindOf x = some .local) : wpAny M A (storeName (envX cn cs L a ccd cl) x (.int i t)) Q E s :=
  storeX_L F N (fun h' F' N' => h h' _ t F' N') hk hl
theorem stx_str {i : Str} {t : Tok} (F : Fr g L s.heap m) (N : News g L s.heap news)
    (h : ∀ h' tk t', Fr g L h' (fun y => if y = x then some (.str i t') else m y) → News g L h' news → Q () ⟨h', s.gens, s.drawn, tk, s.os⟩)
    (hk : cs.kind = .function) (hl : (envX cn cs L a ccd cl).kindOf x = some .local) : wpAny M A (storeName (envX cn cs L a ccd cl) x (.str i t)) Q E s :=
  storeX_L F N (fun h' F' N' => h h' _ t F' N') hk hl
theorem stx_any {v : Value} (F : Fr g L s.heap m) (N : News g L s.heap news)
    (h : ∀ h' tk, Fr g L h' (fun y => if y = x then some v else m y) → News g L h' news → Q () ⟨h', s.gens, s.drawn, tk, s.os⟩)
    (hk : cs.kind = .function) (hl : (envX cn cs L a ccd cl).kindOf x = some .local) : wpAny M A (storeName (envX cn cs L a ccd cl) x v) Q E s :=
  storeX_L F N (fun h' F' N' => h h' _ F' N') hk hl
end
theorem ld_compL {M : Model} {A : Around} {E : Value → Shared → Prop} {s : Shared} {scope : Scope} {cl : List (Str × Addr)} {C : Addr} {env : Env} {m₂ : Str → Option Value} {x : Str} {pos : Pos} {v : Value} {Q : Value → Shared → Prop} (hn : s.heap.Ns C m₂) (hm : m₂ x = some v) (h : Q v s)
    (hk : (compEnvC scope cl C env).scope.kind = .function) (hx : (compEnvC scope cl C env).kindOf x = some .local) (hb : (x == ("__debug__" : Str)) = false := by decide) : wpAny M A (eval (.Name x pos) (compEnvC scope cl C env)) Q E s :=
  wpAny_Name (wpAny_loadName_local hk hx hn hm h) hb
local macro_rules | `(tactic| walk_at "eval Name") => `(tactic| (k_here; (first
  | refine' nameX_L (by k_asm) (by k_dflt first | exact rfl | ((conv => lhs; whnf); with_reducible assumption)) ?_ (by k_dflt rfl) (by k_dflt rfl)
  | refine' nameX_C (by k_asm) (by k_dflt rfl) (by k_dflt k_mem) (by with_reducible assumption) ?_ (by k_dflt rfl) (by k_dflt rfl)
  | refine' ld_compL (by with_reducible assumption) (by with_reducible assumption) ?_ (by k_dflt rfl) (by k_dflt rfl)
  | refine' lcf_cell (by k_asm) (by k_dflt rfl) (by k_dflt k_mem) (by with_reducible assumption) ?_ (by k_dflt rfl) (by k_dflt rfl)); k_whole))
local macro_rules | `(tactic| walk_at "binaryOp Add str str") => `(tactic| (k_here; refine' add_s (by (try simp only [Str.length_append, sigTo_len]); omega) ?_; intros))
local macro_rules | `(tactic| walk_at "storeName") => `(tactic| (k_here; (first | (k_dflt (first | refine' stx_int (by k_asm) (by k_asm) ?_ (by rfl) (by rfl) | refine' stx_str (by k_asm) (by k_asm) ?_ (by rfl) (by rfl) | refine' stx_any (by k_asm) (by k_asm) ?_ (by rfl) (by rfl)); k_whole; intros) | (k_dflt (refine' storeX_C (by k_asm) (by k_asm) (by rfl) (by k_updF) (by with_reducible assumption) ?_ (by rfl) (by rfl)); k_whole; intro _ _ _ N' _; (try dsimp only at N'))); (try k_sweep); (try dsimp only)))
noncomputable def toldJ (g : Heap) (L Wd : Addr) (oS oD : Obj) (mk : Str) (tm : Tok) (ws : List Value) (t : Tr) (i : Nat) (m : Str → Option Value) (news : List (Addr × Obj)) : Prop :=
  m "mark" = some (.str mk tm) ∧ m "words" = some (.ref Wd) ∧ ∃ vs k, news = [(Wd, W.listOf vs k), (L + 2, oS), (L + 1, oD)] ∧ vs.size = i ∧
      ∃ done rem : Tr, t = done.app rem ∧ Vals (inHeap g) rem (ws.drop i) ∧ StrsAre vs.toList (toldW mk done)
theorem told_fin {g : Heap} {L Wd I : Addr} {oS oD it : Obj} {mk y y' : Str} {tm ty : Tok} {ws : List Value} {vs : Array Value} {k i tk' : Nat} {done one r : Tr} {m' : Str → Option Value} {h' : Heap} {s : Shared} {Q : Flow → Shared → Prop}
    (hWI : Wd ≠ I) (hSI : L + 2 ≠ I) (hDI : L + 1 ≠ I) (hsz : vs.size = i) (hdone : StrsAre vs.toList (toldW mk done)) (hr : Vals (inHeap g) r (ws.drop (i + 1)))
    (hy : toldW mk one = [y]) (hyy : y' = y) (h1 : m' "mark" = some (.str mk tm)) (h2 : m' "words" = some (.ref Wd)) (F : Fr g L h' m') (N : News g L h' [(I, it), (Wd, W.listOf (vs.push (.str y' ty)) k), (L + 2, oS), (L + 1, oD)]) :
    TurnPost g L [(I, it)] (toldJ g L Wd oS oD mk tm ws (done.app (one.app r)) (i + 1)) s Q .next ⟨h', s.gens, s.drawn, tk', s.os⟩ := by
  subst hyy
  refine TurnPost.next F N (fun q hq z hz => ?_) ⟨h1, h2, _, _, rfl, by rw [Array.size_push, hsz], done.app one, r, (Tr.app_assoc _ _ _).symm, hr, ?_⟩
  · rcases List.mem_singleton.mp hz with rfl
    rcases List.mem_cons.mp hq with rfl | hq
    · exact hWI
    · rcases List.mem_cons.mp hq with rfl | hq
      · exact hSI
      · rcases List.mem_singleton.mp hq with rfl
        exact hDI
  · rw [Array.toList_push, toldW_app, hy]
    exact StrsAre.snoc hdone
theorem occ_one (x : Str) (c : Nat) : (!(Builtin.Str.occurrences x ⟨#[c]⟩ 0 x.length 1).isEmpty) = x.cps.contains c := by
  rw [StrLaws.found_one]
  simp
theorem Vals.nil_of {P : Holds} : ∀ {t : Tr}, Vals P t [] → t = .nil
  | .nil, _ => rfl
  | .num .., ⟨_, _, e, _⟩ => by cases e
  | .txt .., ⟨_, _, e, _⟩ => by cases e
  | .sub .., ⟨_, _, _, e, _⟩ => by cases e
theorem any_cast (m : Nat) : ∀ l : List Nat, l.contains m = (l.map Int.ofNat).any fun x => x == (m : Int)
  | [] => rfl
  | a :: l => by
    rw [List.contains_cons, List.map_cons, List.any_cons, any_cast m l]
    congr 1
    rw [Bool.eq_iff_iff, beq_iff_eq, beq_iff_eq]
    exact ⟨fun h => congrArg Int.ofNat h.symm, fun h => (Int.ofNat.inj h).symm⟩
theorem bareT_num {n : Nat} {b : Bool} (h : (([1, 2, 6, 8, 12] : List Int).any fun x => x == (n : Int).fdiv 4096) = b) : bareT (.num n .nil) = b := by
  rw [← h]
  have e : (n : Int).fdiv 4096 = ((n / 4096 : Nat) : Int) := by rw [Int.fdiv_eq_ediv_of_nonneg _ (by decide)]; rfl
  show [1, 2, 6, 8, 12].contains (n / 4096) = _
  rw [e]
  exact any_cast (n / 4096) [1, 2, 6, 8, 12]
theorem shaped_one {c : Nat} (h : PyData.strOk ⟨#[c]⟩ = true) : SeqAt.shaped (PyData.list [PyData.str (sgn c)]) = true := by
  unfold SeqAt.shaped
  have h1 : (PyData.list [PyData.str (sgn c)]).canLay0 = true := by
    show (PyData.strOk (sgn c) && true) = true
    rw [Bool.and_true]; exact h
  rw [h1]; rfl
theorem lb1 {a b c d K : Nat} (h : a + (b + c + 1 + d) ≤ K) : c ≤ K :=
  Nat.le_trans (Nat.le_trans (Nat.le_add_left c b) (Nat.le_trans (Nat.le_add_right _ 1) (Nat.le_trans (Nat.le_add_right _ d) (Nat.le_add_left _ a)))) h
theorem c_told : ∀ (n : Nat) (t : Tr) (mk : Str) (M : Nat), t.dep < n → t.ok → t.len ≤ 1000 → mk.length ≤ M → (M + 1) * 3 ^ n ≤ 300000 → lenB M t ≤ 1000000 → ∀ a tm, Con w p loose mg mb 853 [.ref a, .str mk tm] (n + 4) (60 * n + 60) [] (fun H => ∃ ws, H.IsList a ws.toArray ∧ Vals (inHeap H) t ws) (fun r ns => ∃ tr, r = .str (toldS mk t) tr) := by
  intro n
  induction n with
  | zero => exact fun t _ _ h => absurd h (Nat.not_lt_zero _)
  | succ n ih =>
  intro t mk M hdep hok hlen hmk hM hB a tm
  have hM3 : (3 * M + 2 + 1) * 3 ^ n ≤ 300000 := by
    have e : (3 * M + 2 + 1) * 3 ^ n = (M + 1) * 3 ^ (n + 1) := by
      rw [Nat.pow_succ, show 3 * M + 2 + 1 = (M + 1) * 3 by rw [Nat.add_mul, Nat.mul_comm M], Nat.mul_assoc, Nat.mul_comm 3]
    rw [e]; exact hM
  have hM1 : M + 1 ≤ 300000 := Nat.le_trans (Nat.le_mul_of_pos_right _ (Nat.pow_pos (by decide))) hM
  have hM2 : 3 * M + 3 ≤ 300000 := Nat.le_trans (Nat.le_mul_of_pos_right _ (Nat.pow_pos (by decide))) hM3
  have hmk5 : mk.length ≤ 100000 := Nat.le_trans hmk (Nat.le_of_mul_le_mul_left (c := 3) (b := 100000) (Nat.le_trans (Nat.le_add_right _ 3) hM2) (by decide))
  refine' Con.of_cells [("tree", .ref a), ("mark", .str mk tm)] ?ho ?hcd ?b1 ?b2 ?hb ?hl ?hnd (fun L => [(Str.ofString "safe", L + 2), (Str.ofString "deeper", L + 1)]) ?hcl ?a1 ?a2 ?a3 ?a4 ?hpre ?h
  case ho => k_is
  case hcd => k_is
  case hpre => exact fun h h' k ⟨ws, e, q⟩ => ⟨ws, stays_list k e, inHeap_keeps k q⟩
  all_goals try exact rfl
  case a4 => omega
  case hnd => decide
  case hcl => exact fun L => rfl
  rintro A g L s Q cells F N C X T hh hd hu ⟨ws, hl, hv⟩ hret
  obtain ⟨o1, o2, rfl, d1, d2⟩ := C.two
  have q1 : (Str.ofString "\"").length ≤ 1 := by decide
  have z1 : mk.length + (Str.ofString "\"").length ≤ 100001 := Nat.add_le_add hmk5 q1
  have z2 : mk.length + (Str.ofString "\"").length + mk.length ≤ 200001 := Nat.add_le_add z1 hmk5
  have z3 : mk.length + (Str.ofString "\"").length + mk.length + (Str.ofString "\"").length ≤ 200002 := Nat.add_le_add z2 q1
  have z4 : mk.length + (Str.ofString "\"").length + mk.length + (Str.ofString "\"").length + mk.length ≤ 300002 := Nat.add_le_add z3 hmk5
  have z5 : mk.length + (1 + 3 * 3) + mk.length ≤ 200010 := Nat.add_le_add (Nat.add_le_add_right hmk5 _) hmk5
  have hdl : (deepS mk).length ≤ 3 * M + 2 := deepS_len hmk
  (repeat' ((fail_if_success (with_reducible show wpAny _ _ (exec (Stmt.For _ _ _ _ _) _) _ _ _)); (fail_if_success (with_reducible show wpAny _ _ (eval (Expr.ListComp _ _ _ _) _) _ _ _)); (fail_if_success (with_reducible show wpAny _ _ (call (Value.builtin "len") _) _ _ _)); (fail_if_success (with_reducible show wpAny _ _ (compareOp CmpOp.Eq (Value.ref _) (Value.ref _)) _ _ _)); (fail_if_success (with_reducible show wpAny _ _ (subscriptTail _ _ (Value.ref _) _) _ _ _)); (first | (k_unfold; (try dsimp only)) | walk1 | (dsimp only; walk1))))
  clear z1 z2 z3 z4
  rename_i td _ _ oD dD _ oS dS Wd _ l1 _ _ F1 N1
  refine for_rule ?_
  (repeat' ((fail_if_success (with_reducible show wpAny _ _ (exec (Stmt.For _ _ _ _ _) _) _ _ _)); (fail_if_success (with_reducible show wpAny _ _ (eval (Expr.ListComp _ _ _ _) _) _ _ _)); (fail_if_success (with_reducible show wpAny _ _ (call (Value.builtin "len") _) _ _ _)); (fail_if_success (with_reducible show wpAny _ _ (compareOp CmpOp.Eq (Value.ref _) (Value.ref _)) _ _ _)); (fail_if_success (with_reducible show wpAny _ _ (subscriptTail _ _ (Value.ref _) _) _ _ _)); (first | (k_unfold; (try dsimp only)) | walk1 | (dsimp only; walk1))))
  refine pyIter_listB (items := ws) (L := L) rfl hh hl F1 N1 (toldJ g L Wd oS oD mk tm ws t) ?_ ?_ ?_
  · exact ⟨rfl, rfl, _, _, rfl, rfl, .nil, t, rfl, hv, .nil⟩
  · rintro I it hI i v m₁ news₁ h₁ tk₁ hx ⟨hm1, hm2, vs, k, rfl, hsz, done, rem, rfl, hrem, hdone⟩ hoff F2 N2
    refine post_abs fun Qt hQt => ?_
    have hWI : Wd ≠ I := hoff _ (.head _)
    have hSI : L + 2 ≠ I := hoff _ (.tail _ (.head _))
    have hDI : L + 1 ≠ I := hoff _ (.tail _ (.tail _ (.head _)))
    rw [drop_at hx] at hrem
    have hd' := hdep
    rw [Tr.dep_app] at hd'
    have hok' := Tr.ok_app.mp hok
    have hsl : vs.size ≤ sizeLine := by
      rw [sizeLine_eq, hsz]
      exact Nat.le_trans (Nat.le_of_lt (List.getElem?_eq_some_iff.mp hx).1) (Nat.le_trans (Nat.le_of_eq hv.len) (Nat.le_trans hlen (by decide)))
    cases rem with
    | nil => cases hrem
    | num n0 r =>
      obtain ⟨t0, vs', e, hr⟩ := hrem
      obtain ⟨rfl, rfl⟩ := List.cons.inj e
      obtain ⟨hn0, hokr⟩ := hok'.2
      (repeat' ((fail_if_success (with_reducible show wpAny _ _ (exec (Stmt.For _ _ _ _ _) _) _ _ _)); (fail_if_success (with_reducible show wpAny _ _ (eval (Expr.ListComp _ _ _ _) _) _ _ _)); (fail_if_success (with_reducible show wpAny _ _ (call (Value.builtin "len") _) _ _ _)); (fail_if_success (with_reducible show wpAny _ _ (compareOp CmpOp.Eq (Value.ref _) (Value.ref _)) _ _ _)); (fail_if_success (with_reducible show wpAny _ _ (subscriptTail _ _ (Value.ref _) _) _ _ _)); (first | (k_unfold; (try dsimp only)) | walk1 | (dsimp only; walk1))))
      (with_reducible rename Fr _ _ _ _ => F3); (with_reducible rename News _ _ _ _ => N3)
      refine (c_signs n0 _ (Int.natCast_nonneg n0) (Int.ofNat_lt.mpr hn0)).use F3 N3 X T hh (by omega) (by omega) ?_
      rintro r3 h4 tk4 F4 N4 ⟨t3, rfl⟩
      have hl4 := sigTo_len n0 3
      (repeat' ((fail_if_success (with_reducible show wpAny _ _ (exec (Stmt.For _ _ _ _ _) _) _ _ _)); (fail_if_success (with_reducible show wpAny _ _ (eval (Expr.ListComp _ _ _ _) _) _ _ _)); (fail_if_success (with_reducible show wpAny _ _ (call (Value.builtin "len") _) _ _ _)); (fail_if_success (with_reducible show wpAny _ _ (compareOp CmpOp.Eq (Value.ref _) (Value.ref _)) _ _ _)); (fail_if_success (with_reducible show wpAny _ _ (subscriptTail _ _ (Value.ref _) _) _ _ _)); (first | (k_unfold; (try dsimp only)) | walk1 | (dsimp only; walk1))))
      · (with_reducible rename Fr _ _ _ _ => F5); (with_reducible rename News _ _ _ _ => N5)
        refine hQt _ _ ?_
        refine told_fin (one := .num n0 .nil) hWI hSI hDI hsz hdone hr rfl ?_ (by (conv => lhs; whnf); with_reducible assumption) (by (conv => lhs; whnf); with_reducible assumption) F5 N5
        have hu : unk n0 = false := decide_eq_false (fun h => by have h9 : (Txt.item (sigTo n0 3) 0 != Str.ofString "?") = true := by with_reducible assumption
                                                                 rw [h] at h9; simp at h9)
        rw [hu]; rfl
      · (with_reducible rename Fr _ _ _ _ => F5); (with_reducible rename News _ _ _ _ => N5)
        refine hQt _ _ ?_
        refine told_fin (one := .num n0 .nil) hWI hSI hDI hsz hdone hr rfl ?_ (by (conv => lhs; whnf); with_reducible assumption) (by (conv => lhs; whnf); with_reducible assumption) F5 N5
        have hu : unk n0 = true := decide_eq_true (by have h9 : (Txt.item (sigTo n0 3) 0 != Str.ofString "?") = false := by with_reducible assumption
                                                      simpa using h9)
        rw [hu]; rfl
    | txt x0 r =>
      obtain ⟨t0, vs', e, hr⟩ := hrem
      obtain ⟨rfl, rfl⟩ := List.cons.inj e
      have hx1 : x0.length ≤ 1 := hok'.2.1.1
      have hxo : PyData.strOk x0 = true := hok'.2.1.2
      (repeat' ((fail_if_success (with_reducible show wpAny _ _ (exec (Stmt.For _ _ _ _ _) _) _ _ _)); (fail_if_success (with_reducible show wpAny _ _ (eval (Expr.ListComp _ _ _ _) _) _ _ _)); (fail_if_success (with_reducible show wpAny _ _ (call (Value.builtin "len") _) _ _ _)); (fail_if_success (with_reducible show wpAny _ _ (compareOp CmpOp.Eq (Value.ref _) (Value.ref _)) _ _ _)); (fail_if_success (with_reducible show wpAny _ _ (subscriptTail _ _ (Value.ref _) _) _ _ _)); (first | (k_unfold; (try dsimp only)) | walk1 | (dsimp only; walk1))))
      (with_reducible rename Fr _ _ _ _ => F3); (with_reducible rename News _ _ _ _ => N3)
      refine comp_signs (y := x0) (fun _ => true) (fun c => if c = 39 then deepS mk else sgn c) hh (by rfl) (by decide) rfl (by decide) rfl (by rw [sizeLine_eq]; omega) F3 N3 ?_ ?_ ?_ ?_
      · intro Q' hq
        (repeat' ((fail_if_success (with_reducible show wpAny _ _ (exec (Stmt.For _ _ _ _ _) _) _ _ _)); (fail_if_success (with_reducible show wpAny _ _ (eval (Expr.ListComp _ _ _ _) _) _ _ _)); (fail_if_success (with_reducible show wpAny _ _ (call (Value.builtin "len") _) _ _ _)); (fail_if_success (with_reducible show wpAny _ _ (compareOp CmpOp.Eq (Value.ref _) (Value.ref _)) _ _ _)); (fail_if_success (with_reducible show wpAny _ _ (subscriptTail _ _ (Value.ref _) _) _ _ _)); (first | (k_unfold; (try dsimp only)) | walk1 | (dsimp only; walk1))))
        exact hq _
      · intro C c u s₂ m₂ E' Q'' hc hn hm N4 hq
        exact wpAny_pure (hq _)
      · intro C c u s₂ m₂ E' Q'' hc hn hm N4 hq
        (repeat' ((fail_if_success (with_reducible show wpAny _ _ (exec (Stmt.For _ _ _ _ _) _) _ _ _)); (fail_if_success (with_reducible show wpAny _ _ (eval (Expr.ListComp _ _ _ _) _) _ _ _)); (fail_if_success (with_reducible show wpAny _ _ (call (Value.builtin "len") _) _ _ _)); (fail_if_success (with_reducible show wpAny _ _ (compareOp CmpOp.Eq (Value.ref _) (Value.ref _)) _ _ _)); (fail_if_success (with_reducible show wpAny _ _ (subscriptTail _ _ (Value.ref _) _) _ _ _)); (first | (k_unfold; (try dsimp only)) | walk1 | (dsimp only; walk1))))
        · have hc39 : c = 39 := sgn_eq (by with_reducible assumption)
          rw [if_pos hc39] at hq
          exact hq _ _
        · have hc39 : c ≠ 39 := sgn_ne (by with_reducible assumption)
          rw [if_neg hc39] at hq
          exact hq _ _
      · intro D ys k5 h5 tk5 F5 N5 hne5 hst5
        have hfil : (x0.cps.toList.filter fun _ => true) = x0.cps.toList := List.filter_eq_self.mpr fun _ _ => rfl
        rw [hfil] at hst5
        dsimp only
        (repeat' ((fail_if_success (with_reducible show wpAny _ _ (exec (Stmt.For _ _ _ _ _) _) _ _ _)); (fail_if_success (with_reducible show wpAny _ _ (eval (Expr.ListComp _ _ _ _) _) _ _ _)); (fail_if_success (with_reducible show wpAny _ _ (call (Value.builtin "len") _) _ _ _)); (fail_if_success (with_reducible show wpAny _ _ (compareOp CmpOp.Eq (Value.ref _) (Value.ref _)) _ _ _)); (fail_if_success (with_reducible show wpAny _ _ (subscriptTail _ _ (Value.ref _) _) _ _ _)); (first | (k_unfold; (try dsimp only)) | walk1 | (dsimp only; walk1))))
        have hes := escX_sum (d := deepS mk) (x := x0) hdl (Nat.succ_le_succ (Nat.zero_le _)) hx1
        refine join_list (N5.isList (.head _)) hst5 ?_ fun t6 k6 => ?_
        · have : (Str.ofString "").length = 0 := by decide
          rw [this, Nat.mul_zero]
          exact Nat.le_trans hes.1 (Nat.le_trans (Nat.le_succ _) (Nat.le_trans hM2 (by decide)))
        have hN6 : News g L h5 ((I, it) :: (Wd, W.listOf vs k) :: (L + 2, oS) :: (L + 1, oD) :: []) := fun q hq => N5 q (.tail _ hq)
        clear N5
        rw [glued_join]
        generalize hjx : Str.join (Str.ofString "") (x0.cps.toList.map fun c => if c = 39 then deepS mk else sgn c) = jx
        have hjl : jx.length ≤ 3 * M + 2 := hjx ▸ escX_len hdl (Nat.succ_le_succ (Nat.zero_le _)) hx1
        have hjs : mk.length + jx.length ≤ 100000 + 300000 := Nat.add_le_add hmk5 (Nat.le_trans hjl (Nat.le_of_succ_le hM2))
        have hjs1 : mk.length + jx.length ≤ 16777216 := Nat.le_trans hjs (by decide)
        have hjs2 : mk.length + jx.length + mk.length ≤ 16777216 := Nat.le_trans (Nat.add_le_add hjs hmk5) (by decide)
        (repeat' ((fail_if_success (with_reducible show wpAny _ _ (exec (Stmt.For _ _ _ _ _) _) _ _ _)); (fail_if_success (with_reducible show wpAny _ _ (eval (Expr.ListComp _ _ _ _) _) _ _ _)); (fail_if_success (with_reducible show wpAny _ _ (call (Value.builtin "len") _) _ _ _)); (fail_if_success (with_reducible show wpAny _ _ (compareOp CmpOp.Eq (Value.ref _) (Value.ref _)) _ _ _)); (fail_if_success (with_reducible show wpAny _ _ (subscriptTail _ _ (Value.ref _) _) _ _ _)); (first | (k_unfold; (try dsimp only)) | walk1 | (dsimp only; walk1))))
        · (with_reducible rename Fr _ _ _ _ => F6); (with_reducible rename News _ _ _ _ => N6)
          have hne0 : (x0 != Str.ofString "") = true := by with_reducible assumption
          refine comp_signs (y := x0) (fun c => !safeTxt.cps.contains c) sgn hh (by rfl) (by decide) rfl (by decide) rfl (by rw [sizeLine_eq]; omega) F6 N6 ?_ ?_ ?_ ?_
          · intro Q' hq
            (repeat' ((fail_if_success (with_reducible show wpAny _ _ (exec (Stmt.For _ _ _ _ _) _) _ _ _)); (fail_if_success (with_reducible show wpAny _ _ (eval (Expr.ListComp _ _ _ _) _) _ _ _)); (fail_if_success (with_reducible show wpAny _ _ (call (Value.builtin "len") _) _ _ _)); (fail_if_success (with_reducible show wpAny _ _ (compareOp CmpOp.Eq (Value.ref _) (Value.ref _)) _ _ _)); (fail_if_success (with_reducible show wpAny _ _ (subscriptTail _ _ (Value.ref _) _) _ _ _)); (first | (k_unfold; (try dsimp only)) | walk1 | (dsimp only; walk1))))
            exact hq _
          · intro C c u s₂ m₂ E' Q'' hc hn hm N4 hq
            (repeat' ((fail_if_success (with_reducible show wpAny _ _ (exec (Stmt.For _ _ _ _ _) _) _ _ _)); (fail_if_success (with_reducible show wpAny _ _ (eval (Expr.ListComp _ _ _ _) _) _ _ _)); (fail_if_success (with_reducible show wpAny _ _ (call (Value.builtin "len") _) _ _ _)); (fail_if_success (with_reducible show wpAny _ _ (compareOp CmpOp.Eq (Value.ref _) (Value.ref _)) _ _ _)); (fail_if_success (with_reducible show wpAny _ _ (subscriptTail _ _ (Value.ref _) _) _ _ _)); (first | (k_unfold; (try dsimp only)) | walk1 | (dsimp only; walk1))))
            have e9 : (!!(Builtin.Str.occurrences safeTxt ⟨#[c]⟩ 0 safeTxt.length 1).isEmpty) = !safeTxt.cps.contains c := congrArg (! ·) (occ_one safeTxt c)
            have h9 := hq s₂.toks
            rw [← e9] at h9
            exact h9
          · intro C c u s₂ m₂ E' Q'' hc hn hm N4 hq
            (repeat' ((fail_if_success (with_reducible show wpAny _ _ (exec (Stmt.For _ _ _ _ _) _) _ _ _)); (fail_if_success (with_reducible show wpAny _ _ (eval (Expr.ListComp _ _ _ _) _) _ _ _)); (fail_if_success (with_reducible show wpAny _ _ (call (Value.builtin "len") _) _ _ _)); (fail_if_success (with_reducible show wpAny _ _ (compareOp CmpOp.Eq (Value.ref _) (Value.ref _)) _ _ _)); (fail_if_success (with_reducible show wpAny _ _ (subscriptTail _ _ (Value.ref _) _) _ _ _)); (first | (k_unfold; (try dsimp only)) | walk1 | (dsimp only; walk1))))
            exact hq _ _
          · intro D ys k5 h5 tk5 F5 N5 hne5 hst5
            obtain ⟨c, rfl⟩ : ∃ c, x0 = ⟨#[c]⟩ := by
              rcases one_cases hx1 with rfl | h
              · exact absurd hne0 (by decide)
              · exact h
            dsimp only
            have hDI5 : D ≠ I := fun e => hne5 _ (.head _) e.symm
            have hDW5 : D ≠ Wd := fun e => hne5 _ (.tail _ (.head _)) e.symm
            have hDS5 : D ≠ L + 2 := fun e => hne5 _ (.tail _ (.tail _ (.head _))) e.symm
            have hDD5 : D ≠ L + 1 := fun e => hne5 _ (.tail _ (.tail _ (.tail _ (.head _)))) e.symm
            cases hcc : safeTxt.cps.contains c with
            | true =>
              have hys : ys = #[] := by
                have : ([c].filter fun c => !safeTxt.cps.contains c) = [] := by rw [List.filter_cons, hcc]; rfl
                have h9 : StrsAre ys.toList (([c].filter fun c => !safeTxt.cps.contains c).map sgn) := hst5
                rw [this] at h9
                generalize hyl : ys.toList = yl at h9
                cases h9
                exact Array.toList_eq_nil_iff.mp hyl
              subst hys
              (repeat' ((fail_if_success (with_reducible show wpAny _ _ (exec (Stmt.For _ _ _ _ _) _) _ _ _)); (fail_if_success (with_reducible show wpAny _ _ (eval (Expr.ListComp _ _ _ _) _) _ _ _)); (fail_if_success (with_reducible show wpAny _ _ (call (Value.builtin "len") _) _ _ _)); (fail_if_success (with_reducible show wpAny _ _ (compareOp CmpOp.Eq (Value.ref _) (Value.ref _)) _ _ _)); (fail_if_success (with_reducible show wpAny _ _ (subscriptTail _ _ (Value.ref _) _) _ _ _)); (first | (k_unfold; (try dsimp only)) | walk1 | (dsimp only; walk1))))
              (with_reducible rename Fr _ _ _ _ => F6); (with_reducible rename News _ _ _ _ => N6)
              refine eq_dataH (reads_list_at (N6.get (.tail _ (.head _))) rfl rfl .nil) (reads_list_at (N6.get (.head _)) rfl rfl .nil) rfl rfl (by omega) ?_
              dsimp only [PyData.eqv, PyData.eqvAll]
              (repeat' ((fail_if_success (with_reducible show wpAny _ _ (exec (Stmt.For _ _ _ _ _) _) _ _ _)); (fail_if_success (with_reducible show wpAny _ _ (eval (Expr.ListComp _ _ _ _) _) _ _ _)); (fail_if_success (with_reducible show wpAny _ _ (call (Value.builtin "len") _) _ _ _)); (fail_if_success (with_reducible show wpAny _ _ (compareOp CmpOp.Eq (Value.ref _) (Value.ref _)) _ _ _)); (fail_if_success (with_reducible show wpAny _ _ (subscriptTail _ _ (Value.ref _) _) _ _ _)); (first | (k_unfold; (try dsimp only)) | walk1 | (dsimp only; walk1))))
              (with_reducible rename Fr _ _ _ _ => F7); (with_reducible rename News _ _ _ _ => N7)
              refine hQt _ _ ?_
              refine told_fin (one := .txt ⟨#[c]⟩ .nil) hWI hSI hDI hsz hdone hr rfl ?_ (by (conv => lhs; whnf); with_reducible assumption) (by (conv => lhs; whnf); with_reducible assumption) F7 (fun q hq => N7 q (.tail _ (.tail _ hq)))
              rw [bareX_one, hcc, ← hjx]; rfl
            | false =>
              obtain ⟨t9, hys⟩ : ∃ t9, ys = #[.str (sgn c) t9] := by
                have : ([c].filter fun c => !safeTxt.cps.contains c) = [c] := by rw [List.filter_cons, hcc]; rfl
                have h9 : StrsAre ys.toList (([c].filter fun c => !safeTxt.cps.contains c).map sgn) := hst5
                rw [this] at h9
                generalize hyl : ys.toList = yl at h9
                cases h9 with
                | cons _ t9 h8 =>
                  cases h8
                  exact ⟨t9, by rw [← Array.toArray_toList (xs := ys), hyl]⟩
              subst hys
              (repeat' ((fail_if_success (with_reducible show wpAny _ _ (exec (Stmt.For _ _ _ _ _) _) _ _ _)); (fail_if_success (with_reducible show wpAny _ _ (eval (Expr.ListComp _ _ _ _) _) _ _ _)); (fail_if_success (with_reducible show wpAny _ _ (call (Value.builtin "len") _) _ _ _)); (fail_if_success (with_reducible show wpAny _ _ (compareOp CmpOp.Eq (Value.ref _) (Value.ref _)) _ _ _)); (fail_if_success (with_reducible show wpAny _ _ (subscriptTail _ _ (Value.ref _) _) _ _ _)); (first | (k_unfold; (try dsimp only)) | walk1 | (dsimp only; walk1))))
              (with_reducible rename Fr _ _ _ _ => F6); (with_reducible rename News _ _ _ _ => N6)
              refine eq_dataH (reads_list_at (N6.get (.tail _ (.head _))) rfl rfl (.cons (.str _ _) .nil)) (reads_list_at (N6.get (.head _)) rfl rfl .nil) (shaped_one hxo) rfl (by omega) ?_
              dsimp only [PyData.eqv, PyData.eqvAll]
              (repeat' ((fail_if_success (with_reducible show wpAny _ _ (exec (Stmt.For _ _ _ _ _) _) _ _ _)); (fail_if_success (with_reducible show wpAny _ _ (eval (Expr.ListComp _ _ _ _) _) _ _ _)); (fail_if_success (with_reducible show wpAny _ _ (call (Value.builtin "len") _) _ _ _)); (fail_if_success (with_reducible show wpAny _ _ (compareOp CmpOp.Eq (Value.ref _) (Value.ref _)) _ _ _)); (fail_if_success (with_reducible show wpAny _ _ (subscriptTail _ _ (Value.ref _) _) _ _ _)); (first | (k_unfold; (try dsimp only)) | walk1 | (dsimp only; walk1))))
              (with_reducible rename Fr _ _ _ _ => F7); (with_reducible rename News _ _ _ _ => N7)
              refine hQt _ _ ?_
              refine told_fin (one := .txt ⟨#[c]⟩ .nil) hWI hSI hDI hsz hdone hr rfl ?_ (by (conv => lhs; whnf); with_reducible assumption) (by (conv => lhs; whnf); with_reducible assumption) F7 (fun q hq => N7 q (.tail _ (.tail _ hq)))
              rw [bareX_one, hcc, ← hjx]; rfl
        · (with_reducible rename Fr _ _ _ _ => F6); (with_reducible rename News _ _ _ _ => N6)
          refine hQt _ _ ?_
          refine told_fin (one := .txt x0 .nil) hWI hSI hDI hsz hdone hr rfl ?_ (by (conv => lhs; whnf); with_reducible assumption) (by (conv => lhs; whnf); with_reducible assumption) F6 N6
          have hx9 : x0 = Str.ofString "" := by
            have h9 : (x0 != Str.ofString "") = false := by with_reducible assumption
            simpa using h9
          have hb : bareX x0 = false := by rw [hx9]; decide
          rw [hb, ← hjx]; rfl
    | sub t1 r =>
      obtain ⟨a1, vs', ws1, e, hl1, hv1, hr⟩ := hrem
      obtain ⟨rfl, rfl⟩ := List.cons.inj e
      (repeat' ((fail_if_success (with_reducible show wpAny _ _ (exec (Stmt.For _ _ _ _ _) _) _ _ _)); (fail_if_success (with_reducible show wpAny _ _ (eval (Expr.ListComp _ _ _ _) _) _ _ _)); (fail_if_success (with_reducible show wpAny _ _ (call (Value.builtin "len") _) _ _ _)); (fail_if_success (with_reducible show wpAny _ _ (compareOp CmpOp.Eq (Value.ref _) (Value.ref _)) _ _ _)); (fail_if_success (with_reducible show wpAny _ _ (subscriptTail _ _ (Value.ref _) _) _ _ _)); (first | (k_unfold; (try dsimp only)) | walk1 | (dsimp only; walk1))))
      (with_reducible rename Fr _ _ _ _ => F3); (with_reducible rename News _ _ _ _ => N3)
      refine (ih t1 (deepS mk) (3 * M + 2) (by simp only [Tr.dep] at hd'; exact depn hd') hok'.2.1.1 hok'.2.1.2.1 hdl hM3 (by rw [lenB_app] at hB; exact lb1 hB) a1 _).use (rest := _) F3 N3 X T hh (by omega) (by omega) (fun _ _ _ h => absurd h List.not_mem_nil) ⟨ws1, stays_list (stays_hide F3.keep fun _ h => absurd h List.not_mem_nil) hl1, inHeap_keeps (stays_hide F3.keep fun _ h => absurd h List.not_mem_nil) hv1⟩ ?_
      rintro r3 h4 tk4 ns F4 N4 hne ⟨t4, rfl⟩
      replace N4 := N4.right
      have hl5 : (toldS (deepS mk) t1).length ≤ 1000000 := Nat.le_trans (toldS_len hok'.2.1.1 hdl) (by rw [lenB_app] at hB; exact lb1 hB)
      have hw1 := hv1.len
      (repeat' ((fail_if_success (with_reducible show wpAny _ _ (exec (Stmt.For _ _ _ _ _) _) _ _ _)); (fail_if_success (with_reducible show wpAny _ _ (eval (Expr.ListComp _ _ _ _) _) _ _ _)); (fail_if_success (with_reducible show wpAny _ _ (call (Value.builtin "len") _) _ _ _)); (fail_if_success (with_reducible show wpAny _ _ (compareOp CmpOp.Eq (Value.ref _) (Value.ref _)) _ _ _)); (fail_if_success (with_reducible show wpAny _ _ (subscriptTail _ _ (Value.ref _) _) _ _ _)); (first | (k_unfold; (try dsimp only)) | walk1 | (dsimp only; walk1))))
      (with_reducible rename Fr _ _ _ _ => F5)
      refine len_base hl1 F5 (Nat.le_trans (Nat.le_of_eq hv1.len) (Nat.le_trans hok'.2.1.2.1 (by decide))) fun t5 k5 => ?_
      (repeat' ((fail_if_success (with_reducible show wpAny _ _ (exec (Stmt.For _ _ _ _ _) _) _ _ _)); (fail_if_success (with_reducible show wpAny _ _ (eval (Expr.ListComp _ _ _ _) _) _ _ _)); (fail_if_success (with_reducible show wpAny _ _ (call (Value.builtin "len") _) _ _ _)); (fail_if_success (with_reducible show wpAny _ _ (compareOp CmpOp.Eq (Value.ref _) (Value.ref _)) _ _ _)); (fail_if_success (with_reducible show wpAny _ _ (subscriptTail _ _ (Value.ref _) _) _ _ _)); (first | (k_unfold; (try dsimp only)) | walk1 | (dsimp only; walk1))))
      · have h9 : (ws1.length : Int) = 1 := by with_reducible assumption
        have h8 : t1.len = 1 := hw1.symm.trans (Int.ofNat.inj h9)
        (with_reducible rename Fr _ _ _ _ => F6)
        obtain ⟨n1, rfl⟩ : ∃ n1, t1 = .num n1 .nil := len_one h8 hok'.2.1.2.2
        obtain ⟨t6, vs6, e6, h6⟩ := hv1
        cases h6
        subst e6
        refine item_list (k := 0) (stays_list F6.keep hl1) (x := .int n1 t6) (by decide) (by decide) rfl ?_
        (repeat' ((fail_if_success (with_reducible show wpAny _ _ (exec (Stmt.For _ _ _ _ _) _) _ _ _)); (fail_if_success (with_reducible show wpAny _ _ (eval (Expr.ListComp _ _ _ _) _) _ _ _)); (fail_if_success (with_reducible show wpAny _ _ (call (Value.builtin "len") _) _ _ _)); (fail_if_success (with_reducible show wpAny _ _ (compareOp CmpOp.Eq (Value.ref _) (Value.ref _)) _ _ _)); (fail_if_success (with_reducible show wpAny _ _ (subscriptTail _ _ (Value.ref _) _) _ _ _)); (first | (k_unfold; (try dsimp only)) | walk1 | (dsimp only; walk1))))
        · (with_reducible rename Fr _ _ _ _ => F7); (with_reducible rename News _ _ _ _ => N7)
          refine hQt _ _ ?_
          refine told_fin (one := .sub (.num n1 .nil) .nil) hWI hSI hDI hsz hdone hr rfl ?_ (by (conv => lhs; whnf); with_reducible assumption) (by (conv => lhs; whnf); with_reducible assumption) F7 (fun q hq => N7 q (.tail _ hq))
          have h7 : ([1, 2, 6, 8, 12].any fun x => x == (n1 : Int).fdiv 4096) = true := by with_reducible assumption
          rw [bareT_num h7, barred_t, toldS_def]
        · (with_reducible rename Fr _ _ _ _ => F7); (with_reducible rename News _ _ _ _ => N7)
          refine hQt _ _ ?_
          refine told_fin (one := .sub (.num n1 .nil) .nil) hWI hSI hDI hsz hdone hr rfl ?_ (by (conv => lhs; whnf); with_reducible assumption) (by (conv => lhs; whnf); with_reducible assumption) F7 (fun q hq => N7 q (.tail _ hq))
          have h7 : ([1, 2, 6, 8, 12].any fun x => x == (n1 : Int).fdiv 4096) = false := by with_reducible assumption
          rw [bareT_num h7, barred_f, toldS_def]
      · (with_reducible rename Fr _ _ _ _ => F6); (with_reducible rename News _ _ _ _ => N6)
        have h9 : (ws1.length : Int) ≠ 1 := by with_reducible assumption
        refine hQt _ _ ?_
        refine told_fin (one := .sub t1 .nil) hWI hSI hDI hsz hdone hr rfl ?_ (by (conv => lhs; whnf); with_reducible assumption) (by (conv => lhs; whnf); with_reducible assumption) F6 N6
        have hb : bareT t1 = false := bareT_len (fun h => h9 (congrArg (fun z : Nat => (z : Int)) (hw1.trans h)))
        rw [hb, barred_f, toldS_def]
  · rintro h' tk m' news' F5 N5 ⟨hm1, hm2, vs, k, rfl, hsz, done, rem, rfl, hrem, hdone⟩
    rw [List.drop_length] at hrem
    have hr := Vals.nil_of hrem
    subst hr
    rw [Tr.app_nil] at hret hok hB
    (repeat' ((fail_if_success (with_reducible show wpAny _ _ (exec (Stmt.For _ _ _ _ _) _) _ _ _)); (fail_if_success (with_reducible show wpAny _ _ (eval (Expr.ListComp _ _ _ _) _) _ _ _)); (fail_if_success (with_reducible show wpAny _ _ (call (Value.builtin "len") _) _ _ _)); (fail_if_success (with_reducible show wpAny _ _ (compareOp CmpOp.Eq (Value.ref _) (Value.ref _)) _ _ _)); (fail_if_success (with_reducible show wpAny _ _ (subscriptTail _ _ (Value.ref _) _) _ _ _)); (first | (k_unfold; (try dsimp only)) | walk1 | (dsimp only; walk1))))
    have hsum := toldW_sum done mk M hok hmk
    refine join_list (N5.isList (.head _)) hdone ?_ fun t' k => ?_
    · rw [space_len, Nat.mul_one]; exact Nat.le_trans hsum (Nat.le_trans hB (by decide))
    · exact hret _ _ _ _ _ F5 N5 ⟨_, congrArg (fun z => Value.str z t') (glued_join _ _)⟩
end
section
noncomputable def jpos : Pos := ⟨734, 20, 734, 57⟩
/-- the table of join's code: none yet, or its generator's code in it -/
noncomputable def TabOk (o : Obj) : Prop := ∃ ps : Array Value, o = { cls := .none, data := .fields ps } ∧ TriplesOk ps.toList ∧ (codeAmong jpos ps.toList = none ∨ ∃ c', codeAmong jpos ps.toList = some (.ref c'))
section
variable {w : World} {p : Program} {loose : List Str} {mg mb : Str → Option Value}
theorem tab_code {h : Heap} {ps : Array Value} (X : (KK w.params).In h) (ho : h.get? 746 = some { cls := .none, data := .fields ps }) (ht : TriplesOk ps.toList) : h.IsCode 750 746 ps ∧ h.TableAt 750 746 ps :=
  ⟨⟨_, _, _, _, _, _, _, _, _, _, X 750 _ rfl, rfl, rfl, rfl, rfl, rfl, rfl, ho, rfl, ht, by decide⟩, ⟨_, _, X 750 _ rfl, rfl, rfl, rfl⟩, ho⟩
theorem gcode {M : Model} {A : Around} {E : Value → Shared → Prop} {s : Shared} {env : Env} {qual : Str} {scope : Scope} {o : Obj} {Q : Value → Shared → Prop} (hc : env.code = .ref 750) (X : (KK w.params).In s.heap) (ho : s.heap.get? 746 = some o) (ht : TabOk o)
    (hQ : ∀ c' h' tk o', Heap.ExtBut 746 s.heap h' → s.heap.objs.size ≤ h'.objs.size → h'.get? 746 = some o' → TabOk o' → Q (.ref c') { s with heap := h', toks := tk }) : wpAny M A (genexprCode env jpos qual scope) Q E s := by
  obtain ⟨ps, rfl, htr, hcase⟩ := ht
  obtain ⟨hcode, htab⟩ := tab_code X ho htr
  rcases hcase with hnf | ⟨c', hf⟩
  · refine wpAny_genexprCodeX hc hcode htab hnf fun c' h' tk hx hge hlt hcode' _ htab' _ => ?_
    refine hQ c' h' tk _ hx (Nat.le_trans hge (Nat.le_of_lt hlt)) htab'.2 ⟨_, rfl, ?_, .inr ⟨c', ?_⟩⟩
    · have e : (ps ++ #[rawInt jpos.line, rawInt jpos.col, Value.ref c']).toList = ps.toList ++ [rawInt jpos.line, rawInt jpos.col, .ref c'] := by simp
      rw [e]; exact TriplesOk_snoc _ _ _ _ htr
    · have e : (ps ++ #[rawInt jpos.line, rawInt jpos.col, Value.ref c']).toList = ps.toList ++ [rawInt jpos.line, rawInt jpos.col, .ref c'] := by simp
      rw [e]; exact codeAmong_snoc _ htr hnf
  · refine wpAny_genexprCode_hit hc hcode hf ?_
    exact hQ c' s.heap s.toks _ (fun _ _ _ e => e) (Nat.le_refl _) ho ⟨ps, rfl, htr, .inr ⟨c', hf⟩⟩

/-- a contract of a def that lays join's generator -/
noncomputable def ConJ (w : World) (p : Program) (loose : List Str) (mg mb : Str → Option Value) (f : Addr) (vs : List Value) (d u : Nat) (pre : Heap → Prop) (post : Value → Prop) : Prop :=
  ∀ (A : Around) (s : Shared) (Q E : Value → Shared → Prop) (H : Heap) (o : Obj), H.StaysIn s.heap → (KK w.params).In H → TopRead p loose mg mb H → (∃ bm ob, BMod H mainGlobals mg bm ob) → A.handled = none → A.depth + d < recursionLimit → A.units + u < cLine →
    H.get? 746 = none → s.heap.get? 746 = some o → TabOk o → AllBare s.gens → pre H →
    (∀ r h' tk' gs' dr' o', (∀ b o, s.heap.get? b = some o → b ≠ 746 → h'.get? b = some o) → h'.get? 746 = some o' → TabOk o' → AllBare gs' → post r → Q r ⟨h', gs', dr', tk', s.os⟩) → wpAny (model PySem.Challenge.rw_mr0361_01.prog w) A (call (.ref f) vs) Q E s

theorem ConJ.of_body {f : Addr} {vs : List Value} {d u : Nat} {pre : Heap → Prop} {post : Value → Prop} {st st1 : Stmt} {rest : List Stmt} {name qual : String} {dV pm cdv : Value} {kd : ScopeKind} {names : List (Str × NameKind)} {ig ic : Bool} {more : List (Str × Const)} (binds : List (Str × Value))
    (ho : (KK w.params).lookup f = some ⟨.type "function", none, .func (fnAt st name qual dV pm cdv), #[]⟩) (hcd : codeIn (KK w.params) cdv (Str.ofString qual) = true)
    (hbody : dBody st = st1 :: rest) (hscope : dScope st = ⟨kd, names, ig, ic, more⟩)
    (hbind : bindArgs (fnAt st name qual dV pm cdv) ⟨vs, []⟩ = pure binds) (hloc : (binds.all fun x => decide (names.lookup x.1 = some .local)) = true)
    (hco : ic = false) (hgen : ig = false) (hk : kd = .function) (hd : 0 < d)
    (hcell : (names.all fun x => decide (x.2 ≠ .cell)) = true)
    (hpre : ∀ h h' : Heap, h.StaysIn h' → pre h → pre h')
    (h : ∀ (A : Around) (g : Heap) (L : Addr) (s : Shared) (Q : Flow → Shared → Prop) (o : Obj), Fr g L s.heap (fun y => binds.reverse.lookup y) → News g L s.heap [(746, o)] → TabOk o → AllBare s.gens → 746 < L → (∃ bm ob, BMod g mainGlobals mg bm ob) → (KK w.params).In g → TopRead p loose mg mb g → A.handled = none → A.depth + d < recursionLimit + 1 → A.units + u < cLine + 3 → pre g →
      (∀ v h' tk' gs' dr' m o' ns, Fr g L h' m → News g L h' ((746, o') :: ns) → TabOk o' → AllBare gs' → post v → Q (.ret v) ⟨h', gs', dr', tk', s.os⟩) →
      wpAny (model PySem.Challenge.rw_mr0361_01.prog w) A (execs (st1 :: rest) (envOf (Str.ofString qual) ⟨kd, names, ig, ic, more⟩ L f cdv)) Q (fun _ _ => False) s) : ConJ w p loose mg mb f vs d u pre post := by
  intro A s Q E H o hH X T BM hh hroom hun h746 h746' htab hbare hp hret
  unfold fnAt at ho hbind
  rw [hbody, hscope] at ho hbind
  refine wpAny_call (enterN (news := [(746, o)]) hH X T (fun q hq => ?_) ho hcd (by omega) (BindsTo.of_eq hbind) (locs hloc) (fun g L' h₁ st hg F N X' T' hlt => ?_) hco hgen hk (fun x hx => of_decide_eq_true (List.all_eq_true.mp hcell x hx)))
  · rcases List.mem_singleton.mp hq with rfl
    exact ⟨h746', h746⟩
  obtain ⟨bm, ob, BM⟩ := BM
  refine wpAny_mono (h (A.deeper _) g L' _ _ o F N htab hbare (hlt _ (.head _)) ⟨bm, ob, BM.keeps st⟩ X' T' hh (by show A.depth + 1 + d < _; omega) (by show A.units + 3 + u < _; omega) (hpre _ _ st hp) fun v h' tk' gs' dr' m o' ns F' N' ht' hb' hq => ?_) (fun _ _ q => q) fun _ _ q => q.elim
  exact hret v h' tk' gs' dr' o' (fun b o e nm => F'.keep b o (hg b o e (by simp [nm]))) (N' _ (.head _)).1 ht' hb' hq

theorem ConJ.use {f : Addr} {vs : List Value} {d u : Nat} {pre : Heap → Prop} {post : Value → Prop} {A : Around} {s : Shared} {Q E : Value → Shared → Prop} {g : Heap} {L : Addr} {m : Str → Option Value} {rest : List (Addr × Obj)} {o : Obj}
    (C : ConJ w p loose mg mb f vs d u pre post) (F : Fr g L s.heap m) (N : News g L s.heap ((746, o) :: rest)) (ht : TabOk o) (hb : AllBare s.gens) (BM : ∃ bm ob, BMod g mainGlobals mg bm ob) (X : (KK w.params).In g) (T : TopRead p loose mg mb g) (hh : A.handled = none) (hd : A.depth + d < recursionLimit) (hu : A.units + u < cLine)
    (hap : ∀ q ∈ rest, q.1 ≠ 746)
    (hpre : pre (hideAll s.heap [746]))
    (h : ∀ r h' tk' gs' dr' o', Fr g L h' m → News g L h' ((746, o') :: rest) → TabOk o' → AllBare gs' → post r → Q r ⟨h', gs', dr', tk', s.os⟩) : wpAny (model PySem.Challenge.rw_mr0361_01.prog w) A (call (.ref f) vs) Q E s := by
  have hn : ∀ a ∈ [746], g.get? a = none := fun a ha => by
    rcases List.mem_singleton.mp ha with rfl
    exact (N _ (.head _)).2.2
  have st : g.StaysIn (hideAll s.heap [746]) := stays_hide F.keep hn
  have hL : L ≠ 746 := fun e => (N _ (.head _)).2.1 e.symm
  obtain ⟨bm, ob, BM⟩ := BM
  refine C A s Q E (hideAll s.heap [746]) o (hide_in _ _) (Frag.In.keeps (h' := hideAll s.heap [746]) X st) (TopRead.keeps (h' := hideAll s.heap [746]) T st) ⟨bm, ob, BM.keeps st⟩ hh hd hu (hideAll_none _ (.head _)) (N _ (.head _)).1 ht hb hpre fun r h' tk' gs' dr' o' k ho' ht' hb' hp => ?_
  refine h r h' tk' gs' dr' o' ⟨F.ns.at' fun o e => k _ o e hL, (fun b o e => k b o (F.keep b o e) fun hm => by rw [hm, hn 746 (.head _)] at e; cases e), F.above⟩ (fun q hq => ?_) ht' hb' hp
  rcases List.mem_cons.mp hq with rfl | hq
  · exact ⟨ho', (N _ (.head _)).2⟩
  · exact ⟨k _ _ (N q (.tail _ hq)).1 (hap q hq), (N q (.tail _ hq)).2⟩

/-- join's generator expression over a list of texts that the base heap holds -/
theorem gen_list {A : Around} {E : Value → Shared → Prop} {s : Shared} {g : Heap} {L a bm : Addr} {ob o : Obj} {m : Str → Option Value} {ws : List Value} {xs : List Str} {env : Env} {elt iter : Expr} {x : Str} {px : Pos} {scope : Scope} {f : Str → Str} {Q : Value → Shared → Prop}
    (hh : A.handled = none) (hco : scope.isCoroutine = false) (hclos : closureFor scope env = pure []) (hcell : ∀ y ∈ scope.names, y.2 ≠ .cell) (h0 : scope.names.lookup (".0" : Str) = some NameKind.local)
    (hx : scope.names.lookup x = some .local) (hkind : scope.kind = .function) (hroom : A.depth < recursionLimit) (hc : env.code = .ref 750) (hg : env.globals = mainGlobals)
    (X : (KK w.params).In g) (T : TopRead p loose mg mb g) (BM : BMod g mainGlobals mg bm ob) (F : Fr g L s.heap m) (N : News g L s.heap [(746, o)]) (h746 : 746 < L) (ht : TabOk o) (G : AllBare s.gens) (hl : g.IsList a ws.toArray) (hs : StrsAre ws xs)
    (hi : ∀ Q' : Value → Shared → Prop, Q' (.ref a) s → wpAny (model PySem.Challenge.rw_mr0361_01.prog w) A (eval iter env) Q' E s)
    (elts : ∀ (C : Addr) (code : Value) (A' : Around) (E' : Value → Shared → Prop) (y : Str) (u : Tok) (s₂ : Shared) m₂ (Q'' : Value → Shared → Prop), A'.handled = none → A'.depth ≤ A.depth + 1 → A'.units ≤ A.units + 8 → y ∈ xs → Fr g C s₂.heap m₂ → m₂ x = some (.str y u) →
      (∀ t h' tk', s₂.heap.StaysIn h' → Q'' (.str (f y) t) { s₂ with heap := h', toks := tk' }) → wpAny (model PySem.Challenge.rw_mr0361_01.prog w) A' (eval elt (genEnv scope [] C code builtinsNs env)) Q'' E' s₂)
    (hQ : ∀ ag s₅ o', Fr g L s₅.heap m → s₅.heap.get? 746 = some o' → TabOk o' → AllBare s₅.gens → s₅.os = s.os → (∀ b o, b ≠ 746 → s.heap.get? b = some o → s₅.heap.get? b = some o) →
      Gen PySem.Challenge.rw_mr0361_01.prog w A (s.heap.objs.size - 1) ag (List.range xs.length).length (fun j y => ∃ i, (List.range xs.length)[j]? = some i ∧ ∃ z u, xs[i]? = some z ∧ y = .str (f z) u) s₅ → Q (.ref ag) s₅)
    (hfold : ∀ x, genFold iter env x = pure x) :
    wpAny (model PySem.Challenge.rw_mr0361_01.prog w) A (eval (.GeneratorExp elt [⟨.Name x px, iter, [], 0⟩] scope jpos) env) Q E s := by
  have hls : s.heap.IsList a ws.toArray := stays_list F.keep hl
  obtain ⟨lo, hlo, _⟩ := id hl
  have hLlt : L < s.heap.objs.size := F.ns.lt
  have halt : a < L := Nat.lt_of_lt_of_le (Heap.lt_size hlo) F.above
  have hane : a ≠ s.heap.objs.size := Nat.ne_of_lt (Nat.lt_trans halt hLlt)
  have nolim : ∀ h : Heap, g.StaysIn h → h.NoLimit := fun h k => T.nolimit.keeps k
  refine wpAny_GeneratorExp_walksQD hh hco hclos hcell h0 hx hkind hroom (hi _ (wpAny_pyIter_list hls ⟨?_, ?_⟩)) hfold
  · exact nolim _ fun b o e => Heap.get?_push_of_some _ (F.keep b o e)
  refine gcode (s := { s with heap := s.heap.push _ }) hc (fun b o e => Heap.get?_push_of_some _ (X.keeps F.keep b o e)) (Heap.get?_push_of_some _ (N _ (.head _)).1) ht fun c' h' tk o' hx' hsz ho' ht' => ?_
  have up : ∀ b o, b ≠ 746 → s.heap.get? b = some o → h'.get? b = some o := fun b o hb e => hx' b o hb (Heap.get?_push_of_some _ e)
  have gne : ∀ b o, g.get? b = some o → b ≠ 746 := fun b o e hb => by rw [hb, (N _ (.head _)).2.2] at e; cases e
  have gup : g.StaysIn h' := fun b o e => up b o (gne b o e) (F.keep b o e)
  have BM' := BM.keeps gup
  have hszp : s.heap.objs.size + 1 ≤ h'.objs.size := by have := hsz; rwa [Heap.size_push] at this
  refine wpAny_builtinsFor (s := { s with heap := h', toks := tk }) (by rw [hg]; exact BM'.ns) BM'.name BM'.ne BM'.obj BM'.cls BM'.dict BM'.data ?_
  have hat : ∀ (i : Nat) (v : Value), ws.toArray[i]? = some v → ∃ y t, xs[i]? = some y ∧ v = Value.str y t := fun i v hv => by
    have hv' : ws[i]? = some v := by simpa using hv
    have hi' : i < xs.length := by rw [← hs.length]; exact (List.getElem?_eq_some_iff.mp hv').1
    obtain ⟨t, ht⟩ := hs.get i xs[i] (List.getElem?_eq_getElem hi')
    rw [hv'] at ht
    exact ⟨_, t, List.getElem?_eq_getElem hi', Option.some.inj ht⟩
  have hpass : passing (fun _ => true) ws.toArray.size 0 = List.range xs.length := by
    rw [List.size_toArray, hs.length]
    simp [passing, List.range_eq_range']
  have hI746 : s.heap.objs.size ≠ 746 := Nat.ne_of_gt (Nat.lt_trans h746 hLlt)
  have ha746 : a ≠ 746 := gne _ _ hlo
  refine ⟨s.heap.objs.size, [s.heap.objs.size, a], [s.heap.objs.size], ws.toArray.size, _, _, (fun _ => true), (fun i y => ∃ z u, xs[i]? = some z ∧ y = .str (f z) u), rfl, (fun A' hA => Walks.list hA s.heap.objs.size a hane ws.toArray), ⟨⟨_, hx' _ _ hI746 (Heap.get?_push_size _ rfl), rfl, rfl⟩, (hls.push _).at fun o e => hx' _ o ha746 e⟩, ?_, nolim _ gup, ?_, ?_, ?_⟩
  · intro b hb
    rcases List.mem_cons.mp hb with rfl | hb
    · exact Nat.lt_of_succ_le hszp
    · rcases List.mem_singleton.mp hb with rfl
      exact Nat.lt_trans halt (Nat.lt_trans hLlt (Nat.lt_of_succ_le hszp))
  · intro hm
    have e := List.mem_singleton.mp hm
    exact absurd (e ▸ Nat.lt_trans h746 hLlt) (by decide)
  · intro href hhref
    have inB : ∀ (t : Shared) m₂, t.heap.Ns h'.objs.size m₂ → (∀ b ∈ List.range h'.objs.size, b ∉ [s.heap.objs.size] → ∀ o, href.get? b = some o → t.heap.get? b = some o) → Fr g h'.objs.size t.heap m₂ := fun t m₂ hn hkp =>
      ⟨hn, fun b o e => by
        have hb := gup b o e
        refine hkp b (List.mem_range.mpr (Heap.lt_size hb)) (fun hm => ?_) o (hhref b o hb)
        have := Heap.lt_size e
        rw [List.mem_singleton.mp hm] at this
        exact absurd (Nat.lt_of_lt_of_le this F.above) (Nat.not_lt.mpr (Nat.le_of_lt hLlt)), Nat.le_trans F.above (Nat.le_of_lt (Nat.lt_trans hLlt (Nat.lt_of_succ_le hszp)))⟩
    refine ⟨fun A' E' i v s₂ m₂ hA hD hU hP hn hm hkp => wpAny_pure ⟨rfl, _, _, rfl, fun _ _ e => e⟩, fun A' E' i v s₂ m₂ hA hD hU hP _ hn hm hkp => ?_⟩
    obtain ⟨y, u, hy, rfl⟩ := hat i v hP
    exact elts _ _ A' E' y u s₂ m₂ _ hA hD hU (List.mem_of_getElem? hy) (inB s₂ m₂ hn hkp) hm fun t h' tk' k => ⟨⟨y, t, hy, rfl⟩, _, _, rfl, k⟩
  · intro ag h₅ tk₅ gs hgb hag hsz₅ hk₅ W hat'
    rw [hpass] at W
    refine hQ ag _ o' ⟨(F.ns.at' fun o e => hk₅ _ o (up _ o (fun e' => absurd h746 (e' ▸ Nat.lt_irrefl _)) e)), fun b o e => hk₅ b o (gup b o e), F.above⟩ (hk₅ _ _ ho') ht' (G.push hgb) rfl (fun b o hb e => hk₅ b o (up b o hb e)) ⟨_, _, _, _, W, hat', (fun i s' st => st.1.typeIs), List.mem_cons_self, ?_, ?_⟩
    · intro b hb
      show b < h₅.objs.size
      rw [hsz₅]
      rcases List.mem_cons.mp hb with rfl | hb
      · exact Nat.lt_succ_self _
      · rcases List.mem_cons.mp hb with rfl | hb
        · exact Nat.lt_succ_of_lt hag
        · exact Nat.lt_succ_of_lt (Nat.lt_trans (List.mem_range.mp hb) hag)
    · intro b hb
      rcases List.mem_cons.mp hb with rfl | hb
      · show s.heap.objs.size - 1 < h'.objs.size
        omega
      · rcases List.mem_singleton.mp hb with rfl
        exact Nat.sub_lt (Nat.lt_of_le_of_lt (Nat.zero_le _) hLlt) (by decide)
theorem join_ok {sep : Str} {texts : List Str} (h : (texts.map fun x => x.length).sum + texts.length * sep.length ≤ 16777216) : JoinOk sep texts = true := by
  have e : (2 : Nat) ^ 24 = 16777216 := by decide
  unfold JoinOk
  rw [StrLaws.joinTotal]
  unfold Builtin.Str.tooLong sizeLine
  rw [decide_eq_false (by omega)]
  rfl
/-- join of what the generator yields -/
theorem join_gen' {A : Around} {E : Value → Shared → Prop} {s : Shared} {g : Heap} {L ag K : Addr} {m : Str → Option Value} {xs : List Str} {f : Str → Str} {sep : Str} {t : Tok} {Q : Value → Shared → Prop}
    (F : Fr g L s.heap m) (G : AllBare s.gens) (hLK : L ≤ K) (X : Gen PySem.Challenge.rw_mr0361_01.prog w A K ag (List.range xs.length).length (fun j y => ∃ i, (List.range xs.length)[j]? = some i ∧ ∃ z u, xs[i]? = some z ∧ y = .str (f z) u) s)
    (hok : ((xs.map f).map fun x => x.length).sum + xs.length * sep.length ≤ 16777216) (hn : xs.length ≤ 100000)
    (hQ : ∀ s' t', Fr g L s'.heap m → AllBare s'.gens → s'.os = s.os → (∀ b o, b ≤ K → s.heap.get? b = some o → s'.heap.get? b = some o) → Q (.str (Str.join sep (xs.map f)) t') s') :
    wpAny (model PySem.Challenge.rw_mr0361_01.prog w) A (call (.builtin "str.join") [.str sep t, .ref ag]) Q E s := by
  have e : (List.range (List.range xs.length).length).map (fun j => f (xs.getD j (Str.ofString ""))) = xs.map f := by
    rw [List.length_range]
    apply List.ext_getElem?
    intro j
    rw [List.getElem?_map, List.getElem?_map]
    by_cases hj : j < xs.length
    · rw [List.getElem?_range hj, List.getElem?_eq_getElem hj]
      simp [List.getD_eq_getElem?_getD, List.getElem?_eq_getElem hj]
    · rw [List.getElem?_eq_none (by rw [List.length_range]; omega), List.getElem?_eq_none (by omega)]
      rfl
  refine join_rowsK F G X hLK (fun j => f (xs.getD j (Str.ofString ""))) (fun j v hv => ?_) (by rw [e]; exact join_ok (by rw [List.length_map]; exact hok)) (fun s' t' F' G' ho k => ?_) (by rw [List.length_range, sizeLine_eq]; omega)
  · obtain ⟨i, hi, z, u, hz, rfl⟩ := hv
    have hj : i = j := by
      have h1 := (List.getElem?_eq_some_iff.mp hi)
      obtain ⟨h2, h3⟩ := h1
      simpa using h3.symm
    subst hj
    refine ⟨u, ?_⟩
    rw [List.getD_eq_getElem?_getD, hz]; rfl
  · have := hQ s' t' F' G' ho k
    rw [glued_join, e]
    exact this
end
end
section
variable {w : World} {p : Program} {loose : List Str} {mg mb : Str → Option Value}
theorem ld_gen {M : Model} {A : Around} {E : Value → Shared → Prop} {s : Shared} {scope : Scope} {cl : List (Str × Addr)} {C bi : Addr} {code : Value} {env : Env} {g : Heap} {m₂ : Str → Option Value} {x : Str} {pos : Pos} {v : Value} {Q : Value → Shared → Prop} (F : Fr g C s.heap m₂) (hm : m₂ x = some v) (h : Q v s)
    (hk : (genEnv scope cl C code bi env).scope.kind = .function) (hx : (genEnv scope cl C code bi env).kindOf x = some .local) (hb : (x == ("__debug__" : Str)) = false := by decide) : wpAny M A (eval (.Name x pos) (genEnv scope cl C code bi env)) Q E s :=
  wpAny_Name (wpAny_loadName_local hk hx F.ns hm h) hb
local macro_rules | `(tactic| walk_at "eval Name") => `(tactic| (k_here; (first
  | refine' ld_gen (by with_reducible assumption) (by with_reducible assumption) ?_ (by k_dflt rfl) (by k_dflt rfl)
  | ((with_reducible rename Fr _ _ _ _ => kF); refine' nameG_K kF (by k_asm) (by k_asm) (by k_is) ?_ (by k_dflt rfl) (by k_dflt rfl) (by k_dflt rfl) (by decide))); k_whole))
theorem c_join (xs : List Str) (hxs : ∀ x ∈ xs, x.length ≤ 100000) (hn : xs.length ≤ 1000) (hsum : ((xs.map quoteS).map fun x => x.length).sum + xs.length ≤ 16777216) (a : Addr) : ConJ w p loose mg mb 751 [.ref a] 7 80 (fun H => ∃ ws, H.IsList a ws.toArray ∧ StrsAre ws xs) (fun r => ∃ t, r = .str (Str.join (Str.ofString " ") (xs.map quoteS)) t) := by
  refine' ConJ.of_body [("split_command", .ref a)] ?ho ?hcd ?b1 ?b2 ?hb ?hl ?a1 ?a2 ?a3 ?a4 ?a5 ?hpre ?h
  case ho => k_is
  case hcd => k_is
  case hpre => exact fun h h' k ⟨ws, e, q⟩ => ⟨ws, stays_list k e, q⟩
  all_goals try exact rfl
  case a4 => omega
  rintro A g L s Q o F N ht G h746 ⟨bm, ob, BM⟩ X T hh hd hu ⟨ws, hl, hws⟩ hret
  (repeat' ((fail_if_success (with_reducible show wpAny _ _ (exec (Stmt.For _ _ _ _ _) _) _ _ _)); (fail_if_success (with_reducible show wpAny _ _ (eval (Expr.GeneratorExp _ _ _ _) _) _ _ _)); (fail_if_success (with_reducible show wpAny _ _ (call (Value.ref _) _) _ _ _)); (fail_if_success (with_reducible show wpAny _ _ (call (Value.builtin "str.join") _) _ _ _)); (first | (k_unfold; (try dsimp only)) | walk1 | (dsimp only; walk1))))
  refine gen_list (f := quoteS) hh rfl rfl (by decide) rfl rfl rfl (by omega) rfl rfl X T BM F N h746 ht G hl hws ?_ ?_ ?_ ?_
  · intro Q' hq
    (repeat' ((fail_if_success (with_reducible show wpAny _ _ (exec (Stmt.For _ _ _ _ _) _) _ _ _)); (fail_if_success (with_reducible show wpAny _ _ (eval (Expr.GeneratorExp _ _ _ _) _) _ _ _)); (fail_if_success (with_reducible show wpAny _ _ (call (Value.ref _) _) _ _ _)); (fail_if_success (with_reducible show wpAny _ _ (call (Value.builtin "str.join") _) _ _ _)); (first | (k_unfold; (try dsimp only)) | walk1 | (dsimp only; walk1))))
    exact hq
  · intro C code A' E' y u s₂ m₂ Q'' hA hD hU hy F2 hm hq
    have N2 : News g C s₂.heap [] := News.nil
    (repeat' ((fail_if_success (with_reducible show wpAny _ _ (exec (Stmt.For _ _ _ _ _) _) _ _ _)); (fail_if_success (with_reducible show wpAny _ _ (eval (Expr.GeneratorExp _ _ _ _) _) _ _ _)); (fail_if_success (with_reducible show wpAny _ _ (call (Value.ref _) _) _ _ _)); (fail_if_success (with_reducible show wpAny _ _ (call (Value.builtin "str.join") _) _ _ _)); (first | (k_unfold; (try dsimp only)) | walk1 | (dsimp only; walk1))))
    (with_reducible rename Fr _ _ _ _ => F3); (with_reducible rename News _ _ _ _ => N3)
    refine c_quote y _ (hxs y hy) _ _ _ _ g F3.keep X T hA (by omega) (by omega) ?_
    rintro r h' tk' k ⟨t', rfl⟩
    exact hq _ _ _ k
  · intro ag s₅ o' F5 h5 ht5 G5 hos hk X5
    (repeat' ((fail_if_success (with_reducible show wpAny _ _ (exec (Stmt.For _ _ _ _ _) _) _ _ _)); (fail_if_success (with_reducible show wpAny _ _ (eval (Expr.GeneratorExp _ _ _ _) _) _ _ _)); (fail_if_success (with_reducible show wpAny _ _ (call (Value.ref _) _) _ _ _)); (fail_if_success (with_reducible show wpAny _ _ (call (Value.builtin "str.join") _) _ _ _)); (first | (k_unfold; (try dsimp only)) | walk1 | (dsimp only; walk1))))
    have hL5 : L < s.heap.objs.size := F.ns.lt
    refine join_gen' F5 G5 (Nat.le_sub_one_of_lt hL5) X5 (by rw [space_len]; omega) (by omega) fun s' t' F6 G6 ho6 hk6 => ?_
    have e746 : s'.heap.get? 746 = some o' := hk6 _ _ (Nat.le_sub_one_of_lt (Nat.lt_trans h746 hL5)) h5
    obtain ⟨hp, gs, dr, tk, os⟩ := s'
    cases (show os = s.os from ho6.trans hos)
    exact hret _ hp tk gs dr _ o' [] F6 (fun q hq => by rcases List.mem_singleton.mp hq with rfl; exact ⟨e746, (N _ (.head _)).2⟩) ht5 G6 ⟨_, rfl⟩
  · intro x; rfl
end
section
section
variable {prog : Program} {w : World} {A : Around} {s : Shared} {env : Env} {g : Heap} {target : Expr} {body orelse : List Stmt} {Q : Flow → Shared → Prop}
/-- what a turn must leave -/
noncomputable def TurnPostG (g : Heap) (L : Addr) (own : List (Addr × Obj)) (Jn : (Str → Option Value) → List (Addr × Obj) → Array GenState → Prop) (s : Shared) (Q : Flow → Shared → Prop) (f : Flow) (s₃ : Shared) : Prop :=
  match f with
  | .ret v => Q (.ret v) s₃
  | .brk => Q .next s₃
  | _ => ∃ h' tk m' news' gs dr, s₃ = ⟨h', gs, dr, tk, s.os⟩ ∧ Fr g L h' m' ∧ News g L h' (own ++ news') ∧ (∀ q ∈ news', ∀ r ∈ own, q.1 ≠ r.1) ∧ Jn m' news' gs

theorem TurnPostG.next {L : Addr} {own : List (Addr × Obj)} {Jn : (Str → Option Value) → List (Addr × Obj) → Array GenState → Prop} {h' : Heap} {tk : Nat} {m' : Str → Option Value} {news' : List (Addr × Obj)} {gs : Array GenState} {dr : Drawn}
    (F : Fr g L h' m') (N : News g L h' (own ++ news')) (ho : ∀ q ∈ news', ∀ r ∈ own, q.1 ≠ r.1) (hJ : Jn m' news' gs) : TurnPostG g L own Jn s Q .next ⟨h', gs, dr, tk, s.os⟩ := ⟨h', tk, m', news', gs, dr, rfl, F, N, ho, hJ⟩
theorem TurnPostG.cont {L : Addr} {own : List (Addr × Obj)} {Jn : (Str → Option Value) → List (Addr × Obj) → Array GenState → Prop} {h' : Heap} {tk : Nat} {m' : Str → Option Value} {news' : List (Addr × Obj)} {gs : Array GenState} {dr : Drawn}
    (F : Fr g L h' m') (N : News g L h' (own ++ news')) (ho : ∀ q ∈ news', ∀ r ∈ own, q.1 ≠ r.1) (hJ : Jn m' news' gs) : TurnPostG g L own Jn s Q .cont ⟨h', gs, dr, tk, s.os⟩ := ⟨h', tk, m', news', gs, dr, rfl, F, N, ho, hJ⟩

theorem TurnPostG.brk {L : Addr} {own : List (Addr × Obj)} {Jn : (Str → Option Value) → List (Addr × Obj) → Array GenState → Prop} {s₃ : Shared} (h : Q .next s₃) : TurnPostG g L own Jn s Q .brk s₃ := h
theorem loop_masterG {R : Result → Shared → Prop} {I : Addr} {fp wr : List Addr} {n : Nat} {P Md : Nat → Value → Heap → Prop} {St : Nat → Heap → Prop} {m : Str → Option Value} {news : List (Addr × Obj)} (W : KTurns prog w A target I fp wr n P Md St)
    (hLf : env.locals ∉ fp) (hwr : ∀ b ∈ wr, g.get? b = none) (hfp : ∀ b ∈ fp, b ∈ wr ∨ ∃ o, g.get? b = some o) (hnw : ∀ p ∈ news, p.1 ∉ wr) (hst : St 0 s.heap) (F : Fr g env.locals s.heap m) (N : News g env.locals s.heap news)
    (J : Nat → (Str → Option Value) → List (Addr × Obj) → Array GenState → Prop) (h0 : J 0 m news s.gens)
    (step : ∀ i v m₁ news₁ h₁ tk₁ own gs dr, i < n → P i v h₁ → J i m₁ news₁ gs → own.map (·.1) = wr → (∀ q ∈ news₁, ∀ r ∈ own, q.1 ≠ r.1) → St (i + 1) h₁ →
      Fr g env.locals h₁ m₁ → News g env.locals h₁ (own ++ news₁) →
      wpAny (model prog w) A (assign target env v) (fun _ s₂ => wpAny (model prog w) A (execs body env) (TurnPostG g env.locals own (J (i + 1)) s fun f s' => R (.ok f) s') (fun _ _ => False) s₂) (fun _ _ => False) ⟨h₁, gs, dr, tk₁, s.os⟩)
    (done : ∀ h' tk m' news' gs dr, Fr g env.locals h' m' → News g env.locals h' news' → (∀ p ∈ news', p.1 ∉ wr) → J n m' news' gs → wpAny (model prog w) A (execs orelse env) (fun f s' => R (.ok f) s') (fun _ _ => False) ⟨h', gs, dr, tk, s.os⟩)
    (alive : ∀ i h, St i h → ∀ b ∈ wr, ∃ o, h.get? b = some o) :
    codeAny (model prog w) A (.forLoop target (.ref I) body orelse env) R s := by
  have hLw : env.locals ∉ wr := fun h => hLf (W.sub _ h)
  have old : ∀ b o, g.get? b = some o → b ∉ wr := fun b o e hb => by rw [hwr b hb] at e; cases e
  refine codeAny_forLoop_any
    (fun k (s' : Shared) => ∃ h' tk m' news' i gs dr, s' = (⟨h', gs, dr, tk, s.os⟩ : Shared) ∧ St i h' ∧ Fr g env.locals h' m' ∧ News g env.locals h' news' ∧ (∀ p ∈ news', p.1 ∉ wr) ∧ J i m' news' gs ∧ i ≤ n ∧ k = n + 1 - i) ?_ (n + 1)
    ⟨s.heap, s.toks, m, news, 0, s.gens, s.drawn, rfl, hst, F, N, hnw, h0, Nat.zero_le _, rfl⟩
  rintro k s' ⟨h', tk, m', news', i, gs, dr, rfl, hst', F', N', hnw', hJ, hi, rfl⟩
  have next : ∀ h₁ : Heap, (∀ b o, b ∉ wr → h'.get? b = some o → h₁.get? b = some o) → Fr g env.locals h₁ m' ∧ News g env.locals h₁ news' := fun h₁ hk₁ =>
    ⟨⟨F'.ns.at' fun o e => hk₁ _ o hLw e, fun b o e => hk₁ b o (old b o e) (F'.keep b o e), F'.above⟩, fun p hp => ⟨hk₁ _ _ (hnw' p hp) (N' p hp).1, (N' p hp).2⟩⟩
  by_cases hlt : i < n
  · refine W.item i _ _ _ hlt hst' fun v h₁ tk₁ hMd hk₁ => ?_
    refine W.go i v _ _ _ hMd fun h₂ hP hst₂ hk₂ => ?_
    obtain ⟨F₂, N₂⟩ := next h₂ fun b o hb x => hk₂ b o hb (hk₁ b o hb x)
    have hal := alive _ _ hst₂
    have exo : ∀ l : List Addr, (∀ b ∈ l, b ∈ wr) → ∃ own : List (Addr × Obj), own.map (·.1) = l ∧ News g env.locals h₂ own := by
      intro l
      induction l with
      | nil => exact fun _ => ⟨[], rfl, News.nil⟩
      | cons b l ih =>
        intro hl
        obtain ⟨own, e1, e2⟩ := ih fun x hx => hl x (.tail _ hx)
        have hb := hl b (.head _)
        obtain ⟨o, ho⟩ := hal b hb
        refine ⟨(b, o) :: own, by rw [List.map_cons, e1], fun q hq => ?_⟩
        rcases List.mem_cons.mp hq with rfl | hq
        · exact ⟨ho, fun e => hLw (e ▸ hb), hwr b hb⟩
        · exact e2 q hq
    obtain ⟨own, hown, Nown⟩ := exo wr fun _ h => h
    have hoff : ∀ q ∈ news', ∀ r ∈ own, q.1 ≠ r.1 := fun q hq r hr e => hnw' q hq (by rw [← hown, e]; exact List.mem_map_of_mem hr)
    have fin : ∀ s₃ : Shared, (∃ h₃ tk m₃ news₃ gs₃ dr₃, s₃ = ⟨h₃, gs₃, dr₃, tk, s.os⟩ ∧ Fr g env.locals h₃ m₃ ∧ News g env.locals h₃ (own ++ news₃) ∧ (∀ q ∈ news₃, ∀ r ∈ own, q.1 ≠ r.1) ∧ J (i + 1) m₃ news₃ gs₃) →
        ∃ m, m < n + 1 - i ∧ ∃ h' tk m' news' i' gs dr, s₃ = ⟨h', gs, dr, tk, s.os⟩ ∧ St i' h' ∧ Fr g env.locals h' m' ∧ News g env.locals h' news' ∧ (∀ p ∈ news', p.1 ∉ wr) ∧ J i' m' news' gs ∧ i' ≤ n ∧ m = n + 1 - i' := by
      rintro s₃ ⟨h₃, tk₃, m₃, news₃, gs₃, dr₃, rfl, F₃, N₃, ho₃, hJ₃⟩
      refine ⟨n + 1 - (i + 1), by omega, h₃, tk₃, m₃, news₃, i + 1, gs₃, dr₃, rfl, ?_, F₃, N₃.right, fun q hq hw => ?_, hJ₃, hlt, rfl⟩
      · refine W.frame _ _ _ hst₂ fun b hb o e => ?_
        rcases hfp b hb with hw | ⟨o₀, h₀⟩
        · rw [← hown] at hw
          obtain ⟨r, hr, rfl⟩ := List.mem_map.mp hw
          have h1 := (Nown r hr).1
          have h2 := (N₃ r (List.mem_append_left _ hr)).1
          rw [e] at h1
          rw [h2]; exact h1.symm
        · have q := F₂.keep b o₀ h₀
          rw [e] at q
          exact (Option.some.inj q) ▸ F₃.keep b o₀ h₀
      · rw [← hown] at hw
        obtain ⟨r, hr, e⟩ := List.mem_map.mp hw
        exact ho₃ q hq r hr e.symm
    refine wpAny_mono (step i v m' news' h₂ tk₁ own gs dr hlt hP hJ hown hoff hst₂ F₂ (Nown.append N₂)) (fun _ s₂ h₂' => wpAny_mono h₂' (fun f s₃ h₃ => ?_) fun _ _ e => e.elim) fun _ _ e => e.elim
    cases f with
    | ret v => exact h₃
    | brk => exact h₃
    | cont => exact fin s₃ h₃
    | next => exact fin s₃ h₃
  · have hin : i = n := by omega
    subst hin
    refine W.done _ _ _ hst' fun h₁ tk₁ hk₁ => ?_
    obtain ⟨F₁, N₁⟩ := next h₁ hk₁
    exact wpAny_mono (done h₁ tk₁ m' news' gs dr F₁ N₁ hnw' hJ) (fun _ _ e => e) fun _ _ e => e.elim

/-- for over a list that the base heap holds -/
theorem pyIter_listG {ax : Addr} {items : List Value} {L : Addr} {m : Str → Option Value} {news : List (Addr × Obj)} {E : Value → Shared → Prop}
    (hL : env.locals = L) (hh : A.handled = none) (hl : g.IsList ax items.toArray) (F : Fr g L s.heap m) (N : News g L s.heap news)
    (J : Nat → (Str → Option Value) → List (Addr × Obj) → Array GenState → Prop) (h0 : J 0 m news s.gens)
    (step : ∀ I it, (∀ q ∈ news, q.1 < I) → ∀ i v m₁ news₁ h₁ tk₁ gs dr, items[i]? = some v → J i m₁ news₁ gs → (∀ q ∈ news₁, q.1 ≠ I) →
      Fr g L h₁ m₁ → News g L h₁ ((I, it) :: news₁) →
      wpAny (model prog w) A (assign target env v) (fun _ s₂ => wpAny (model prog w) A (execs body env) (TurnPostG g L [(I, it)] (J (i + 1)) s Q) (fun _ _ => False) s₂) (fun _ _ => False) ⟨h₁, gs, dr, tk₁, s.os⟩)
    (done : ∀ h' tk m' news' gs dr, Fr g L h' m' → News g L h' news' → J items.length m' news' gs → wpAny (model prog w) A (execs orelse env) Q (fun _ _ => False) ⟨h', gs, dr, tk, s.os⟩) :
    wpAny (model prog w) A (pyIter (.ref ax)) (fun it s₂ => codeAny (model prog w) A (.forLoop target it body orelse env) (okR Q) s₂) E s := by
  subst hL
  have hls : s.heap.IsList ax items.toArray := stays_list (fun b o e => F.keep b o e) hl
  obtain ⟨lo, hlo, _⟩ := id hl
  have hne : ax ≠ s.heap.objs.size := Nat.ne_of_lt (Heap.lt_size (F.keep _ _ hlo))
  refine wpAny_pyIter_list hls ?_
  refine loop_masterG (KTurns.ofWalks (Walks.list hh s.heap.objs.size ax hne items.toArray) fun i v s Q E st q => letGo_listiter st.1 q) ?_ ?_ ?_ ?_ ?_ (F.push _) (fun p hp => ⟨Heap.get?_push_of_some _ (N p hp).1, (N p hp).2⟩) J h0 ?_ ?_ ?_
  · intro hI
    rcases List.mem_cons.mp hI with e | hI
    · exact absurd F.ns.lt (e ▸ Nat.lt_irrefl _)
    · have e := List.mem_singleton.mp hI
      exact absurd (Heap.lt_size hlo) (Nat.not_lt.mpr (e ▸ F.above))
  · intro b hb
    rw [List.mem_singleton.mp hb]
    exact next_is_new F
  · intro b hb
    rcases List.mem_cons.mp hb with e | hb
    · exact .inl (by simp [e])
    · exact .inr ⟨lo, (List.mem_singleton.mp hb) ▸ hlo⟩
  · intro p hp hI
    exact absurd (Heap.lt_size (N p hp).1) ((List.mem_singleton.mp hI) ▸ Nat.lt_irrefl _)
  · exact ⟨⟨_, Heap.get?_push_size _ rfl, rfl, rfl⟩, hls.at fun o e => Heap.get?_push_of_some _ e⟩
  · intro i v m₁ news₁ h₁ tk₁ own gs dr hi hP hJ hown hoff hst F₁ N₁
    obtain ⟨it, rfl⟩ := own_one hown
    have hP' : items[i]? = some v := by
      have hp' : items.toArray[i]? = some v := hP
      simpa using hp'
    exact step _ it (fun q hq => Heap.lt_size (N q hq).1) i v m₁ news₁ h₁ tk₁ gs dr hP' hJ (fun q hq => hoff q hq _ (.head _)) F₁ N₁
  · intro h' tk m' news' gs dr F' N' _ hJ
    exact done h' tk m' news' gs dr F' N' hJ
  · intro i h st b hb
    obtain ⟨it, hit, _⟩ := st.1
    exact ⟨it, (List.mem_singleton.mp hb) ▸ hit⟩

end
end
section
noncomputable abbrev fmS (x : Int) : Str := ⟨(fmTo x 10).toArray⟩
/-- the words of a line, k of them ahead -/
noncomputable def wordsT : Nat → Tr → List Str
  | _, .nil => []
  | k, .num n r => fmS ((n : Int) + 65536 * (k : Int)) :: wordsT (k + 1) r
  | k, .txt x r => x :: wordsT (k + 1) r
  | k, .sub t r => Str.join (Str.ofString " ") ((wordsT 0 t).map quoteS) :: wordsT (k + 1) r
noncomputable def lineS (t : Tr) : Str := Str.join (Str.ofString " ") ((wordsT 0 t).map quoteS)
theorem wordsT_app : ∀ (a b : Tr) (k : Nat), wordsT k (a.app b) = wordsT k a ++ wordsT (k + a.len) b
  | .nil, _, _ => rfl
  | .num n r, b, k => by rw [Tr.app, wordsT, wordsT, wordsT_app r b (k + 1), Tr.len, show k + 1 + r.len = k + (r.len + 1) by omega]; exact List.cons_append.symm
  | .txt n r, b, k => by rw [Tr.app, wordsT, wordsT, wordsT_app r b (k + 1), Tr.len, show k + 1 + r.len = k + (r.len + 1) by omega]; exact List.cons_append.symm
  | .sub n r, b, k => by rw [Tr.app, wordsT, wordsT, wordsT_app r b (k + 1), Tr.len, show k + 1 + r.len = k + (r.len + 1) by omega]; exact List.cons_append.symm
theorem wordsT_len : ∀ (t : Tr) (k : Nat), (wordsT k t).length = t.len
  | .nil, _ => rfl
  | .num n r, k => congrArg (· + 1) (wordsT_len r (k + 1))
  | .txt n r, k => congrArg (· + 1) (wordsT_len r (k + 1))
  | .sub n r, k => congrArg (· + 1) (wordsT_len r (k + 1))
noncomputable def lnB : Tr → Nat
  | .nil => 0
  | .num _ r => 53 + lnB r
  | .txt _ r => 8 + lnB r
  | .sub t r => 5 * lnB t + 3 + lnB r
theorem lnB_app : ∀ a b : Tr, lnB (a.app b) = lnB a + lnB b
  | .nil, b => (Nat.zero_add _).symm
  | .num n r, b => by rw [Tr.app, lnB, lnB, lnB_app r b]; omega
  | .txt n r, b => by rw [Tr.app, lnB, lnB, lnB_app r b]; omega
  | .sub n r, b => by rw [Tr.app, lnB, lnB, lnB_app r b]; omega
theorem quoteS_len (x : Str) : (quoteS x).length ≤ 5 * x.length + 2 := by
  unfold quoteS
  have h1 : (Str.ofString "''").length = 2 := by decide
  have h2 : (Str.ofString "'").length = 1 := by decide
  split
  · rw [h1]; omega
  · split
    · omega
    · rw [Str.length_append, Str.length_append, h2]
      have := replace_len x
      omega
theorem quote_sum : ∀ l : List Str, ((l.map quoteS).map fun x => x.length).sum + l.length ≤ (l.map fun x => 5 * x.length + 3).sum
  | [] => Nat.le_refl _
  | x :: l => by
    have ih := quote_sum l
    have := quoteS_len x
    simp only [List.map_cons, List.sum_cons, List.length_cons]
    omega
theorem fmS_len (x : Int) : (fmS x).length = 10 := by
  show (fmTo x 10).toArray.size = 10
  rw [List.size_toArray, fmTo_len]
theorem line_len {l : List Str} : (Str.join (Str.ofString " ") (l.map quoteS)).length ≤ (l.map fun x => 5 * x.length + 3).sum := by
  have h1 := join_len (Str.ofString " ") (l.map quoteS)
  have h2 := quote_sum l
  rw [space_len, List.length_map] at h1
  omega
theorem wordsT_sum : ∀ (t : Tr) (k : Nat), t.ok → ((wordsT k t).map fun x => 5 * x.length + 3).sum ≤ lnB t
  | .nil, _, _ => Nat.le_refl _
  | .num n r, k, h => by
    have ih := wordsT_sum r (k + 1) h.2
    rw [wordsT, lnB, List.map_cons, List.sum_cons, fmS_len]
    omega
  | .txt x r, k, h => by
    have ih := wordsT_sum r (k + 1) h.2
    have := h.1.1
    rw [wordsT, lnB, List.map_cons, List.sum_cons]
    omega
  | .sub t r, k, h => by
    have ih := wordsT_sum r (k + 1) h.2
    have ih2 := wordsT_sum t 0 h.1.1
    have := line_len (l := wordsT 0 t)
    rw [wordsT, lnB, List.map_cons, List.sum_cons]
    omega
theorem mem_sum {f : Str → Nat} {x : Str} : ∀ {l : List Str}, x ∈ l → f x ≤ (l.map f).sum
  | y :: l, h => by
    rw [List.map_cons, List.sum_cons]
    rcases List.mem_cons.mp h with rfl | h
    · omega
    · have := mem_sum (f := f) h; omega
theorem lineS_len {t : Tr} (h : t.ok) : (lineS t).length ≤ lnB t := Nat.le_trans line_len (wordsT_sum t 0 h)
end
section
variable {w : World} {p : Program} {loose : List Str} {mg mb : Str → Option Value}
noncomputable def lineJ (g : Heap) (Wd : Addr) (ws : List Value) (t : Tr) (i : Nat) (m : Str → Option Value) (news : List (Addr × Obj)) (gs : Array GenState) : Prop :=
  m "words" = some (.ref Wd) ∧ AllBare gs ∧ ∃ vs k o, news = [(Wd, W.listOf vs k), (746, o)] ∧ TabOk o ∧ vs.size = i ∧
      ∃ done rem : Tr, t = done.app rem ∧ done.len = i ∧ Vals (inHeap g) rem (ws.drop i) ∧ StrsAre vs.toList (wordsT 0 done)
theorem line_fin {g : Heap} {L Wd I : Addr} {o it : Obj} {y : Str} {ty : Tok} {ws : List Value} {vs : Array Value} {k i tk' : Nat} {done one r : Tr} {m' : Str → Option Value} {h' : Heap} {s : Shared} {Q : Flow → Shared → Prop} {gs : Array GenState} {dr : Drawn}
    (hWI : Wd ≠ I) (h7I : 746 ≠ I) (hsz : vs.size = i) (hlen : done.len = i) (hone : one.len = 1) (hdone : StrsAre vs.toList (wordsT 0 done)) (hr : Vals (inHeap g) r (ws.drop (i + 1))) (hb : AllBare gs) (ht : TabOk o)
    (hy : wordsT i one = [y]) (h2 : m' "words" = some (.ref Wd)) (F : Fr g L h' m') (N : News g L h' [(I, it), (Wd, W.listOf (vs.push (.str y ty)) k), (746, o)]) :
    TurnPostG g L [(I, it)] (lineJ g Wd ws (done.app (one.app r)) (i + 1)) s Q .next ⟨h', gs, dr, tk', s.os⟩ := by
  refine TurnPostG.next F N (fun q hq z hz => ?_) ⟨h2, hb, _, _, _, rfl, ht, by rw [Array.size_push, hsz], done.app one, r, (Tr.app_assoc _ _ _).symm, by rw [Tr.len_app]; omega, hr, ?_⟩
  · rcases List.mem_singleton.mp hz with rfl
    rcases List.mem_cons.mp hq with rfl | hq
    · exact hWI
    · rcases List.mem_singleton.mp hq with rfl
      exact h7I
  · rw [Array.toList_push, wordsT_app, Nat.zero_add, hlen, hy]
    exact StrsAre.snoc hdone
theorem len_led {A : Around} {E : Value → Shared → Prop} {s : Shared} {g : Heap} {L a : Addr} {news : List (Addr × Obj)} {vs : Array Value} {k : Nat} {Q : Value → Shared → Prop} (N : News g L s.heap news) (hm : (a, W.listOf vs k) ∈ news) (hn : vs.size ≤ 1000000) (h : ∀ t k, Q (.int vs.size t) ⟨s.heap, s.gens, s.drawn, k, s.os⟩) : wpAny (model PySem.Challenge.rw_mr0361_01.prog w) A (call (.builtin "len") [.ref a]) Q E s :=
  len_list (N.isList hm) (by omega) (h _ _)
theorem c_line : ∀ (n : Nat) (t : Tr), t.dep < n → t.ok → t.len ≤ 1000 → lnB t ≤ 100000 → ∀ a, ConJ w p loose mg mb 841 [.ref a] (n + 10) (100 * n + 100) (fun H => ∃ ws, H.IsList a ws.toArray ∧ Vals (inHeap H) t ws) (fun r => ∃ tr, r = .str (lineS t) tr) := by
  intro n
  induction n with
  | zero => exact fun t h => absurd h (Nat.not_lt_zero _)
  | succ n ih =>
  intro t hdep hok hlen hB a
  refine' ConJ.of_body [("tree", .ref a)] ?ho ?hcd ?b1 ?b2 ?hb ?hl ?a1 ?a2 ?a3 ?a4 ?a5 ?hpre ?h
  case ho => k_is
  case hcd => k_is
  case hpre => exact fun h h' k ⟨ws, e, q⟩ => ⟨ws, stays_list k e, inHeap_keeps k q⟩
  all_goals try exact rfl
  case a4 => omega
  rintro A g L s Q o F N ht G h746 BM X T hh hd hu ⟨ws, hl, hv⟩ hret
  (repeat' ((fail_if_success (with_reducible show wpAny _ _ (exec (Stmt.For _ _ _ _ _) _) _ _ _)); (fail_if_success (with_reducible show wpAny _ _ (call (Value.builtin "len") _) _ _ _)); (fail_if_success (with_reducible show wpAny _ _ (call (Value.ref _) _) _ _ _)); (first | (k_unfold; (try dsimp only)) | walk1 | (dsimp only; walk1))))
  rename_i Wd _ l1 _ _ F1 N1
  have h7W : 746 ≠ Wd := Nat.ne_of_lt l1
  refine for_rule ?_
  (repeat' ((fail_if_success (with_reducible show wpAny _ _ (exec (Stmt.For _ _ _ _ _) _) _ _ _)); (fail_if_success (with_reducible show wpAny _ _ (call (Value.builtin "len") _) _ _ _)); (fail_if_success (with_reducible show wpAny _ _ (call (Value.ref _) _) _ _ _)); (first | (k_unfold; (try dsimp only)) | walk1 | (dsimp only; walk1))))
  refine pyIter_listG (items := ws) (L := L) rfl hh hl F1 N1 (lineJ g Wd ws t) ?_ ?_ ?_
  · exact ⟨rfl, G, _, _, _, rfl, ht, rfl, .nil, t, rfl, rfl, hv, .nil⟩
  · rintro I it hI i v m₁ news₁ h₁ tk₁ gs dr hx ⟨hm2, hgs, vs, k, o1, rfl, ht1, hsz, done, rem, rfl, hdl, hrem, hdone⟩ hoff F2 N2
    refine post_abs fun Qt hQt => ?_
    have hWI : Wd ≠ I := hoff _ (.head _)
    have h7I : 746 ≠ I := hoff _ (.tail _ (.head _))
    rw [drop_at hx] at hrem
    have hd' := hdep
    rw [Tr.dep_app] at hd'
    have hok' := Tr.ok_app.mp hok
    have hsl : vs.size ≤ sizeLine := by
      have := (List.getElem?_eq_some_iff.mp hx).1
      rw [sizeLine_eq, hsz]
      have := hv.len
      omega
    cases rem with
    | nil => cases hrem
    | num n0 r =>
      obtain ⟨t0, vs', e, hr⟩ := hrem
      obtain ⟨rfl, rfl⟩ := List.cons.inj e
      obtain ⟨hn0, hokr⟩ := hok'.2
      have hvs : vs.size ≤ 1000 := by
        have := (List.getElem?_eq_some_iff.mp hx).1
        have := hv.len
        omega
      (repeat' ((fail_if_success (with_reducible show wpAny _ _ (exec (Stmt.For _ _ _ _ _) _) _ _ _)); (fail_if_success (with_reducible show wpAny _ _ (call (Value.builtin "len") _) _ _ _)); (fail_if_success (with_reducible show wpAny _ _ (call (Value.ref _) _) _ _ _)); (first | (k_unfold; (try dsimp only)) | walk1 | (dsimp only; walk1))))
      (with_reducible rename Fr _ _ _ _ => F3); (with_reducible rename News _ _ _ _ => N3)
      refine len_led N3 (.tail _ (.head _)) (by omega) fun t5 k5 => ?_
      (repeat' ((fail_if_success (with_reducible show wpAny _ _ (exec (Stmt.For _ _ _ _ _) _) _ _ _)); (fail_if_success (with_reducible show wpAny _ _ (call (Value.builtin "len") _) _ _ _)); (fail_if_success (with_reducible show wpAny _ _ (call (Value.ref _) _) _ _ _)); (first | (k_unfold; (try dsimp only)) | walk1 | (dsimp only; walk1))))
      refine (c_filemode _ _).use F3 N3 X T hh (by omega) (by omega) ?_
      rintro r3 h4 tk4 F4 N4 ⟨t3, rfl⟩
      (repeat' ((fail_if_success (with_reducible show wpAny _ _ (exec (Stmt.For _ _ _ _ _) _) _ _ _)); (fail_if_success (with_reducible show wpAny _ _ (call (Value.builtin "len") _) _ _ _)); (fail_if_success (with_reducible show wpAny _ _ (call (Value.ref _) _) _ _ _)); (first | (k_unfold; (try dsimp only)) | walk1 | (dsimp only; walk1))))
      (with_reducible rename Fr _ _ _ _ => F5); (with_reducible rename News _ _ _ _ => N5)
      refine hQt _ _ ?_
      exact line_fin (one := .num n0 .nil) hWI h7I hsz hdl rfl hdone hr hgs ht1 (by rw [← hsz]; rfl) (by (conv => lhs; whnf); with_reducible assumption) F5 N5
    | txt x0 r =>
      obtain ⟨t0, vs', e, hr⟩ := hrem
      obtain ⟨rfl, rfl⟩ := List.cons.inj e
      (repeat' ((fail_if_success (with_reducible show wpAny _ _ (exec (Stmt.For _ _ _ _ _) _) _ _ _)); (fail_if_success (with_reducible show wpAny _ _ (call (Value.builtin "len") _) _ _ _)); (fail_if_success (with_reducible show wpAny _ _ (call (Value.ref _) _) _ _ _)); (first | (k_unfold; (try dsimp only)) | walk1 | (dsimp only; walk1))))
      (with_reducible rename Fr _ _ _ _ => F3); (with_reducible rename News _ _ _ _ => N3)
      refine hQt _ _ ?_
      exact line_fin (one := .txt x0 .nil) hWI h7I hsz hdl rfl hdone hr hgs ht1 rfl (by (conv => lhs; whnf); with_reducible assumption) F3 N3
    | sub t1 r =>
      obtain ⟨a1, vs', ws1, e, hl1, hv1, hr⟩ := hrem
      obtain ⟨rfl, rfl⟩ := List.cons.inj e
      (repeat' ((fail_if_success (with_reducible show wpAny _ _ (exec (Stmt.For _ _ _ _ _) _) _ _ _)); (fail_if_success (with_reducible show wpAny _ _ (call (Value.builtin "len") _) _ _ _)); (fail_if_success (with_reducible show wpAny _ _ (call (Value.ref _) _) _ _ _)); (first | (k_unfold; (try dsimp only)) | walk1 | (dsimp only; walk1))))
      (with_reducible rename Fr _ _ _ _ => F3); (with_reducible rename News _ _ _ _ => N3)
      have hst : g.StaysIn (hideAll _ [746]) := stays_hide F3.keep fun a ha => by rcases List.mem_singleton.mp ha with rfl; exact (N3 _ (.tail _ (.tail _ (.head _)))).2.2
      have N3' : News g L _ [(746, o1), (I, it), (Wd, W.listOf vs k)] := fun q hq => N3 q (by
        rcases List.mem_cons.mp hq with rfl | hq
        · exact .tail _ (.tail _ (.head _))
        · rcases List.mem_cons.mp hq with rfl | hq
          · exact .head _
          · rcases List.mem_singleton.mp hq with rfl
            exact .tail _ (.head _))
      refine (ih t1 (by simp only [Tr.dep] at hd'; exact depn hd') hok'.2.1.1 hok'.2.1.2.1 (by rw [lnB_app] at hB; simp only [lnB] at hB; omega) a1).use F3 N3' ht1 hgs BM X T hh (by omega) (by omega) ?_ ⟨ws1, stays_list hst hl1, inHeap_keeps hst hv1⟩ ?_
      · intro q hq
        rcases List.mem_cons.mp hq with rfl | hq
        · exact h7I.symm
        · rcases List.mem_singleton.mp hq with rfl
          exact h7W.symm
      rintro r3 h4 tk4 gs4 dr4 o4 F4 N4 ht4 hb4 ⟨t4, rfl⟩
      have N4' : News g L h4 [(I, it), (Wd, W.listOf vs k), (746, o4)] := fun q hq => N4 q (by
        rcases List.mem_cons.mp hq with rfl | hq
        · exact .tail _ (.head _)
        · rcases List.mem_cons.mp hq with rfl | hq
          · exact .tail _ (.tail _ (.head _))
          · rcases List.mem_singleton.mp hq with rfl
            exact .head _)
      clear N4
      (repeat' ((fail_if_success (with_reducible show wpAny _ _ (exec (Stmt.For _ _ _ _ _) _) _ _ _)); (fail_if_success (with_reducible show wpAny _ _ (call (Value.builtin "len") _) _ _ _)); (fail_if_success (with_reducible show wpAny _ _ (call (Value.ref _) _) _ _ _)); (first | (k_unfold; (try dsimp only)) | walk1 | (dsimp only; walk1))))
      (with_reducible rename Fr _ _ _ _ => F5); (with_reducible rename News _ _ _ _ => N5)
      refine hQt _ _ ?_
      exact line_fin (one := .sub t1 .nil) hWI h7I hsz hdl rfl hdone hr hb4 ht4 rfl (by (conv => lhs; whnf); with_reducible assumption) F5 N5
  · rintro h' tk m' news' gs dr F5 N5 ⟨hm2, hgs, vs, k, o1, rfl, ht1, hsz, done, rem, rfl, hdl, hrem, hdone⟩
    rw [List.drop_length] at hrem
    have hr := Vals.nil_of hrem
    subst hr
    rw [Tr.app_nil] at hret hok hB hlen
    have hsum := wordsT_sum done 0 hok
    have hq := quote_sum (wordsT 0 done)
    have hwl := wordsT_len done 0
    (repeat' ((fail_if_success (with_reducible show wpAny _ _ (exec (Stmt.For _ _ _ _ _) _) _ _ _)); (fail_if_success (with_reducible show wpAny _ _ (call (Value.builtin "len") _) _ _ _)); (fail_if_success (with_reducible show wpAny _ _ (call (Value.ref _) _) _ _ _)); (first | (k_unfold; (try dsimp only)) | walk1 | (dsimp only; walk1))))
    (with_reducible rename Fr _ _ _ _ => F6); (with_reducible rename News _ _ _ _ => N6)
    have N6' : News g L _ [(746, o1), (Wd, W.listOf vs k)] := fun q hq => N6 q (by
        rcases List.mem_cons.mp hq with rfl | hq
        · exact .tail _ (.head _)
        · rcases List.mem_singleton.mp hq with rfl
          exact .head _)
    refine (c_join (wordsT 0 done) (fun x hx => ?_) (by omega) (by omega) Wd).use F6 N6' ht1 hgs BM X T hh (by omega) (by omega) ?_ ⟨vs.toList, ?_, hdone⟩ ?_
    · have := mem_sum (f := fun x => 5 * x.length + 3) hx
      omega
    · intro q hq
      rcases List.mem_singleton.mp hq with rfl
      exact h7W.symm
    · rw [Array.toArray_toList]
      exact ⟨_, hideAll_get _ (N6 _ (.head _)).1 (by simp [h7W.symm]), rfl, _, rfl⟩
    · rintro r3 h4 tk4 gs4 dr4 o4 F4 N4 ht4 hb4 ⟨t4, rfl⟩
      exact hret _ _ _ _ _ _ _ _ F4 N4 ht4 hb4 ⟨_, rfl⟩
end
section
/-- the kind that a remainder tells -/
noncomputable def kdOf (K : Nat) : Nat := if 15 < K then (if K = 19 then 10 else 4) else K
/-- one number: the innermost open directory, and those above it -/
noncomputable def tstep (S : Tr × List Tr) (R K : Nat) : Tr × List Tr :=
  if K = 20 then
    match S with
    | (T, P :: Ps) => (P.app (.sub T .nil), Ps)
    | (T, []) => (T, [])
  else
    let T' := S.1.app (.num (kdOf K * 4096 + R % 4096) .nil)
    if kdOf K = 10 then (T'.app (.txt (tgOf ((R / 4096 : Nat) : Int)) .nil), S.2)
    else if kdOf K = 4 then (if S.2.length + 1 < 3 then (.nil, T' :: S.2) else (T'.app (.sub .nil .nil), S.2))
    else (T', S.2)
noncomputable def rOf (x : Int) : Nat := ((x.fmod (10 ^ 12)).fdiv 21).toNat
noncomputable def kOf (x : Int) : Nat := ((x.fmod (10 ^ 12)).fmod 21).toNat
theorem r_is (x : Int) : (x.fmod (10 ^ 12)).fdiv 21 = (rOf x : Int) := by
  have h := Int.fmod_nonneg_of_pos x (b := 10 ^ 12) (by decide)
  unfold rOf
  rw [Int.toNat_of_nonneg]
  rw [Int.fdiv_eq_ediv_of_nonneg _ (by decide)]
  exact Int.ediv_nonneg h (by decide)
theorem k_is' (x : Int) : (x.fmod (10 ^ 12)).fmod 21 = (kOf x : Int) := by
  unfold kOf
  rw [Int.toNat_of_nonneg (Int.fmod_nonneg_of_pos _ (by decide))]
theorem k_lt' (x : Int) : kOf x < 21 := by
  have h := Int.fmod_lt_of_pos (x.fmod (10 ^ 12)) (b := 21) (by decide)
  have := k_is' x
  omega
theorem r_lt (x : Int) : rOf x < 10 ^ 12 := by
  have h := Int.fmod_lt_of_pos x (b := 10 ^ 12) (by decide)
  have h' := Int.fmod_nonneg_of_pos x (b := 10 ^ 12) (by decide)
  have := r_is x
  rw [Int.fdiv_eq_ediv_of_nonneg _ (by decide)] at this
  omega
noncomputable def trun (S : Tr × List Tr) : List Int → Tr × List Tr
  | [] => S
  | x :: r => trun (tstep S (rOf x) (kOf x)) r
theorem trun_snoc (x : Int) : ∀ (l : List Int) (S : Tr × List Tr), trun S (l ++ [x]) = tstep (trun S l) (rOf x) (kOf x)
  | [], _ => rfl
  | y :: l, S => trun_snoc x l _
/-- all that is open is closed -/
noncomputable def tcl (T : Tr) : List Tr → Tr
  | [] => T
  | P :: Ps => tcl (P.app (.sub T .nil)) Ps
noncomputable def treeT (l : List Int) : Tr := tcl (trun (.nil, []) l).1 (trun (.nil, []) l).2
theorem tstep_len (S : Tr × List Tr) (R K : Nat) (h : S.2.length ≤ 2) : (tstep S R K).2.length ≤ 2 := by
  obtain ⟨T, Ps⟩ := S
  unfold tstep
  split
  · cases Ps with
    | nil => exact h
    | cons P Ps => have : Ps.length + 1 ≤ 2 := h; show Ps.length ≤ 2; omega
  · dsimp only
    split
    · exact h
    · split
      · split
        · rename_i h3; have : Ps.length + 1 < 3 := h3; show Ps.length + 1 ≤ 2; omega
        · exact h
      · exact h
end
section
variable {w : World} {p : Program} {loose : List Str} {mg mb : Str → Option Value}
/-- the open directories above the innermost one: each holds its child last -/
noncomputable def Pars (closed : List (Addr × Obj)) : Addr → List (Addr × Obj) → List Tr → Prop
  | _, [], [] => True
  | c, (r, o) :: par, T :: Ts => (∃ vs k, o = W.listOf (vs ++ [Value.ref c]).toArray k ∧ Vals (inLed closed) T vs) ∧ Pars closed r par Ts
  | _, _, _ => False
theorem Pars.mono {closed closed' : List (Addr × Obj)} (h : ∀ q ∈ closed, q ∈ closed') : ∀ {c : Addr} {par : List (Addr × Obj)} {Ts : List Tr}, Pars closed c par Ts → Pars closed' c par Ts
  | _, [], [], _ => trivial
  | _, [], _ :: _, x => x.elim
  | _, _ :: _, [], x => x.elim
  | c, (r, o) :: par, T :: Ts, ⟨⟨vs, k, e, q⟩, y⟩ => ⟨⟨vs, k, e, q.mono fun a ws ⟨n, m⟩ => ⟨n, h _ m⟩⟩, Pars.mono h y⟩
theorem Pars.len {closed : List (Addr × Obj)} : ∀ {c : Addr} {par : List (Addr × Obj)} {Ts : List Tr}, Pars closed c par Ts → par.length = Ts.length
  | _, [], [], _ => rfl
  | _, [], _ :: _, x => x.elim
  | _, _ :: _, [], x => x.elim
  | c, (r, o) :: par, T :: Ts, ⟨_, y⟩ => congrArg (· + 1) y.len
noncomputable def lvOf (par : List (Addr × Obj)) (rk : Addr) : List Value := par.reverse.map (fun q => Value.ref q.1) ++ [.ref rk]
noncomputable def treeJ (Lm : Addr) (ns : List Int) (i : Nat) (m : Str → Option Value) (news : List (Addr × Obj)) : Prop :=
  m "lines" = some (.ref Lm) ∧ ∃ lk rk vs k par closed, news = (Lm, W.listOf (lvOf par rk).toArray lk) :: (rk, W.listOf vs k) :: (par ++ closed) ∧ (news.map (·.1)).Nodup ∧ vs.size ≤ 2 * i ∧ (∀ q ∈ par, ∀ vs' k', q.2 = W.listOf vs' k' → vs'.size ≤ 2 * i) ∧
    Vals (inLed closed) (trun (.nil, []) (ns.take i)).1 vs.toList ∧ Pars closed rk par (trun (.nil, []) (ns.take i)).2 ∧ (trun (.nil, []) (ns.take i)).2.length ≤ 2
theorem item_last {A : Around} {E : Value → Shared → Prop} {s : Shared} {value slice : Expr} {l : Addr} {vs : List Value} {x : Value} {u : Tok} {Q : Value → Shared → Prop} (hl : s.heap.IsList l (vs ++ [x]).toArray) (h : Q x s)
    (hs : subscripted slice false (.ref l) (.int (-1) u) = operate [.ref l, .int (-1) u] (getItem (.ref l) (.int (-1) u)) := by with_unfolding_all rfl) (hg : ∀ r, letTemporaryGo value (.ref l) r = pure () := by intro _; with_unfolding_all rfl) :
    wpAny (model PySem.Challenge.rw_mr0361_01.prog w) A (subscriptTail value slice (.ref l) (.int (-1) u)) Q E s := by
  have hsz : (vs ++ [x]).toArray.size = vs.length + 1 := by simp
  refine subscriptTail_builtin hl.typeIs slot_list_getitem.lookup (wpAny_getItem_list_neg hl (by decide) (by rw [hsz]; omega) (by decide) ?_ h) hs hg
  rw [hsz]
  have : ((-1 : Int) + ((vs.length + 1 : Nat) : Int)).toNat = vs.length := by omega
  rw [this]
  simp
theorem nd_ne {news : List (Addr × Obj)} {a : Addr} {o : Obj} (h : (((a, o) :: news).map (·.1)).Nodup) : ∀ q ∈ news, q.1 ≠ a := fun q hq e => by
  rw [List.map_cons, List.nodup_cons] at h
  exact h.1 (List.mem_map.mpr ⟨q, hq, e⟩)
theorem off_all {I : Addr} {it : Obj} {news : List (Addr × Obj)} (h : ∀ q ∈ news, q.1 ≠ I) : ∀ q ∈ news, ∀ r ∈ [(I, it)], q.1 ≠ r.1 := fun q hq r hr => by
  rcases List.mem_singleton.mp hr with rfl
  exact h q hq
theorem fdiv4096 (R : Nat) : (R : Int).fdiv 4096 = ((R / 4096 : Nat) : Int) := by rw [Int.fdiv_eq_ediv_of_nonneg _ (by decide)]; omega
theorem fmod4096 (R : Nat) : (R : Int).fmod 4096 = ((R % 4096 : Nat) : Int) := by rw [Int.fmod_eq_emod_of_nonneg _ (by decide)]; omega
theorem lvOf_len (par : List (Addr × Obj)) (rk : Addr) : (lvOf par rk).length = par.length + 1 := by simp [lvOf]
theorem vals_num {P : Holds} {T : Tr} {vs : Array Value} {z : Int} {n : Nat} {t : Tok} (h : Vals P T vs.toList) (e : z = n) : Vals P (T.app (.num n .nil)) (vs.push (.int z t)).toList := by
  rw [Array.toList_push]; exact h.app (Vals.num1 e)
theorem vals_txt {P : Holds} {T : Tr} {vs : Array Value} {x : Str} {t : Tok} (h : Vals P T vs.toList) : Vals P (T.app (.txt x .nil)) (vs.push (.str x t)).toList := by
  rw [Array.toList_push]; exact h.app ⟨_, _, rfl, rfl⟩
section
variable {g : Heap} {L Lm I rk : Addr} {it : Obj} {ns : List Int} {i lk k tk' R K : Nat} {vs vs' : Array Value} {par closed : List (Addr × Obj)} {S : Tr × List Tr} {m' : Str → Option Value} {h' : Heap} {s : Shared} {Q : Flow → Shared → Prop}
theorem fin_file {T' : Tr} (hstep : trun (.nil, []) (ns.take (i + 1)) = tstep S R K) (hP : Pars closed rk par S.2) (hPl : S.2.length ≤ 2) (hpb : ∀ q ∈ par, ∀ vs' k', q.2 = W.listOf vs' k' → vs'.size ≤ 2 * i) (hoff : ∀ q ∈ (Lm, W.listOf (lvOf par rk).toArray lk) :: (rk, W.listOf vs k) :: (par ++ closed), q.1 ≠ I)
    (hnd : (((Lm, W.listOf (lvOf par rk).toArray lk) :: (rk, W.listOf vs k) :: (par ++ closed)).map (·.1)).Nodup) {k' : Nat}
    (hnew : tstep S R K = (T', S.2)) (hT : Vals (inLed closed) T' vs'.toList) (hsz : vs'.size ≤ 2 * (i + 1)) (hm : m' "lines" = some (.ref Lm)) (F : Fr g L h' m') (N : News g L h' ((I, it) :: (Lm, W.listOf (lvOf par rk).toArray lk) :: (rk, W.listOf vs' k') :: (par ++ closed))) :
    TurnPost g L [(I, it)] (treeJ Lm ns (i + 1)) s Q .next ⟨h', s.gens, s.drawn, tk', s.os⟩ := by
  have hLI : Lm ≠ I := hoff _ (.head _)
  have hrI : rk ≠ I := hoff _ (.tail _ (.head _))
  have hall : ∀ q ∈ (Lm, W.listOf (lvOf par rk).toArray lk) :: (rk, W.listOf vs' k') :: (par ++ closed), q.1 ≠ I := fun q hq => by
    rcases List.mem_cons.mp hq with rfl | hq
    · exact hLI
    · rcases List.mem_cons.mp hq with rfl | hq
      · exact hrI
      · exact hoff q (.tail _ (.tail _ hq))
  refine TurnPost.next F N (off_all hall) ⟨hm, lk, rk, vs', k', par, closed, rfl, hnd, hsz, (fun q hq vs' k' e => Nat.le_trans (hpb q hq vs' k' e) (by omega)), ?_, ?_, ?_⟩
  · rw [hstep, hnew]; exact hT
  · rw [hstep, hnew]; exact hP
  · rw [hstep, hnew]; exact hPl
theorem fin_shut {T' : Tr} {l' : Addr} (hstep : trun (.nil, []) (ns.take (i + 1)) = tstep S R K) (hP : Pars closed rk par S.2) (hPl : S.2.length ≤ 2) (hpb : ∀ q ∈ par, ∀ vs' k', q.2 = W.listOf vs' k' → vs'.size ≤ 2 * i) (hoff : ∀ q ∈ (Lm, W.listOf (lvOf par rk).toArray lk) :: (rk, W.listOf vs k) :: (par ++ closed), q.1 ≠ I)
    (hnd : (((Lm, W.listOf (lvOf par rk).toArray lk) :: (rk, W.listOf vs k) :: (par ++ closed)).map (·.1)).Nodup) {k' : Nat} (hl : ∀ q ∈ (I, it) :: (Lm, W.listOf (lvOf par rk).toArray lk) :: (rk, W.listOf vs k) :: (par ++ closed), q.1 < l')
    (hnew : tstep S R K = (T'.app (.sub .nil .nil), S.2)) (hT : Vals (inLed closed) T' vs'.toList) (hsz : vs'.size + 1 ≤ 2 * (i + 1)) (hm : m' "lines" = some (.ref Lm)) (F : Fr g L h' m')
    (N : News g L h' ((l', W.listOf #[] 0) :: (I, it) :: (Lm, W.listOf (lvOf par rk).toArray lk) :: (rk, W.listOf (vs'.push (.ref l')) k') :: (par ++ closed))) :
    TurnPost g L [(I, it)] (treeJ Lm ns (i + 1)) s Q .next ⟨h', s.gens, s.drawn, tk', s.os⟩ := by
  have hlI : l' ≠ I := fun e => absurd (hl _ (.head _)) (e ▸ Nat.lt_irrefl _)
  have hLI : Lm ≠ I := hoff _ (.head _)
  have hrI : rk ≠ I := hoff _ (.tail _ (.head _))
  have hall : ∀ q ∈ (Lm, W.listOf (lvOf par rk).toArray lk) :: (rk, W.listOf (vs'.push (.ref l')) k') :: (par ++ ((l', W.listOf #[] 0) :: closed)), q.1 ≠ I := fun q hq => by
    rcases List.mem_cons.mp hq with rfl | hq
    · exact hLI
    · rcases List.mem_cons.mp hq with rfl | hq
      · exact hrI
      · rcases List.mem_append.mp hq with hq | hq
        · exact hoff q (.tail _ (.tail _ (List.mem_append_left _ hq)))
        · rcases List.mem_cons.mp hq with rfl | hq
          · exact hlI
          · exact hoff q (.tail _ (.tail _ (List.mem_append_right _ hq)))
  have N' : News g L h' ([(I, it)] ++ ((Lm, W.listOf (lvOf par rk).toArray lk) :: (rk, W.listOf (vs'.push (.ref l')) k') :: (par ++ ((l', W.listOf #[] 0) :: closed)))) := fun q hq => N q (by
    rcases List.mem_cons.mp hq with rfl | hq
    · exact .tail _ (.head _)
    · rcases List.mem_cons.mp hq with rfl | hq
      · exact .tail _ (.tail _ (.head _))
      · rcases List.mem_cons.mp hq with rfl | hq
        · exact .tail _ (.tail _ (.tail _ (.head _)))
        · rcases List.mem_append.mp hq with hq | hq
          · exact .tail _ (.tail _ (.tail _ (.tail _ (List.mem_append_left _ hq))))
          · rcases List.mem_cons.mp hq with rfl | hq
            · exact .head _
            · exact .tail _ (.tail _ (.tail _ (.tail _ (List.mem_append_right _ hq)))))
  refine TurnPost.next F N' (off_all hall) ⟨hm, lk, rk, _, k', par, (l', W.listOf #[] 0) :: closed, rfl, ?_, by rw [Array.size_push]; exact hsz, (fun q hq vs' k' e => Nat.le_trans (hpb q hq vs' k' e) (by omega)), ?_, ?_, ?_⟩
  · have e : ((Lm, W.listOf (lvOf par rk).toArray lk) :: (rk, W.listOf (vs'.push (.ref l')) k') :: (par ++ ((l', W.listOf #[] 0) :: closed))).map (·.1) = (Lm :: rk :: par.map (·.1)) ++ l' :: closed.map (·.1) := by simp
    have e2 : ((Lm, W.listOf (lvOf par rk).toArray lk) :: (rk, W.listOf vs k) :: (par ++ closed)).map (·.1) = (Lm :: rk :: par.map (·.1)) ++ closed.map (·.1) := by simp
    rw [e, List.perm_middle.nodup_iff, ← e2]
    refine List.nodup_cons.mpr ⟨fun hm => ?_, hnd⟩
    obtain ⟨q, hq, e⟩ := List.mem_map.mp hm
    exact absurd (hl q (.tail _ hq)) (e ▸ Nat.lt_irrefl _)
  · rw [hstep, hnew, Array.toList_push]
    exact (hT.mono fun a ws ⟨n, h⟩ => ⟨n, .tail _ h⟩).app ⟨l', [], [], rfl, ⟨0, .head _⟩, rfl, rfl⟩
  · rw [hstep, hnew]; exact hP.mono fun q hq => .tail _ hq
  · rw [hstep, hnew]; exact hPl
theorem fin_open {T' : Tr} {l' : Addr} (hstep : trun (.nil, []) (ns.take (i + 1)) = tstep S R K) (hP : Pars closed rk par S.2) (hPl : S.2.length + 1 < 3) (hpb : ∀ q ∈ par, ∀ vs' k', q.2 = W.listOf vs' k' → vs'.size ≤ 2 * i) (hoff : ∀ q ∈ (Lm, W.listOf (lvOf par rk).toArray lk) :: (rk, W.listOf vs k) :: (par ++ closed), q.1 ≠ I)
    (hnd : (((Lm, W.listOf (lvOf par rk).toArray lk) :: (rk, W.listOf vs k) :: (par ++ closed)).map (·.1)).Nodup) {k' lk' : Nat} (hl : ∀ q ∈ (I, it) :: (Lm, W.listOf (lvOf par rk).toArray lk) :: (rk, W.listOf vs k) :: (par ++ closed), q.1 < l')
    (hnew : tstep S R K = (.nil, T' :: S.2)) (hT : Vals (inLed closed) T' vs'.toList) (hsz : vs'.size + 1 ≤ 2 * (i + 1)) (hm : m' "lines" = some (.ref Lm)) (F : Fr g L h' m')
    (N : News g L h' ((l', W.listOf #[] 0) :: (I, it) :: (Lm, W.listOf ((lvOf par rk).toArray.push (.ref l')) lk') :: (rk, W.listOf (vs'.push (.ref l')) k') :: (par ++ closed))) :
    TurnPost g L [(I, it)] (treeJ Lm ns (i + 1)) s Q .next ⟨h', s.gens, s.drawn, tk', s.os⟩ := by
  have hlI : l' ≠ I := fun e => absurd (hl _ (.head _)) (e ▸ Nat.lt_irrefl _)
  have elv : (lvOf par rk).toArray.push (.ref l') = (lvOf ((rk, W.listOf (vs'.push (.ref l')) k') :: par) l').toArray := by simp [lvOf]
  rw [elv] at N
  have hLI : Lm ≠ I := hoff _ (.head _)
  have hrI : rk ≠ I := hoff _ (.tail _ (.head _))
  have hall : ∀ q ∈ (Lm, W.listOf (lvOf ((rk, W.listOf (vs'.push (.ref l')) k') :: par) l').toArray lk') :: (l', W.listOf #[] 0) :: (((rk, W.listOf (vs'.push (.ref l')) k') :: par) ++ closed), q.1 ≠ I := fun q hq => by
    rcases List.mem_cons.mp hq with rfl | hq
    · exact hLI
    · rcases List.mem_cons.mp hq with rfl | hq
      · exact hlI
      · rcases List.mem_cons.mp hq with rfl | hq
        · exact hrI
        · exact hoff q (.tail _ (.tail _ hq))
  have N' : News g L h' ([(I, it)] ++ ((Lm, W.listOf (lvOf ((rk, W.listOf (vs'.push (.ref l')) k') :: par) l').toArray lk') :: (l', W.listOf #[] 0) :: (((rk, W.listOf (vs'.push (.ref l')) k') :: par) ++ closed))) := fun q hq => N q (by
    rcases List.mem_cons.mp hq with rfl | hq
    · exact .tail _ (.head _)
    · rcases List.mem_cons.mp hq with rfl | hq
      · exact .tail _ (.tail _ (.head _))
      · rcases List.mem_cons.mp hq with rfl | hq
        · exact .head _
        · exact .tail _ (.tail _ (.tail _ hq)))
  refine TurnPost.next F N' (off_all hall) ⟨hm, lk', l', _, 0, (rk, W.listOf (vs'.push (.ref l')) k') :: par, closed, rfl, ?_, Nat.zero_le _, ?_, ?_, ?_, ?_⟩
  · have e : ((Lm, W.listOf (lvOf ((rk, W.listOf (vs'.push (.ref l')) k') :: par) l').toArray lk') :: (l', W.listOf #[] 0) :: (((rk, W.listOf (vs'.push (.ref l')) k') :: par) ++ closed)).map (·.1) = Lm :: l' :: rk :: (par.map (·.1) ++ closed.map (·.1)) := by simp
    have e2 : ((Lm, W.listOf (lvOf par rk).toArray lk) :: (rk, W.listOf vs k) :: (par ++ closed)).map (·.1) = Lm :: rk :: (par.map (·.1) ++ closed.map (·.1)) := by simp
    rw [e, (List.Perm.swap l' Lm _).nodup_iff, ← e2]
    refine List.nodup_cons.mpr ⟨fun hm => ?_, hnd⟩
    obtain ⟨q, hq, e⟩ := List.mem_map.mp hm
    exact absurd (hl q (.tail _ hq)) (e ▸ Nat.lt_irrefl _)
  · intro q hq vs₂ k₂ e
    rcases List.mem_cons.mp hq with rfl | hq
    · have e' : (vs'.push (.ref l')) = vs₂ := by injection e with _ _ e2; injection e2
      rw [← e', Array.size_push]; exact hsz
    · exact Nat.le_trans (hpb q hq vs₂ k₂ e) (by omega)
  · rw [hstep, hnew]; rfl
  · rw [hstep, hnew]
    exact ⟨⟨vs'.toList, k', congrArg (fun z => W.listOf z k') (by rw [← Array.toList_push, Array.toArray_toList]), hT⟩, hP⟩
  · rw [hstep, hnew]; show S.2.length + 1 ≤ 2; omega
theorem fin_pop {T P : Tr} {Ps : List Tr} {r : Addr} {o : Obj} {par1 : List (Addr × Obj)} (hstep : trun (.nil, []) (ns.take (i + 1)) = tstep (T, P :: Ps) R 20) (hP : Pars closed rk ((r, o) :: par1) (P :: Ps)) (hPl : (P :: Ps).length ≤ 2)
    (hpb : ∀ q ∈ (r, o) :: par1, ∀ vs' k', q.2 = W.listOf vs' k' → vs'.size ≤ 2 * i)
    (hoff : ∀ q ∈ (Lm, W.listOf (lvOf ((r, o) :: par1) rk).toArray lk) :: (rk, W.listOf vs k) :: (((r, o) :: par1) ++ closed), q.1 ≠ I)
    (hnd : (((Lm, W.listOf (lvOf ((r, o) :: par1) rk).toArray lk) :: (rk, W.listOf vs k) :: (((r, o) :: par1) ++ closed)).map (·.1)).Nodup) {lk' : Nat}
    (hT : Vals (inLed closed) T vs.toList) (hm : m' "lines" = some (.ref Lm)) (F : Fr g L h' m')
    (N : News g L h' ((I, it) :: (Lm, W.listOf (lvOf par1 r).toArray lk') :: (rk, W.listOf vs k) :: (((r, o) :: par1) ++ closed))) :
    TurnPost g L [(I, it)] (treeJ Lm ns (i + 1)) s Q .next ⟨h', s.gens, s.drawn, tk', s.os⟩ := by
  obtain ⟨⟨vp, kp, rfl, hvp⟩, hP2⟩ := hP
  have hLI : Lm ≠ I := hoff _ (.head _)
  have hrI : rk ≠ I := hoff _ (.tail _ (.head _))
  have hall : ∀ q ∈ (Lm, W.listOf (lvOf par1 r).toArray lk') :: (r, W.listOf (vp ++ [Value.ref rk]).toArray kp) :: (par1 ++ ((rk, W.listOf vs k) :: closed)), q.1 ≠ I := fun q hq => by
    rcases List.mem_cons.mp hq with rfl | hq
    · exact hLI
    · rcases List.mem_cons.mp hq with rfl | hq
      · exact hoff _ (.tail _ (.tail _ (.head _)))
      · rcases List.mem_append.mp hq with hq | hq
        · exact hoff q (.tail _ (.tail _ (.tail _ (List.mem_append_left _ hq))))
        · rcases List.mem_cons.mp hq with rfl | hq
          · exact hrI
          · exact hoff q (.tail _ (.tail _ (.tail _ (List.mem_append_right _ hq))))
  have N' : News g L h' ([(I, it)] ++ ((Lm, W.listOf (lvOf par1 r).toArray lk') :: (r, W.listOf (vp ++ [Value.ref rk]).toArray kp) :: (par1 ++ ((rk, W.listOf vs k) :: closed)))) := fun q hq => N q (by
    rcases List.mem_cons.mp hq with rfl | hq
    · exact .head _
    · rcases List.mem_cons.mp hq with rfl | hq
      · exact .tail _ (.head _)
      · rcases List.mem_cons.mp hq with rfl | hq
        · exact .tail _ (.tail _ (.tail _ (.head _)))
        · rcases List.mem_append.mp hq with hq | hq
          · exact .tail _ (.tail _ (.tail _ (.tail _ (List.mem_append_left _ hq))))
          · rcases List.mem_cons.mp hq with rfl | hq
            · exact .tail _ (.tail _ (.head _))
            · exact .tail _ (.tail _ (.tail _ (.tail _ (List.mem_append_right _ hq)))))
  have hnew : tstep (T, P :: Ps) R 20 = (P.app (.sub T .nil), Ps) := rfl
  refine TurnPost.next F N' (off_all hall) ⟨hm, lk', r, _, kp, par1, (rk, W.listOf vs k) :: closed, rfl, ?_, Nat.le_trans (hpb _ (.head _) _ _ rfl) (by omega), (fun q hq vs' k' e => Nat.le_trans (hpb q (.tail _ hq) vs' k' e) (by omega)), ?_, ?_, ?_⟩
  · have e : ((Lm, W.listOf (lvOf par1 r).toArray lk') :: (r, W.listOf (vp ++ [Value.ref rk]).toArray kp) :: (par1 ++ ((rk, W.listOf vs k) :: closed))).map (·.1) = (Lm :: r :: par1.map (·.1)) ++ rk :: closed.map (·.1) := by simp
    rw [e, List.perm_middle.nodup_iff]
    have e2 : ((Lm, W.listOf (lvOf ((r, W.listOf (vp ++ [Value.ref rk]).toArray kp) :: par1) rk).toArray lk) :: (rk, W.listOf vs k) :: (((r, W.listOf (vp ++ [Value.ref rk]).toArray kp) :: par1) ++ closed)).map (·.1) = Lm :: rk :: r :: (par1.map (·.1) ++ closed.map (·.1)) := by simp
    rw [e2] at hnd
    exact (List.Perm.swap Lm rk _).nodup_iff.mpr hnd
  · rw [hstep, hnew]
    show Vals _ _ (vp ++ [Value.ref rk]).toArray.toList
    exact (hvp.mono fun a ws ⟨n, h⟩ => ⟨n, .tail _ h⟩).app ⟨rk, [], vs.toList, rfl, ⟨k, by rw [Array.toArray_toList]; exact .head _⟩, hT.mono fun a ws ⟨n, h⟩ => ⟨n, .tail _ h⟩, rfl⟩
  · rw [hstep, hnew]; exact hP2.mono fun q hq => .tail _ hq
  · rw [hstep, hnew]; have : Ps.length + 1 ≤ 2 := hPl; show Ps.length ≤ 2; omega
end
theorem kd_low {K : Nat} (h : ¬ 15 < K) : kdOf K = K := if_neg h
theorem tstep_lnk {S : Tr × List Tr} {R K : Nat} (h : K ≠ 20) (hk : kdOf K = 10) : tstep S R K = ((S.1.app (.num (kdOf K * 4096 + R % 4096) .nil)).app (.txt (tgOf ((R / 4096 : Nat) : Int)) .nil), S.2) := by
  unfold tstep; rw [if_neg h]; dsimp only; rw [if_pos hk]
theorem tstep_fil {S : Tr × List Tr} {R K : Nat} (h : K ≠ 20) (hk : kdOf K ≠ 10) (hk' : kdOf K ≠ 4) : tstep S R K = (S.1.app (.num (kdOf K * 4096 + R % 4096) .nil), S.2) := by
  unfold tstep; rw [if_neg h]; dsimp only; rw [if_neg hk, if_neg hk']
theorem tstep_open {S : Tr × List Tr} {R K : Nat} (h : K ≠ 20) (hk : kdOf K = 4) (hl : S.2.length + 1 < 3) : tstep S R K = (.nil, S.1.app (.num (kdOf K * 4096 + R % 4096) .nil) :: S.2) := by
  unfold tstep; rw [if_neg h]; dsimp only; rw [if_neg (by rw [hk]; decide), if_pos hk, if_pos hl]
theorem tstep_shut {S : Tr × List Tr} {R K : Nat} (h : K ≠ 20) (hk : kdOf K = 4) (hl : ¬ S.2.length + 1 < 3) : tstep S R K = ((S.1.app (.num (kdOf K * 4096 + R % 4096) .nil)).app (.sub .nil .nil), S.2) := by
  unfold tstep; rw [if_neg h]; dsimp only; rw [if_neg (by rw [hk]; decide), if_pos hk, if_neg hl]
theorem kl_last_snoc (y : Value) : ∀ l : List Value, kl_last (l ++ [y]) = some (l, y)
  | [] => rfl
  | x :: l => by
    show (match kl_last (l ++ [y]) with | some (p, y) => some (x :: p, y) | none => some ([], x)) = _
    rw [kl_last_snoc y l]
theorem lv_last (r : Addr) (o : Obj) (par1 : List (Addr × Obj)) (rk : Addr) : kl_last (lvOf ((r, o) :: par1) rk) = some (lvOf par1 r, .ref rk) := by
  have e : lvOf ((r, o) :: par1) rk = lvOf par1 r ++ [.ref rk] := by simp [lvOf]
  rw [e, kl_last_snoc]
theorem allLt_get {d : Addr} : ∀ {l : List (Addr × Obj)}, AllLt d l → ∀ q ∈ l, q.1 < d := by
  intro l
  induction l with
  | nil => exact fun _ q hq => absurd hq List.not_mem_nil
  | cons p l ih =>
    intro h q hq
    rcases List.mem_cons.mp hq with e | hq
    · rw [e]; exact h.1
    · exact ih h.2 q hq
theorem pars_all : ∀ (par closed : List (Addr × Obj)) (rk : Addr) (vs : Array Value) (k : Nat) (T : Tr) (Ts : List Tr), Vals (inLed closed) T vs.toList → Pars closed rk par Ts →
    ∃ D ws k', (lvOf par rk).toArray[(0 : Int).toNat]? = some (.ref D) ∧ (D, W.listOf ws.toArray k') ∈ (rk, W.listOf vs k) :: (par ++ closed) ∧ Vals (inLed ((rk, W.listOf vs k) :: (par ++ closed))) (tcl T Ts) ws
  | [], closed, rk, vs, k, T, [], hT, _ => ⟨rk, vs.toList, k, rfl, by rw [Array.toArray_toList]; exact .head _, hT.mono fun a ws ⟨n, h⟩ => ⟨n, .tail _ h⟩⟩
  | [], _, _, _, _, _, _ :: _, _, h => h.elim
  | _ :: _, _, _, _, _, _, [], _, h => h.elim
  | (r, o) :: par, closed, rk, vs, k, T, P :: Ts, hT, ⟨⟨vp, kp, e, hvp⟩, h2⟩ => by
    subst e
    have hT' : Vals (inLed ((rk, W.listOf vs k) :: closed)) (P.app (.sub T .nil)) ((vp ++ [Value.ref rk]).toArray).toList := by
      show Vals _ _ (vp ++ [Value.ref rk])
      exact (hvp.mono fun a ws ⟨n, h⟩ => ⟨n, .tail _ h⟩).app ⟨rk, [], vs.toList, rfl, ⟨k, by rw [Array.toArray_toList]; exact .head _⟩, hT.mono fun a ws ⟨n, h⟩ => ⟨n, .tail _ h⟩, rfl⟩
    obtain ⟨D, ws, k', h0, hm, hv⟩ := pars_all par ((rk, W.listOf vs k) :: closed) r (vp ++ [Value.ref rk]).toArray kp (P.app (.sub T .nil)) Ts hT' (h2.mono fun q hq => .tail _ hq)
    have hsub : ∀ q ∈ (r, W.listOf (vp ++ [Value.ref rk]).toArray kp) :: (par ++ ((rk, W.listOf vs k) :: closed)), q ∈ (rk, W.listOf vs k) :: (((r, W.listOf (vp ++ [Value.ref rk]).toArray kp) :: par) ++ closed) := fun q hq => by
      rcases List.mem_cons.mp hq with rfl | hq
      · exact .tail _ (.head _)
      · rcases List.mem_append.mp hq with hq | hq
        · exact .tail _ (.tail _ (List.mem_append_left _ hq))
        · rcases List.mem_cons.mp hq with rfl | hq
          · exact .head _
          · exact .tail _ (.tail _ (List.mem_append_right _ hq))
    refine ⟨D, ws, k', ?_, hsub _ hm, hv.mono fun a ws ⟨n, h⟩ => ⟨n, hsub _ h⟩⟩
    have e : lvOf ((r, W.listOf (vp ++ [Value.ref rk]).toArray kp) :: par) rk = lvOf par r ++ [.ref rk] := by simp [lvOf]
    rw [e]
    have hl : 0 < (lvOf par r).length := by rw [lvOf_len]; omega
    have h0' : (lvOf par r)[0]? = some (.ref D) := by simpa using h0
    show (lvOf par r ++ [Value.ref rk]).toArray[0]? = _
    rw [List.getElem?_toArray, List.getElem?_append_left hl, h0']
theorem c_tree (ns : List Int) (hn : ns.length ≤ 7) (a : Addr) : Con w p loose mg mb 834 [.ref a] 5 100 [] (fun H => ∃ ws, H.IsList a ws.toArray ∧ IntsAre ws ns) (fun r led => ∃ D ws k, r = .ref D ∧ (D, W.listOf ws.toArray k) ∈ led ∧ Vals (inLed led) (treeT ns) ws) := by
  refine' Con.of_body [("numbers", .ref a)] ?ho ?hcd ?b1 ?b2 ?hb ?hl ?a1 ?a2 ?a3 ?a4 ?a5 ?hpre ?h
  case ho => k_is
  case hcd => k_is
  case hb => exact fun s _ => BindsTo.of_eq rfl
  case hpre => exact fun h h' k ⟨ws, e, q⟩ => ⟨ws, stays_list k e, q⟩
  all_goals try exact rfl
  case a4 => omega
  rintro A g L s Q F N _ X T hh hd hu ⟨ws, hl, hv⟩ hret
  have hwl := hv.length
  (repeat' ((fail_if_success (with_reducible show wpAny _ _ (exec (Stmt.For _ _ _ _ _) _) _ _ _)); (fail_if_success (with_reducible show wpAny _ _ (call (Value.builtin "len") _) _ _ _)); (fail_if_success (with_reducible show wpAny _ _ (call (Value.ref _) _) _ _ _)); (fail_if_success (with_reducible show wpAny _ _ (subscriptTail _ _ (Value.ref _) _) _ _ _)); (first | (k_unfold; (try dsimp only)) | walk1 | (dsimp only; walk1))))
  rename_i r0 _ _ Lm _ l1 _ _ F1 N1
  refine for_rule ?_
  (repeat' ((fail_if_success (with_reducible show wpAny _ _ (exec (Stmt.For _ _ _ _ _) _) _ _ _)); (fail_if_success (with_reducible show wpAny _ _ (call (Value.builtin "len") _) _ _ _)); (fail_if_success (with_reducible show wpAny _ _ (call (Value.ref _) _) _ _ _)); (fail_if_success (with_reducible show wpAny _ _ (subscriptTail _ _ (Value.ref _) _) _ _ _)); (first | (k_unfold; (try dsimp only)) | walk1 | (dsimp only; walk1))))
  refine pyIter_listB (items := ws) (L := L) rfl hh hl F1 N1 (treeJ Lm ns) ?_ ?_ ?_
  · refine ⟨rfl, _, r0, _, _, [], [], rfl, ?_, Nat.zero_le _, (fun q hq => absurd hq List.not_mem_nil), rfl, trivial, Nat.zero_le _⟩
    show [Lm, r0].Nodup
    exact List.nodup_cons.mpr ⟨fun h => absurd (List.mem_singleton.mp h) (Nat.ne_of_gt l1), List.nodup_cons.mpr ⟨List.not_mem_nil, List.nodup_nil⟩⟩
  · rintro I it hI i v m₁ news₁ h₁ tk₁ hx ⟨hml, lk, rk, vs, k, par, closed, rfl, hnd, hvs, hpb, hT, hP, hPl⟩ hoff F2 N2
    refine post_abs fun Qt hQt => ?_
    have hi := (List.getElem?_eq_some_iff.mp hx).1
    obtain ⟨x, t, rfl, hxn⟩ : ∃ x t, v = Value.int x t ∧ ns[i]? = some x := by
      have hi' : i < ns.length := by omega
      obtain ⟨t, ht⟩ := hv.get i ns[i] (List.getElem?_eq_getElem hi')
      rw [hx] at ht
      exact ⟨_, t, Option.some.inj ht, List.getElem?_eq_getElem hi'⟩
    have htake : ns.take (i + 1) = ns.take i ++ [x] := by
      obtain ⟨hi', e⟩ := List.getElem?_eq_some_iff.mp hxn
      rw [List.take_succ_eq_append_getElem hi', e]
    have hstep := trun_snoc x (ns.take i) (.nil, [])
    rw [← htake] at hstep
    generalize hS : trun (.nil, []) (ns.take i) = S at hT hP hPl hstep
    have hLI : Lm ≠ I := hoff _ (.head _)
    have hrI : rk ≠ I := hoff _ (.tail _ (.head _))
    have hLr : rk ≠ Lm := nd_ne hnd _ (.head _)
    have hRL : ∀ q ∈ par ++ closed, q.1 ≠ Lm := fun q hq => nd_ne hnd q (.tail _ hq)
    have hnd2 : (((rk, W.listOf vs k) :: (par ++ closed)).map (·.1)).Nodup := (List.nodup_cons.mp hnd).2
    have hRr : ∀ q ∈ par ++ closed, q.1 ≠ rk := nd_ne hnd2
    have hRI : ∀ q ∈ par ++ closed, q.1 ≠ I := fun q hq => hoff q (.tail _ (.tail _ hq))
    have hsl : vs.size ≤ 1000 := by omega
    (repeat' ((fail_if_success (with_reducible show wpAny _ _ (exec (Stmt.For _ _ _ _ _) _) _ _ _)); (fail_if_success (with_reducible show wpAny _ _ (call (Value.builtin "len") _) _ _ _)); (fail_if_success (with_reducible show wpAny _ _ (call (Value.ref _) _) _ _ _)); (fail_if_success (with_reducible show wpAny _ _ (subscriptTail _ _ (Value.ref _) _) _ _ _)); (first | (k_unfold; (try dsimp only)) | walk1 | (dsimp only; walk1))))
    (with_reducible rename Fr _ _ _ _ => F3); (with_reducible rename News _ _ _ _ => N3)
    refine assign2 hh F3 N3 (N3.isTup (.head _)) rfl rfl rfl rfl fun h6 tk6 F6 N6 => ?_
    replace N6 : News g L h6 ((I, it) :: (Lm, W.listOf (lvOf par rk).toArray lk) :: (rk, W.listOf vs k) :: (par ++ closed)) := fun q hq => N6 q (.tail _ hq)
    dsimp only at F6 ⊢
    clear F3 N3
    have e10 : (10 : Int) ^ Int.toNat 12 = 10 ^ 12 := rfl
    rw [e10, r_is x, k_is' x] at F6
    have hk21 := k_lt' x
    have hr12 := r_lt x
    generalize rOf x = R at F6 hstep hr12
    generalize kOf x = K at F6 hstep hk21
    have hpl := hP.len
    have hlvs := lvOf_len par rk
    have hlz : (lvOf par rk).toArray.size ≤ sizeLine := by rw [List.size_toArray, hlvs, sizeLine_eq]; omega
    (repeat' ((fail_if_success (with_reducible show wpAny _ _ (exec (Stmt.For _ _ _ _ _) _) _ _ _)); (fail_if_success (with_reducible show wpAny _ _ (call (Value.builtin "len") _) _ _ _)); (fail_if_success (with_reducible show wpAny _ _ (call (Value.ref _) _) _ _ _)); (fail_if_success (with_reducible show wpAny _ _ (subscriptTail _ _ (Value.ref _) _) _ _ _)); (first | (k_unfold; (try dsimp only)) | walk1 | (dsimp only; walk1))))
    · rename_i hK20
      have hK : K = 20 := by omega
      refine len_led N6 (.tail _ (.head _)) (by rw [List.size_toArray, hlvs]; omega) fun t7 k7 => ?_
      rw [List.size_toArray, hlvs]
      subst hK
      (repeat' ((fail_if_success (with_reducible show wpAny _ _ (exec (Stmt.For _ _ _ _ _) _) _ _ _)); (fail_if_success (with_reducible show wpAny _ _ (call (Value.builtin "len") _) _ _ _)); (fail_if_success (with_reducible show wpAny _ _ (call (Value.ref _) _) _ _ _)); (fail_if_success (with_reducible show wpAny _ _ (subscriptTail _ _ (Value.ref _) _) _ _ _)); (first | (k_unfold; (try dsimp only)) | walk1 | (dsimp only; walk1))))
      · rename_i hgt
        obtain ⟨TS, PS⟩ := S
        cases PS with
        | nil => exact absurd hpl (by show ¬ par.length = 0; omega)
        | cons P Ps =>
        cases par with
        | nil => exact hP.elim
        | cons q par1 =>
        obtain ⟨r, o⟩ := q
        dsimp only
        refine kl_pop (its := (lvOf ((r, o) :: par1) rk).toArray) F6 N6 (p := lvOf par1 r) (y := .ref rk) (lv_last r o par1 rk) (Upd.tail hLI.symm (Upd.head (nd_ne hnd))) (by rw [List.toList_toArray, hlvs, sizeLine_eq]; omega) ?_
        intro h8 F8 N8
        (repeat' ((fail_if_success (with_reducible show wpAny _ _ (exec (Stmt.For _ _ _ _ _) _) _ _ _)); (fail_if_success (with_reducible show wpAny _ _ (call (Value.builtin "len") _) _ _ _)); (fail_if_success (with_reducible show wpAny _ _ (call (Value.ref _) _) _ _ _)); (fail_if_success (with_reducible show wpAny _ _ (subscriptTail _ _ (Value.ref _) _) _ _ _)); (first | (k_unfold; (try dsimp only)) | walk1 | (dsimp only; walk1))))
        (with_reducible rename Fr _ _ _ _ => F9); (with_reducible rename News _ _ _ _ => N9)
        refine hQt _ _ ?_
        exact fin_pop hstep hP hPl hpb hoff hnd hT (by (conv => lhs; whnf); with_reducible assumption) F9 N9
      · rename_i hgt
        have hS2 : S.2 = [] := List.eq_nil_of_length_eq_zero (by omega)
        have hnew : tstep S R 20 = (S.1, S.2) := by
          obtain ⟨TS, PS⟩ := S
          have : PS = [] := hS2
          subst this; rfl
        refine hQt _ _ ?_
        exact fin_file hstep hP hPl hpb hoff hnd hnew hT (by omega) (by (conv => lhs; whnf); with_reducible assumption) F6 N6
    all_goals (
      (with_reducible rename Fr _ _ _ _ => F7); (with_reducible rename News _ _ _ _ => N7)
      refine item_last (N7.isList (.tail _ (.head _))) ?_
      (repeat' ((fail_if_success (with_reducible show wpAny _ _ (exec (Stmt.For _ _ _ _ _) _) _ _ _)); (fail_if_success (with_reducible show wpAny _ _ (call (Value.builtin "len") _) _ _ _)); (fail_if_success (with_reducible show wpAny _ _ (call (Value.ref _) _) _ _ _)); (fail_if_success (with_reducible show wpAny _ _ (subscriptTail _ _ (Value.ref _) _) _ _ _)); (first | (k_unfold; (try dsimp only)) | walk1 | (dsimp only; walk1)))))
    · have hK : K = 19 := by omega
      (with_reducible rename Fr _ _ _ _ => F8); (with_reducible rename News _ _ _ _ => N8)
      refine item_last (N8.isList (.tail _ (.head _))) ?_
      (repeat' ((fail_if_success (with_reducible show wpAny _ _ (exec (Stmt.For _ _ _ _ _) _) _ _ _)); (fail_if_success (with_reducible show wpAny _ _ (call (Value.builtin "len") _) _ _ _)); (fail_if_success (with_reducible show wpAny _ _ (call (Value.ref _) _) _ _ _)); (fail_if_success (with_reducible show wpAny _ _ (subscriptTail _ _ (Value.ref _) _) _ _ _)); (first | (k_unfold; (try dsimp only)) | walk1 | (dsimp only; walk1))))
      refine (c_target _ _ (by rw [fdiv4096]; omega)).use F8 N8 X T hh (by omega) (by omega) ?_
      rintro r9 h9 tk9 F9 N9 ⟨t9, rfl⟩
      (repeat' ((fail_if_success (with_reducible show wpAny _ _ (exec (Stmt.For _ _ _ _ _) _) _ _ _)); (fail_if_success (with_reducible show wpAny _ _ (call (Value.builtin "len") _) _ _ _)); (fail_if_success (with_reducible show wpAny _ _ (call (Value.ref _) _) _ _ _)); (fail_if_success (with_reducible show wpAny _ _ (subscriptTail _ _ (Value.ref _) _) _ _ _)); (first | (k_unfold; (try dsimp only)) | walk1 | (dsimp only; walk1))))
      (with_reducible rename Fr _ _ _ _ => FA); (with_reducible rename News _ _ _ _ => NA)
      refine hQt _ _ ?_
      refine fin_file hstep hP hPl hpb hoff hnd (tstep_lnk (by omega) (by rw [hK]; rfl)) (vals_txt (vals_num hT ?_)) (by rw [Array.size_push, Array.size_push]; omega) (by (conv => lhs; whnf); with_reducible assumption) FA (by rw [← fdiv4096]; exact NA)
      rw [fmod4096, hK]; show _ = ((10 * 4096 + R % 4096 : Nat) : Int); omega
    · have hkd : K ≠ 20 ∧ kdOf K = 4 := by refine ⟨by omega, ?_⟩; unfold kdOf; rw [if_pos (by omega), if_neg (by omega)]
      (with_reducible rename Fr _ _ _ _ => F8); (with_reducible rename News _ _ _ _ => N8)
      (with_reducible rename _ ∧ _ ∧ _ ∧ AllLt _ _ => l8)
      have hl8 : ∀ q ∈ (I, it) :: (Lm, W.listOf (lvOf par rk).toArray lk) :: (rk, W.listOf vs k) :: (par ++ closed), q.1 < _ := fun q hq => by
        rcases List.mem_cons.mp hq with rfl | hq
        · exact l8.1
        · rcases List.mem_cons.mp hq with rfl | hq
          · exact l8.2.1
          · rcases List.mem_cons.mp hq with rfl | hq
            · exact l8.2.2.1
            · exact allLt_get l8.2.2.2 q hq
      have hl8r := l8.2.2.1
      have hl8L := l8.2.1
      have hl8I := l8.1
      refine item_last (N8.isList (.tail _ (.tail _ (.head _)))) ?_
      (repeat' ((fail_if_success (with_reducible show wpAny _ _ (exec (Stmt.For _ _ _ _ _) _) _ _ _)); (fail_if_success (with_reducible show wpAny _ _ (call (Value.builtin "len") _) _ _ _)); (fail_if_success (with_reducible show wpAny _ _ (call (Value.ref _) _) _ _ _)); (fail_if_success (with_reducible show wpAny _ _ (subscriptTail _ _ (Value.ref _) _) _ _ _)); (first | (k_unfold; (try dsimp only)) | walk1 | (dsimp only; walk1))))
      (with_reducible rename Fr _ _ _ _ => F9); (with_reducible rename News _ _ _ _ => N9)
      refine len_led N9 (.tail _ (.tail _ (.head _))) (by rw [List.size_toArray, hlvs]; omega) fun t7 k7 => ?_
      rw [List.size_toArray, hlvs]
      (repeat' ((fail_if_success (with_reducible show wpAny _ _ (exec (Stmt.For _ _ _ _ _) _) _ _ _)); (fail_if_success (with_reducible show wpAny _ _ (call (Value.builtin "len") _) _ _ _)); (fail_if_success (with_reducible show wpAny _ _ (call (Value.ref _) _) _ _ _)); (fail_if_success (with_reducible show wpAny _ _ (subscriptTail _ _ (Value.ref _) _) _ _ _)); (first | (k_unfold; (try dsimp only)) | walk1 | (dsimp only; walk1))))
      · (with_reducible rename Fr _ _ _ _ => FA); (with_reducible rename News _ _ _ _ => NA)
        refine hQt _ _ ?_
        refine fin_open hstep hP (by omega) hpb hoff hnd hl8 (tstep_open hkd.1 hkd.2 (by omega)) (vals_num hT ?_) (by rw [Array.size_push]; omega) (by (conv => lhs; whnf); with_reducible assumption) FA NA
        rw [fmod4096, hkd.2]; omega
      · refine hQt _ _ ?_
        refine fin_shut hstep hP hPl hpb hoff hnd hl8 (tstep_shut hkd.1 hkd.2 (by omega)) (vals_num hT ?_) (by rw [Array.size_push]; omega) (by (conv => lhs; whnf); with_reducible assumption) F9 N9
        rw [fmod4096, hkd.2]; omega
    · have hK : K = 10 := by omega
      (with_reducible rename Fr _ _ _ _ => F8); (with_reducible rename News _ _ _ _ => N8)
      refine item_last (N8.isList (.tail _ (.head _))) ?_
      (repeat' ((fail_if_success (with_reducible show wpAny _ _ (exec (Stmt.For _ _ _ _ _) _) _ _ _)); (fail_if_success (with_reducible show wpAny _ _ (call (Value.builtin "len") _) _ _ _)); (fail_if_success (with_reducible show wpAny _ _ (call (Value.ref _) _) _ _ _)); (fail_if_success (with_reducible show wpAny _ _ (subscriptTail _ _ (Value.ref _) _) _ _ _)); (first | (k_unfold; (try dsimp only)) | walk1 | (dsimp only; walk1))))
      refine (c_target _ _ (by rw [fdiv4096]; omega)).use F8 N8 X T hh (by omega) (by omega) ?_
      rintro r9 h9 tk9 F9 N9 ⟨t9, rfl⟩
      subst hK
      (repeat' ((fail_if_success (with_reducible show wpAny _ _ (exec (Stmt.For _ _ _ _ _) _) _ _ _)); (fail_if_success (with_reducible show wpAny _ _ (call (Value.builtin "len") _) _ _ _)); (fail_if_success (with_reducible show wpAny _ _ (call (Value.ref _) _) _ _ _)); (fail_if_success (with_reducible show wpAny _ _ (subscriptTail _ _ (Value.ref _) _) _ _ _)); (first | (k_unfold; (try dsimp only)) | walk1 | (dsimp only; walk1))))
      (with_reducible rename Fr _ _ _ _ => FA); (with_reducible rename News _ _ _ _ => NA)
      refine hQt _ _ ?_
      refine fin_file hstep hP hPl hpb hoff hnd (tstep_lnk (by omega) rfl) (vals_txt (vals_num hT ?_)) (by rw [Array.size_push, Array.size_push]; omega) (by (conv => lhs; whnf); with_reducible assumption) FA (by rw [← fdiv4096]; exact NA)
      rw [fmod4096]; show _ = ((10 * 4096 + R % 4096 : Nat) : Int); omega
    · have hK : K = 4 := by omega
      have hkd : K ≠ 20 ∧ kdOf K = 4 := by rw [hK]; exact ⟨by decide, rfl⟩
      (with_reducible rename Fr _ _ _ _ => F8); (with_reducible rename News _ _ _ _ => N8)
      (with_reducible rename _ ∧ _ ∧ _ ∧ AllLt _ _ => l8)
      have hl8 : ∀ q ∈ (I, it) :: (Lm, W.listOf (lvOf par rk).toArray lk) :: (rk, W.listOf vs k) :: (par ++ closed), q.1 < _ := fun q hq => by
        rcases List.mem_cons.mp hq with rfl | hq
        · exact l8.1
        · rcases List.mem_cons.mp hq with rfl | hq
          · exact l8.2.1
          · rcases List.mem_cons.mp hq with rfl | hq
            · exact l8.2.2.1
            · exact allLt_get l8.2.2.2 q hq
      have hl8r := l8.2.2.1
      have hl8L := l8.2.1
      have hl8I := l8.1
      refine item_last (N8.isList (.tail _ (.tail _ (.head _)))) ?_
      (repeat' ((fail_if_success (with_reducible show wpAny _ _ (exec (Stmt.For _ _ _ _ _) _) _ _ _)); (fail_if_success (with_reducible show wpAny _ _ (call (Value.builtin "len") _) _ _ _)); (fail_if_success (with_reducible show wpAny _ _ (call (Value.ref _) _) _ _ _)); (fail_if_success (with_reducible show wpAny _ _ (subscriptTail _ _ (Value.ref _) _) _ _ _)); (first | (k_unfold; (try dsimp only)) | walk1 | (dsimp only; walk1))))
      (with_reducible rename Fr _ _ _ _ => F9); (with_reducible rename News _ _ _ _ => N9)
      refine len_led N9 (.tail _ (.tail _ (.head _))) (by rw [List.size_toArray, hlvs]; omega) fun t7 k7 => ?_
      rw [List.size_toArray, hlvs]
      (repeat' ((fail_if_success (with_reducible show wpAny _ _ (exec (Stmt.For _ _ _ _ _) _) _ _ _)); (fail_if_success (with_reducible show wpAny _ _ (call (Value.builtin "len") _) _ _ _)); (fail_if_success (with_reducible show wpAny _ _ (call (Value.ref _) _) _ _ _)); (fail_if_success (with_reducible show wpAny _ _ (subscriptTail _ _ (Value.ref _) _) _ _ _)); (first | (k_unfold; (try dsimp only)) | walk1 | (dsimp only; walk1))))
      · (with_reducible rename Fr _ _ _ _ => FA); (with_reducible rename News _ _ _ _ => NA)
        refine hQt _ _ ?_
        refine fin_open hstep hP (by omega) hpb hoff hnd hl8 (tstep_open hkd.1 hkd.2 (by omega)) (vals_num hT ?_) (by rw [Array.size_push]; omega) (by (conv => lhs; whnf); with_reducible assumption) FA NA
        rw [fmod4096, hkd.2]; omega
      · refine hQt _ _ ?_
        refine fin_shut hstep hP hPl hpb hoff hnd hl8 (tstep_shut hkd.1 hkd.2 (by omega)) (vals_num hT ?_) (by rw [Array.size_push]; omega) (by (conv => lhs; whnf); with_reducible assumption) F9 N9
        rw [fmod4096, hkd.2]; omega
    · (with_reducible rename Fr _ _ _ _ => FA); (with_reducible rename News _ _ _ _ => NA)
      refine hQt _ _ ?_
      refine fin_file hstep hP hPl hpb hoff hnd (tstep_fil (by omega) (by rw [kd_low (by omega)]; omega) (by rw [kd_low (by omega)]; omega)) (vals_num hT ?_) (by rw [Array.size_push]; omega) (by (conv => lhs; whnf); with_reducible assumption) FA NA
      rw [fmod4096, kd_low (by omega)]; omega
  · rintro h' tk m' news' F5 N5 ⟨hml, lk, rk, vs, k, par, closed, rfl, hnd, hvs, hpb, hT, hP, hPl⟩
    rw [hwl, List.take_length] at hT hP
    obtain ⟨D, ws0, k0, h0, hm0, hv0⟩ := pars_all par closed rk vs k _ _ hT hP
    (repeat' ((fail_if_success (with_reducible show wpAny _ _ (exec (Stmt.For _ _ _ _ _) _) _ _ _)); (fail_if_success (with_reducible show wpAny _ _ (call (Value.builtin "len") _) _ _ _)); (fail_if_success (with_reducible show wpAny _ _ (call (Value.ref _) _) _ _ _)); (fail_if_success (with_reducible show wpAny _ _ (subscriptTail _ _ (Value.ref _) _) _ _ _)); (first | (k_unfold; (try dsimp only)) | walk1 | (dsimp only; walk1))))
    refine item_list (k := 0) (x := .ref D) (N5.isList (.head _)) (by decide) (by decide) h0 ?_
    (repeat' ((fail_if_success (with_reducible show wpAny _ _ (exec (Stmt.For _ _ _ _ _) _) _ _ _)); (fail_if_success (with_reducible show wpAny _ _ (call (Value.builtin "len") _) _ _ _)); (fail_if_success (with_reducible show wpAny _ _ (call (Value.ref _) _) _ _ _)); (fail_if_success (with_reducible show wpAny _ _ (subscriptTail _ _ (Value.ref _) _) _ _ _)); (first | (k_unfold; (try dsimp only)) | walk1 | (dsimp only; walk1))))
    exact hret _ _ _ _ _ F5 N5 ⟨D, ws0, k0, rfl, .tail _ hm0, hv0.mono fun a ws ⟨n, h⟩ => ⟨n, .tail _ h⟩⟩
end
section
variable {w : World} {p : Program} {loose : List Str} {mg mb : Str → Option Value}
local macro_rules | `(tactic| walk_at "setAttr ref") => `(tactic| (k_here; k_dflt (refine' set_dict (by k_asm) (by k_asm) (by k_asm) (by k_inst) (by exact rfl) (by k_is) (by k_is) (by k_is) (by k_is) (by k_get) (by k_put) (by k_upd) (by exact Nat.le_of_ble_eq_true rfl) ?_; k_whole); intros; (try k_sweep)))
/-- as Con.of_body, for a body that may end without a return -/
theorem Con.of_bodyN {f : Addr} {vs : List Value} {d u : Nat} {muts : List (Addr × Obj)} {pre : Heap → Prop} {post : Value → List (Addr × Obj) → Prop} {st st1 : Stmt} {rest : List Stmt} {name qual : String} {dV pm cdv : Value} {kd : ScopeKind} {names : List (Str × NameKind)} {ig ic : Bool} {more : List (Str × Const)} (binds : List (Str × Value))
    (ho : (KK w.params).lookup f = some ⟨.type "function", none, .func (fnAt st name qual dV pm cdv), #[]⟩) (hcd : codeIn (KK w.params) cdv (Str.ofString qual) = true)
    (hbody : dBody st = st1 :: rest) (hscope : dScope st = ⟨kd, names, ig, ic, more⟩)
    (hbind : ∀ s : Shared, (KK w.params).In s.heap → BindsTo s (fnAt st name qual dV pm cdv) ⟨vs, []⟩ binds) (hloc : (binds.all fun x => decide (names.lookup x.1 = some .local)) = true)
    (hco : ic = false) (hgen : ig = false) (hk : kd = .function) (hd : 0 < d)
    (hcell : (names.all fun x => decide (x.2 ≠ .cell)) = true)
    (hpre : ∀ h h' : Heap, h.StaysIn h' → pre h → pre h')
    (h : ∀ (A : Around) (g : Heap) (L : Addr) (s : Shared) (Q : Flow → Shared → Prop), Fr g L s.heap (fun y => binds.reverse.lookup y) → News g L s.heap muts → (∀ q ∈ muts, q.1 < L) → (KK w.params).In g → TopRead p loose mg mb g → A.handled = none → A.depth + d < recursionLimit + 1 → A.units + u < cLine + 3 → pre g →
      (∀ v h' tk' m ns, Fr g L h' m → News g L h' ns → post v ns → Q (.ret v) { s with heap := h', toks := tk' }) →
      (∀ h' tk' m ns, Fr g L h' m → News g L h' ns → post .none ns → Q .next { s with heap := h', toks := tk' }) →
      wpAny (model PySem.Challenge.rw_mr0361_01.prog w) A (execs (st1 :: rest) (envOf (Str.ofString qual) ⟨kd, names, ig, ic, more⟩ L f cdv)) Q (fun _ _ => False) s) : Con w p loose mg mb f vs d u muts pre post := by
  intro A s Q E H hH X T hh hroom hun hmut hp hret
  have Xs := X.keeps hH
  have hb := hbind s Xs
  unfold fnAt at ho hb
  rw [hbody, hscope] at ho hb
  refine wpAny_call (enterN (news := muts) hH X T hmut ho hcd (by omega) hb (locs hloc) (fun g L' h₁ st hg F N X' T' hlt => ?_) hco hgen hk (fun x hx => of_decide_eq_true (List.all_eq_true.mp hcell x hx)))
  have back : ∀ v h' tk' m ns, Fr g L' h' m → News g L' h' ns → post v ns → Q v { s with heap := h', toks := tk' } := fun v h' tk' m ns F' N' hq => by
    refine hret v h' tk' ns (fun b o e nm => F'.keep b o (hg b o e nm)) (fun q hq' => ⟨(N' q hq').1, ?_⟩) hq
    cases e : s.heap.get? q.1 with
    | none => exact .inr rfl
    | some o =>
      by_cases hm : q.1 ∈ muts.map (·.1)
      · exact .inl hm
      · have := hg _ _ e hm
        rw [(N' q hq').2.2] at this; cases this
  exact wpAny_mono (h (A.deeper _) g L' _ _ F N hlt X' T' hh (by show A.depth + 1 + d < _; omega) (by show A.units + 3 + u < _; omega) (hpre _ _ st hp) (fun v h' tk' m ns F' N' hq => back v h' tk' m ns F' N' hq) fun h' tk' m ns F' N' hq => back _ h' tk' m ns F' N' hq) (fun _ _ q => q) fun _ _ q => q.elim
/-- the dict of a StringIO: what it holds, where it stands -/
noncomputable abbrev sioD (P : Params) (t1 t2 t3 : Tok) (tn : Tok) (buf : Str) (tb : Tok) (pos : Int) (tp : Tok) : List DictEntry := [en P "_StringIO__newline" t1 (.str "\n" tn), en P "_StringIO__buf" t2 (.str buf tb), en P "_StringIO__pos" t3 (.int pos tp)]
theorem c_index (t0 t1 : Tok) (x : Str) : Pure w p loose mg mb 63 [.int 1 t0, .str x t1] 3 30 (fun r => ∃ t, r = .int 1 t) := by
  refine' Pure.of_body [("n", .int 1 t0), ("what", .str x t1)] ?ho ?hcd ?b1 ?b2 ?hb ?hl ?a1 ?a2 ?a3 ?a4 ?a5 ?h
  case ho => k_is
  case hcd => k_is
  all_goals try exact rfl
  case a4 => decide
  intro A g L s Q F N X T hh hd hu hret
  (repeat' ((fail_if_success (with_reducible show wpAny _ _ (exec (Stmt.For _ _ _ _ _) _) _ _ _)); (fail_if_success (with_reducible show wpAny _ _ (exec (Stmt.While _ _ _ _) _) _ _ _)); (first | (k_unfold; (try dsimp only)) | walk1 | (dsimp only; walk1))))
  all_goals (with_reducible rename Fr _ _ _ _ => F1)
  all_goals exact hret _ _ _ _ F1 ⟨_, rfl⟩
noncomputable abbrev sioL (P : Params) (b db : Addr) (n : Nat) (t1 t2 t3 tn : Tok) (buf : Str) (tb : Tok) (pos : Int) (tp : Tok) : List (Addr × Obj) := [(b, instObj 597 db), (db, dictOf (sioD P t1 t2 t3 tn buf tb pos tp) n)]
theorem c_check (b db : Addr) (n : Nat) (t1 t2 t3 tn tb tp : Tok) (buf : Str) (pos : Nat) (hbd : b ≠ db) :
    Con w p loose mg mb 381 [.ref b] 3 30 (sioL w.params b db n t1 t2 t3 tn buf tb pos tp) (fun H => True) (fun r led => r = .none ∧ led = sioL w.params b db n t1 t2 t3 tn buf tb pos tp) := by
  refine' Con.of_bodyN [("self", .ref b)] ?ho ?hcd ?b1 ?b2 ?hb ?hl ?a1 ?a2 ?a3 ?a4 ?a5 ?hpre ?h
  case ho => k_is
  case hcd => k_is
  case hb => exact fun s _ => BindsTo.of_eq rfl
  case hpre => exact fun h h' k q => trivial
  all_goals try exact rfl
  case a4 => omega
  rintro A g L s Q F N hlt X T hh hd hu _ hret hret2
  (repeat' ((fail_if_success (with_reducible show wpAny _ _ (exec (Stmt.For _ _ _ _ _) _) _ _ _)); (fail_if_success (with_reducible show wpAny _ _ (exec (Stmt.While _ _ _ _) _) _ _ _)); (first | (k_unfold; (try dsimp only)) | walk1 | (dsimp only; walk1))))
  exact hret2 _ _ _ _ F N ⟨rfl, rfl⟩
theorem sio_put {P : Params} {t1 t2 t3 tn tb tp tp' : Tok} {buf : Str} {pos pos' : Int} {h : Int} {k : Value} {n : Nat} : (putL (Str.ofString "_StringIO__pos") h k (.int pos' tp') (sioD P t1 t2 t3 tn buf tb pos tp), putN (Str.ofString "_StringIO__pos") (sioD P t1 t2 t3 tn buf tb pos tp) n) = (sioD P t1 t2 t3 tn buf tb pos' tp', n) := rfl
theorem idx_one {pos n : Nat} (h : pos < n) : Builtin.Str.strSliceIndices (some (pos : Int)) (some ((pos : Int) + 1)) 1 n = [pos] := by
  unfold Builtin.Str.strSliceIndices sliceRange
  simp only [show (1 : Int) > 0 by decide, if_true]
  have e1 : max 0 (min (if (pos : Int) < 0 then (pos : Int) + n else pos) (n : Int)) = pos := by
    rw [if_neg (by omega)]; omega
  have e2 : max 0 (min (if (pos : Int) + 1 < 0 then (pos : Int) + 1 + n else (pos : Int) + 1) (n : Int)) = (pos : Int) + 1 := by
    rw [if_neg (by omega)]; omega
  rw [e1, e2, if_pos (by omega)]
  have e3 : (((pos : Int) + 1 - pos + 1 - 1) / 1).toNat = 1 := by omega
  rw [e3]
  show [((pos : Int) + 1 * ((0 : Nat) : Int)).toNat] = [pos]
  have : ((pos : Int) + 1 * ((0 : Nat) : Int)).toNat = pos := by omega
  rw [this]
theorem slice_one {buf : Str} {pos : Nat} {e : Int} (h : pos < buf.cps.size) (he : e = pos + 1) : Txt.slice buf (some (pos : Int)) (some e) = ⟨#[buf.cps[pos]]⟩ := by
  subst he
  have hl : pos < buf.length := h
  unfold Txt.slice
  rw [idx_one hl]
  split
  · rename_i h1
    have h2 : buf.length = 1 := by
      have : (1 : Nat) = buf.length := by simpa using h1
      exact this.symm
    have h3 : buf.cps.size = 1 := h2
    have h4 : pos = 0 := by omega
    subst h4
    obtain ⟨⟨l⟩⟩ := buf
    match l, h3 with
    | [c], _ => rfl
  · congr 1
    simp [Array.getElem?_eq_getElem h]
theorem c_sread (b db : Addr) (n : Nat) (t1 t2 t3 tn tb tp t0 : Tok) (buf : Str) (pos : Nat) (hb : buf.length ≤ 1000000) (hp : pos ≤ buf.length) (hbd : b ≠ db) :
    Con w p loose mg mb 543 [.ref b, .int 1 t0] 5 60 (sioL w.params b db n t1 t2 t3 tn buf tb pos tp) (fun H => True) (fun r led => (∃ c t tp', buf.cps[pos]? = some c ∧ r = .str ⟨#[c]⟩ t ∧ led = sioL w.params b db n t1 t2 t3 tn buf tb ((pos + 1 : Nat) : Int) tp') ∨ (buf.cps.size = pos ∧ ∃ t, r = .str (Str.ofString "") t ∧ led = sioL w.params b db n t1 t2 t3 tn buf tb pos tp)) := by
  refine' Con.of_body [("self", .ref b), ("size", .int 1 t0)] ?ho ?hcd ?b1 ?b2 ?hb ?hl ?a1 ?a2 ?a3 ?a4 ?a5 ?hpre ?h
  case ho => k_is
  case hcd => k_is
  case hb => exact fun s X => BindsTo.of_defaults rfl (X 536 _ rfl) rfl rfl rfl
  case hpre => exact fun h h' k q => trivial
  all_goals try exact rfl
  case a4 => omega
  rintro A g L s Q F N hlt X T hh hd hu _ hret
  have hbd' := neN hbd
  (repeat' ((fail_if_success (with_reducible show wpAny _ _ (exec (Stmt.For _ _ _ _ _) _) _ _ _)); (fail_if_success (with_reducible show wpAny _ _ (exec (Stmt.While _ _ _ _) _) _ _ _)); (first | (k_unfold; (try dsimp only)) | walk1 | (dsimp only; walk1))))
  refine (c_index _ _ _).use F N X T hh (by omega) (by omega) ?_
  rintro r3 h4 tk4 F4 N4 ⟨t4, rfl⟩
  (repeat' ((fail_if_success (with_reducible show wpAny _ _ (exec (Stmt.For _ _ _ _ _) _) _ _ _)); (fail_if_success (with_reducible show wpAny _ _ (exec (Stmt.While _ _ _ _) _) _ _ _)); (first | (k_unfold; (try dsimp only)) | walk1 | (dsimp only; walk1))))
  (with_reducible rename Fr _ _ _ _ => F5); (with_reducible rename News _ _ _ _ => N5)
  refine (c_check b db n t1 t2 t3 tn tb tp buf pos hbd).use (rest := []) F5 N5 X T hh (by omega) (by omega) (fun _ h => absurd h List.not_mem_nil) trivial ?_
  rintro r6 h6 tk6 ns6 F6 N6 hne6 ⟨rfl, rfl⟩
  rw [List.append_nil] at N6
  dsimp only [sioL] at N6
  (repeat' ((fail_if_success (with_reducible show wpAny _ _ (exec (Stmt.For _ _ _ _ _) _) _ _ _)); (fail_if_success (with_reducible show wpAny _ _ (exec (Stmt.While _ _ _ _) _) _ _ _)); (first | (k_unfold; (try dsimp only)) | walk1 | (dsimp only; walk1))))
  · (with_reducible rename Fr _ _ _ _ => F7); (with_reducible rename News _ _ _ _ => N7)
    have hle : (buf.length : Int) ≤ pos := by with_reducible assumption
    have hpe : buf.cps.size = pos := by have : buf.length = buf.cps.size := rfl
                                        omega
    exact hret _ _ _ _ _ F7 N7 (.inr ⟨hpe, _, rfl, rfl⟩)
  all_goals (
    (with_reducible rename Fr _ _ _ _ => F7); (with_reducible rename News _ _ _ _ => N7)
    refine set_dict (K := KK w.params) F7 X N7 ⟨N7.get (.head _), rfl, rfl, N7.get (.tail _ (.head _))⟩ rfl (by k_is) (by k_is) (by k_is) (by k_is) rfl sio_put (Upd.tail hbd (Upd.head (List.forall_mem_nil _))) (Nat.le_of_ble_eq_true rfl) fun h8 F8 N8 => ?_
    (repeat' ((fail_if_success (with_reducible show wpAny _ _ (exec (Stmt.For _ _ _ _ _) _) _ _ _)); (fail_if_success (with_reducible show wpAny _ _ (exec (Stmt.While _ _ _ _) _) _ _ _)); (first | (k_unfold; (try dsimp only)) | walk1 | (dsimp only; walk1)))))
  · have hlt1 : pos < buf.cps.size := by have : buf.length = buf.cps.size := rfl
                                         omega
    (with_reducible rename Fr _ _ _ _ => F9); (with_reducible rename News _ _ _ _ => N9)
    exact hret _ _ _ _ _ F9 N9 (.inl ⟨buf.cps[pos], _, _, Array.getElem?_eq_getElem hlt1, congrArg (fun z => Value.str z _) (slice_one hlt1 (by omega)), rfl⟩)
  · have hlt1 : pos < buf.cps.size := by have : buf.length = buf.cps.size := rfl
                                         omega
    have hpe : (buf.length : Int) = ((pos + 1 : Nat) : Int) := by omega
    (with_reducible rename Fr _ _ _ _ => F9); (with_reducible rename News _ _ _ _ => N9)
    rw [hpe] at N9
    exact hret _ _ _ _ _ F9 N9 (.inl ⟨buf.cps[pos], _, _, Array.getElem?_eq_getElem hlt1, congrArg (fun z => Value.str z _) (slice_one hlt1 (by omega)), rfl⟩)
end
section
section
variable {prog : Program} {w : World} {A : Around} {Q : Flow → Shared → Prop} {s : Shared} {env : Env} {g : Heap} {L : Addr}
/-- what a turn of a while must leave -/
noncomputable def WPost (g : Heap) (L : Addr) (J : Nat → (Str → Option Value) → List (Addr × Obj) → Prop) (n : Nat) (s : Shared) (Q : Flow → Shared → Prop) (f : Flow) (s₃ : Shared) : Prop :=
  match f with
  | .ret v => Q (.ret v) s₃
  | .brk => Q .next s₃
  | _ => ∃ h' tk m' news' n', s₃ = { s with heap := h', toks := tk } ∧ Fr g L h' m' ∧ News g L h' news' ∧ n' < n ∧ J n' m' news'
theorem WPost.next {J : Nat → (Str → Option Value) → List (Addr × Obj) → Prop} {n n' tk : Nat} {h' : Heap} {m' : Str → Option Value} {news' : List (Addr × Obj)} (F : Fr g L h' m') (N : News g L h' news') (hn : n' < n) (hJ : J n' m' news') : WPost g L J n s Q .next { s with heap := h', toks := tk } := ⟨h', tk, m', news', n', rfl, F, N, hn, hJ⟩
theorem WPost.cont {J : Nat → (Str → Option Value) → List (Addr × Obj) → Prop} {n n' tk : Nat} {h' : Heap} {m' : Str → Option Value} {news' : List (Addr × Obj)} (F : Fr g L h' m') (N : News g L h' news') (hn : n' < n) (hJ : J n' m' news') : WPost g L J n s Q .cont { s with heap := h', toks := tk } := ⟨h', tk, m', news', n', rfl, F, N, hn, hJ⟩
theorem WPost.brk {J : Nat → (Str → Option Value) → List (Addr × Obj) → Prop} {n : Nat} {s₃ : Shared} (h : Q .next s₃) : WPost g L J n s Q .brk s₃ := h
theorem while_rule {test : Expr} {body : List Stmt} {pos : Pos} {m : Str → Option Value} {news : List (Addr × Obj)} (J : Nat → (Str → Option Value) → List (Addr × Obj) → Prop) (n₀ : Nat)
    (F : Fr g L s.heap m) (N : News g L s.heap news) (hJ : J n₀ m news)
    (turn : ∀ n m₁ news₁ h₁ tk₁ (Qt : Flow → Shared → Prop), (∀ f s₃, WPost g L J n s Q f s₃ → Qt f s₃) → ∀ Qe : Shared → Prop, (∀ s₃, Q .next s₃ → Qe s₃) → Fr g L h₁ m₁ → News g L h₁ news₁ → J n m₁ news₁ →
      wpAny (model prog w) A (isTrue test env (eval test env)) (fun b s₂ =>
        if b = true then wpAny (model prog w) A (execs body env) Qt (fun _ _ => False) s₂ else Qe s₂) (fun _ _ => False) { s with heap := h₁, toks := tk₁ }) :
    wpAny (model prog w) A (exec (.While test body [] pos) env) Q (fun _ _ => False) s := by
  refine wpAny_While (codeAny_whileLoop (fun n s' => ∃ h₁ tk₁ m₁ news₁, s' = { s with heap := h₁, toks := tk₁ } ∧ Fr g L h₁ m₁ ∧ News g L h₁ news₁ ∧ J n m₁ news₁) ?_ n₀ ⟨s.heap, s.toks, m, news, rfl, F, N, hJ⟩)
  rintro n s' ⟨h₁, tk₁, m₁, news₁, rfl, F₁, N₁, J₁⟩
  refine wpAny_mono (turn n m₁ news₁ h₁ tk₁ (WPost g L J n s Q) (fun _ _ q => q) (Q .next) (fun _ q => q) F₁ N₁ J₁) (fun b s₂ h₂ => ?_) fun _ _ e => e.elim
  cases b with
  | false =>
    simp only [Bool.false_eq_true, if_false] at h₂ ⊢
    exact wpAny_execs_nil h₂
  | true =>
    simp only [if_true] at h₂ ⊢
    refine wpAny_mono h₂ (fun f s₃ h₃ => ?_) fun _ _ e => e.elim
    cases f with
    | ret v => exact h₃
    | brk => exact h₃
    | cont =>
      obtain ⟨h', tk, m₂, news₂, n', rfl, F₂, N₂, hn, J₂⟩ := h₃
      exact ⟨n', hn, h', tk, m₂, news₂, rfl, F₂, N₂, J₂⟩
    | next =>
      obtain ⟨h', tk, m₂, news₂, n', rfl, F₂, N₂, hn, J₂⟩ := h₃
      exact ⟨n', hn, h', tk, m₂, news₂, rfl, F₂, N₂, J₂⟩
end
end
section
/-- where the lexer stands: between words, in a word, in a quoting -/
inductive Md where
  | sp
  | wd
  | q1
  | q2
  | dn
noncomputable def Md.txt : Md → Str
  | .dn => Str.ofString ""
  | .sp => Str.ofString " "
  | .wd => Str.ofString "a"
  | .q1 => Str.ofString "'"
  | .q2 => Str.ofString "\""
noncomputable def Md.val : Md → Tok → Value
  | .dn, _ => .none
  | m, t => .str m.txt t
/-- signs that never stand bare -/
noncomputable def badC (c : Nat) : Bool := c == 9 || c == 10 || c == 13 || c == 92
/-- read_token over the rest of the text: the token, was it quoted, is the text at its end, the rest -/
noncomputable def lexRun : Md → Bool → List Nat → List Nat → Option (List Nat × Bool × Bool × List Nat)
  | .sp, q, tok, [] => some (tok, q, true, [])
  | .wd, q, tok, [] => some (tok, q, true, [])
  | .q1, _, _, [] => none
  | .q2, _, _, [] => none
  | .dn, q, _, [] => some ([], q, true, [])
  | .dn, _, _, _ :: _ => none
  | .sp, q, tok, c :: l => if badC c = true ∨ c = 32 then none else if c = 39 then lexRun .q1 q tok l else if c = 34 then lexRun .q2 q tok l else lexRun .wd q [c] l
  | .wd, q, tok, c :: l => if c = 32 then (if tok = [] ∧ q = false then none else some (tok, q, false, l)) else if badC c = true then none else if c = 39 then lexRun .q1 q tok l else if c = 34 then lexRun .q2 q tok l else lexRun .wd q (tok ++ [c]) l
  | .q1, _, tok, c :: l => if c = 39 then lexRun .wd true tok l else lexRun .q1 true (tok ++ [c]) l
  | .q2, _, tok, c :: l => if c = 34 then lexRun .wd true tok l else if c = 92 then none else lexRun .q2 true (tok ++ [c]) l
end
section
variable {w : World} {p : Program} {loose : List Str} {mg mb : Str → Option Value}
/-- as Con, at the call's code -/
noncomputable def ConC (w : World) (p : Program) (loose : List Str) (mg mb : Str → Option Value) (f : Addr) (args : Args) (d u : Nat) (muts : List (Addr × Obj)) (pre : Heap → Prop) (post : Value → List (Addr × Obj) → Prop) : Prop :=
  ∀ (A : Around) (s : Shared) (R : Result → Shared → Prop) (H : Heap), H.StaysIn s.heap → (KK w.params).In H → TopRead p loose mg mb H → A.handled = none → A.depth + d < recursionLimit → A.units + u < cLine →
    (∀ q ∈ muts, s.heap.get? q.1 = some q.2 ∧ H.get? q.1 = none) → pre H →
    (∀ r h' tk' ns, (∀ b o, s.heap.get? b = some o → b ∉ muts.map (·.1) → h'.get? b = some o) → (∀ q ∈ ns, h'.get? q.1 = some q.2 ∧ (q.1 ∈ muts.map (·.1) ∨ s.heap.get? q.1 = none)) → post r ns → R (.ok (.ret r)) { s with heap := h', toks := tk' }) → codeAny (model PySem.Challenge.rw_mr0361_01.prog w) A (.call (.ref f) args) R s
theorem ConC.of_bodyN {f : Addr} {args : Args} {d u : Nat} {muts : List (Addr × Obj)} {pre : Heap → Prop} {post : Value → List (Addr × Obj) → Prop} {st st1 : Stmt} {rest : List Stmt} {name qual : String} {dV pm cdv : Value} {kd : ScopeKind} {names : List (Str × NameKind)} {ig ic : Bool} {more : List (Str × Const)} (binds : List (Str × Value))
    (ho : (KK w.params).lookup f = some ⟨.type "function", none, .func (fnAt st name qual dV pm cdv), #[]⟩) (hcd : codeIn (KK w.params) cdv (Str.ofString qual) = true)
    (hbody : dBody st = st1 :: rest) (hscope : dScope st = ⟨kd, names, ig, ic, more⟩)
    (hbind : ∀ s : Shared, (KK w.params).In s.heap → BindsTo s (fnAt st name qual dV pm cdv) args binds) (hloc : (binds.all fun x => decide (names.lookup x.1 = some .local)) = true)
    (hco : ic = false) (hgen : ig = false) (hk : kd = .function) (hd : 0 < d)
    (hcell : (names.all fun x => decide (x.2 ≠ .cell)) = true)
    (hpre : ∀ h h' : Heap, h.StaysIn h' → pre h → pre h')
    (h : ∀ (A : Around) (g : Heap) (L : Addr) (s : Shared) (Q : Flow → Shared → Prop), Fr g L s.heap (fun y => binds.reverse.lookup y) → News g L s.heap muts → (∀ q ∈ muts, q.1 < L) → (KK w.params).In g → TopRead p loose mg mb g → A.handled = none → A.depth + d < recursionLimit + 1 → A.units + u < cLine + 3 → pre g →
      (∀ v h' tk' m ns, Fr g L h' m → News g L h' ns → post v ns → Q (.ret v) { s with heap := h', toks := tk' }) →
      (∀ h' tk' m ns, Fr g L h' m → News g L h' ns → post .none ns → Q .next { s with heap := h', toks := tk' }) →
      wpAny (model PySem.Challenge.rw_mr0361_01.prog w) A (execs (st1 :: rest) (envOf (Str.ofString qual) ⟨kd, names, ig, ic, more⟩ L f cdv)) Q (fun _ _ => False) s) : ConC w p loose mg mb f args d u muts pre post := by
  intro A s R H hH X T hh hroom hun hmut hp hret
  have Xs := X.keeps hH
  have hb := hbind s Xs
  unfold fnAt at ho hb
  rw [hbody, hscope] at ho hb
  refine (enterN (news := muts) hH X T hmut ho hcd (by omega) hb (locs hloc) (fun g L' h₁ st hg F N X' T' hlt => ?_) hco hgen hk (fun x hx => of_decide_eq_true (List.all_eq_true.mp hcell x hx)))
  have back : ∀ v h' tk' m ns, Fr g L' h' m → News g L' h' ns → post v ns → R (.ok (.ret v)) { s with heap := h', toks := tk' } := fun v h' tk' m ns F' N' hq => by
    refine hret v h' tk' ns (fun b o e nm => F'.keep b o (hg b o e nm)) (fun q hq' => ⟨(N' q hq').1, ?_⟩) hq
    cases e : s.heap.get? q.1 with
    | none => exact .inr rfl
    | some o =>
      by_cases hm : q.1 ∈ muts.map (·.1)
      · exact .inl hm
      · have := hg _ _ e hm
        rw [(N' q hq').2.2] at this; cases this
  exact wpAny_mono (h (A.deeper _) g L' _ _ F N hlt X' T' hh (by show A.depth + 1 + d < _; omega) (by show A.units + 3 + u < _; omega) (hpre _ _ st hp) (fun v h' tk' m ns F' N' hq => back v h' tk' m ns F' N' hq) fun h' tk' m ns F' N' hq => back _ h' tk' m ns F' N' hq) (fun _ _ q => q) fun _ _ q => q.elim
noncomputable def wcTxt : Str := Str.ofString "abcdfeghijklmnopqrstuvwxyzABCDEFGHIJKLMNOPQRSTUVWXYZ0123456789_" ++ Str.ofString "ßàáâãäåæçèéêëìíîïðñòóôõöøùúûüýþÿÀÁÂÃÄÅÆÇÈÉÊËÌÍÎÏÐÑÒÓÔÕÖØÙÚÛÜÝÞ"
/-- the dict of a shlex, as split leaves it: its stream, its state, its line and its token turn -/
noncomputable abbrev lexD (P : Params) (τ : Nat → Tok) (b pb fs : Addr) (st ln tk : Value) : List DictEntry := [en P "instream" (τ 0) (.ref b), en P "infile" (τ 1) .none, en P "posix" (τ 2) (.bool true), en P "eof" (τ 3) .none, en P "commenters" (τ 4) (.str (Str.ofString "") (τ 30)), en P "wordchars" (τ 5) (.str wcTxt (τ 31)),
  en P "whitespace" (τ 6) (.str (Str.ofString " \t\r\n") (τ 32)), en P "whitespace_split" (τ 7) (.bool true), en P "quotes" (τ 8) (.str (Str.ofString "'\"") (τ 33)), en P "escape" (τ 9) (.str (Str.ofString "\\") (τ 34)), en P "escapedquotes" (τ 10) (.str (Str.ofString "\"") (τ 35)),
  en P "state" (τ 11) st, en P "pushback" (τ 12) (.ref pb), en P "lineno" (τ 13) ln, en P "debug" (τ 14) (.int 0 (τ 36)), en P "token" (τ 15) tk, en P "filestack" (τ 16) (.ref fs), en P "source" (τ 17) .none, en P "_punctuation_chars" (τ 18) (.str (Str.ofString "") (τ 37))]
theorem lex_state {P : Params} {τ : Nat → Tok} {b pb fs : Addr} {st ln tk v : Value} {h : Int} {k : Value} {n : Nat} : (putL (Str.ofString "state") h k v (lexD P τ b pb fs st ln tk), putN (Str.ofString "state") (lexD P τ b pb fs st ln tk) n) = (lexD P τ b pb fs v ln tk, n) := rfl
theorem lex_token {P : Params} {τ : Nat → Tok} {b pb fs : Addr} {st ln tk v : Value} {h : Int} {k : Value} {n : Nat} : (putL (Str.ofString "token") h k v (lexD P τ b pb fs st ln tk), putN (Str.ofString "token") (lexD P τ b pb fs st ln tk) n) = (lexD P τ b pb fs st ln v, n) := rfl
theorem lex_line {P : Params} {τ : Nat → Tok} {b pb fs : Addr} {st ln tk v : Value} {h : Int} {k : Value} {n : Nat} : (putL (Str.ofString "lineno") h k v (lexD P τ b pb fs st ln tk), putN (Str.ofString "lineno") (lexD P τ b pb fs st ln tk) n) = (lexD P τ b pb fs st v tk, n) := rfl
theorem c_punct (τ : Nat → Tok) (a da b pb fs : Addr) (n1 : Nat) (st ln tk : Value) :
    ConC w p loose mg mb 663 ⟨[.ref a], []⟩ 3 30 [(a, instObj 732 da), (da, dictOf (lexD w.params τ b pb fs st ln tk) n1)] (fun H => True) (fun r led => r = .str (Str.ofString "") (τ 37) ∧ led = [(a, instObj 732 da), (da, dictOf (lexD w.params τ b pb fs st ln tk) n1)]) := by
  refine' ConC.of_bodyN [("self", .ref a)] ?ho ?hcd ?b1 ?b2 ?hb ?hl ?a1 ?a2 ?a3 ?a4 ?a5 ?hpre ?h
  case ho => k_is
  case hcd => k_is
  case hb => exact fun s X => BindsTo.of_eq rfl
  case hpre => exact fun h h' k q => trivial
  all_goals try exact rfl
  case a4 => omega
  rintro A g L s Q F N hlt X T hh hd hu _ hret hret2
  (repeat' ((fail_if_success (with_reducible show wpAny _ _ (exec (Stmt.For _ _ _ _ _) _) _ _ _)); (fail_if_success (with_reducible show wpAny _ _ (exec (Stmt.While _ _ _ _) _) _ _ _)); (first | (k_unfold; (try dsimp only)) | walk1 | (dsimp only; walk1))))
  exact hret _ _ _ _ _ F N ⟨rfl, rfl⟩
theorem ConC.use {f : Addr} {args : Args} {d u : Nat} {muts : List (Addr × Obj)} {pre : Heap → Prop} {post : Value → List (Addr × Obj) → Prop} {A : Around} {s : Shared} {R : Result → Shared → Prop} {g : Heap} {L : Addr} {m : Str → Option Value} {rest : List (Addr × Obj)}
    (C : ConC w p loose mg mb f args d u muts pre post) (F : Fr g L s.heap m) (N : News g L s.heap (muts ++ rest)) (X : (KK w.params).In g) (T : TopRead p loose mg mb g) (hh : A.handled = none) (hd : A.depth + d < recursionLimit) (hu : A.units + u < cLine)
    (hap : ∀ q ∈ rest, ∀ r ∈ muts, q.1 ≠ r.1)
    (hpre : pre (hideAll s.heap (muts.map (·.1))))
    (h : ∀ r h' tk' ns, Fr g L h' m → News g L h' (ns ++ rest) → (∀ q ∈ ns, ∀ r ∈ rest, q.1 ≠ r.1) → post r ns → R (.ok (.ret r)) { s with heap := h', toks := tk' }) : codeAny (model PySem.Challenge.rw_mr0361_01.prog w) A (.call (.ref f) args) R s := by
  have hn : ∀ a ∈ muts.map (·.1), g.get? a = none := fun a ha => by
    obtain ⟨q, hq, rfl⟩ := List.mem_map.mp ha
    exact (N q (List.mem_append_left _ hq)).2.2
  have st := stays_hide F.keep hn
  have hL : L ∉ muts.map (·.1) := fun ha => by
    obtain ⟨q, hq, e⟩ := List.mem_map.mp ha
    exact (N q (List.mem_append_left _ hq)).2.1 e
  have X' : (KK w.params).In (hideAll s.heap (muts.map (·.1))) := X.keeps st
  have T' : TopRead p loose mg mb (hideAll s.heap (muts.map (·.1))) := T.keeps st
  refine C A s R (hideAll s.heap (muts.map (·.1))) (hide_in _ _) X' T' hh hd hu (fun q hq => ⟨(N q (List.mem_append_left _ hq)).1, hideAll_none _ (List.mem_map_of_mem hq)⟩) hpre fun r h' tk' ns k kn hp => ?_
  have hrest : ∀ q ∈ rest, q.1 ∉ muts.map (·.1) := fun q hq hm => by
    obtain ⟨r, hr, e⟩ := List.mem_map.mp hm
    exact hap q hq r hr e.symm
  refine h r h' tk' ns ⟨F.ns.at' fun o e => k _ o e hL, (fun b o e => k b o (F.keep b o e) fun hm => by rw [hn b hm] at e; cases e), F.above⟩ (fun q hq => ?_) (fun q hq r hr e => ?_) hp
  · rcases List.mem_append.mp hq with hq | hq
    · obtain ⟨h1, h2⟩ := kn q hq
      refine ⟨h1, fun e => ?_, ?_⟩
      · rcases h2 with h2 | h2
        · exact hL (e ▸ h2)
        · obtain ⟨o, _, _, ho, _⟩ := F.ns
          rw [e, ho] at h2; cases h2
      · rcases h2 with h2 | h2
        · exact hn _ h2
        · cases e : g.get? q.1 with
          | none => rfl
          | some o => rw [F.keep _ _ e] at h2; cases h2
    · exact ⟨k _ _ (N q (List.mem_append_right _ hq)).1 (hrest q hq), (N q (List.mem_append_right _ hq)).2⟩
  · rcases (kn q hq).2 with h2 | h2
    · exact hrest r hr (e ▸ h2)
    · rw [e, (N r (List.mem_append_right _ hr)).1] at h2; cases h2
theorem get_punct (τ : Nat → Tok) (a da b pb fs : Addr) (n1 : Nat) (st ln tk : Value) {A : Around} {E : Value → Shared → Prop} {s : Shared} {g : Heap} {L : Addr} {m : Str → Option Value} {rest : List (Addr × Obj)} {ex : Bool} {Q : Value → Shared → Prop}
    (F : Fr g L s.heap m) (N : News g L s.heap ([(a, instObj 732 da), (da, dictOf (lexD w.params τ b pb fs st ln tk) n1)] ++ rest)) (X : (KK w.params).In g) (T : TopRead p loose mg mb g) (hh : A.handled = none) (hd : A.depth + 4 < recursionLimit) (hu : A.units + 60 < cLine)
    (hap : ∀ q ∈ rest, ∀ r ∈ [(a, instObj 732 da), (da, dictOf (lexD w.params τ b pb fs st ln tk) n1)], q.1 ≠ r.1)
    (h : ∀ h' tk', Fr g L h' m → News g L h' ([(a, instObj 732 da), (da, dictOf (lexD w.params τ b pb fs st ln tk) n1)] ++ rest) → Q (.str (Str.ofString "") (τ 37)) { s with heap := h', toks := tk' }) :
    wpAny (model PySem.Challenge.rw_mr0361_01.prog w) A (getAttr (.ref a) (Str.ofString "punctuation_chars") ex) Q E s := by
  refine' get_prop (K := KK w.params) F X ⟨N.get (.head _), rfl, rfl, N.get (.tail _ (.head _))⟩ ?k4 ?k5 ?k6 ?k7 ?k8 ?k9 ?_
  case k4 => k_is
  case k5 => k_is
  case k6 => k_is
  case k7 => k_is
  case k8 => k_is
  case k9 => k_is
  refine (c_punct τ a da b pb fs n1 st ln tk).use (s := { s with toks := s.toks + 1 }) F N X T hh (by show A.depth + 3 < _; omega) (by show A.units + 1 + 30 < _; omega) hap trivial ?_
  rintro r h' tk' ns F' N' _ ⟨rfl, rfl⟩
  exact handed_on (by k_handed) (h h' tk' F' N')
noncomputable abbrev lexL (P : Params) (τ : Nat → Tok) (a da b db pb fs : Addr) (n1 n2 : Nat) (t1 t2 t3 tn : Tok) (buf : Str) (tb : Tok) (pos : Int) (tp : Tok) (st ln tk : Value) : List (Addr × Obj) :=
  [(a, instObj 732 da), (da, dictOf (lexD P τ b pb fs st ln tk) n1), (b, instObj 597 db), (db, dictOf (sioD P t1 t2 t3 tn buf tb pos tp) n2)]
/-- one sign of the stream, from within read_token -/
theorem next_sign (τ : Nat → Tok) {a da b db pb fs : Addr} {n1 n2 : Nat} {t1 t2 t3 tn tb tp t0 : Tok} {buf : Str} {pos : Nat} {st ln tk : Value} {A : Around} {E : Value → Shared → Prop} {s : Shared} {g : Heap} {L : Addr} {m : Str → Option Value} {Q : Value → Shared → Prop}
    (hne : [a, da, b, db].Nodup) (hbl : buf.length ≤ 1000000) (hpl : pos ≤ buf.length) (F : Fr g L s.heap m) (N : News g L s.heap (lexL w.params τ a da b db pb fs n1 n2 t1 t2 t3 tn buf tb pos tp st ln tk)) (X : (KK w.params).In g) (T : TopRead p loose mg mb g) (hh : A.handled = none) (hd : A.depth + 5 < recursionLimit) (hu : A.units + 60 < cLine)
    (h : ∀ c t tp' h' tk', buf.cps[pos]? = some c → Fr g L h' m → News g L h' (lexL w.params τ a da b db pb fs n1 n2 t1 t2 t3 tn buf tb ((pos + 1 : Nat) : Int) tp' st ln tk) → Q (.str ⟨#[c]⟩ t) { s with heap := h', toks := tk' })
    (h' : ∀ t h' tk', buf.cps.size = pos → Fr g L h' m → News g L h' (lexL w.params τ a da b db pb fs n1 n2 t1 t2 t3 tn buf tb pos tp st ln tk) → Q (.str (Str.ofString "") t) { s with heap := h', toks := tk' }) :
    wpAny (model PySem.Challenge.rw_mr0361_01.prog w) A (call (.ref 543) [.ref b, .int 1 t0]) Q E s := by
  have hab : a ≠ b := fun e => by subst e; simp at hne
  have hadb : a ≠ db := fun e => by subst e; simp at hne
  have hdab : da ≠ b := fun e => by subst e; simp at hne
  have hdadb : da ≠ db := fun e => by subst e; simp at hne
  have hbdb : b ≠ db := fun e => by subst e; simp at hne
  have swap : ∀ {h₁ : Heap} {x y u v : Addr × Obj}, News g L h₁ [x, y, u, v] → News g L h₁ [u, v, x, y] := fun N q hq => N q (by
    rcases List.mem_cons.mp hq with rfl | hq
    · exact .tail _ (.tail _ (.head _))
    · rcases List.mem_cons.mp hq with rfl | hq
      · exact .tail _ (.tail _ (.tail _ (.head _)))
      · rcases List.mem_cons.mp hq with rfl | hq
        · exact .head _
        · rcases List.mem_singleton.mp hq with rfl
          exact .tail _ (.head _))
  refine (c_sread b db n2 t1 t2 t3 tn tb tp t0 buf pos hbl hpl hbdb).use (rest := [(a, instObj 732 da), (da, dictOf (lexD w.params τ b pb fs st ln tk) n1)]) F (swap N) X T hh hd hu ?_ trivial ?_
  · intro q hq r hr
    rcases List.mem_cons.mp hq with rfl | hq
    · rcases List.mem_cons.mp hr with rfl | hr
      · exact hab
      · rcases List.mem_singleton.mp hr with rfl; exact hadb
    · rcases List.mem_singleton.mp hq with rfl
      rcases List.mem_cons.mp hr with rfl | hr
      · exact hdab
      · rcases List.mem_singleton.mp hr with rfl; exact hdadb
  · rintro r4 h4 tk4 ns4 F4 N4 hne4 (⟨c, t, tp', hc, rfl, rfl⟩ | ⟨hz, t, rfl, rfl⟩)
    · exact h c t tp' h4 tk4 hc F4 (swap N4)
    · exact h' t h4 tk4 hz F4 (swap N4)
theorem set_state (τ : Nat → Tok) {a da b db pb fs : Addr} {n1 n2 : Nat} {t1 t2 t3 tn tb tp : Tok} {buf : Str} {pos : Int} {st ln tk v : Value} {A : Around} {E : Value → Shared → Prop} {s : Shared} {g : Heap} {L : Addr} {m : Str → Option Value} {Q : Unit → Shared → Prop}
    (hne : [a, da, b, db].Nodup) (F : Fr g L s.heap m) (N : News g L s.heap (lexL w.params τ a da b db pb fs n1 n2 t1 t2 t3 tn buf tb pos tp st ln tk)) (X : (KK w.params).In g)
    (h : ∀ h' tk', Fr g L h' m → News g L h' (lexL w.params τ a da b db pb fs n1 n2 t1 t2 t3 tn buf tb pos tp v ln tk) → Q () ⟨h', s.gens, s.drawn, tk', s.os⟩) :
    wpAny (model PySem.Challenge.rw_mr0361_01.prog w) A (setAttr (.ref a) (Str.ofString "state") v) Q E s := by
  have had : a ≠ da := fun e => by subst e; simp at hne
  have hdab : b ≠ da := fun e => by subst e; simp at hne
  have hdadb : db ≠ da := fun e => by subst e; simp at hne
  refine set_dict (K := KK w.params) F X N ⟨N.get (.head _), rfl, rfl, N.get (.tail _ (.head _))⟩ rfl (by k_is) (by k_is) (by k_is) (by k_is) rfl lex_state (Upd.tail had (Upd.head (all_cons hdab (all_cons hdadb (List.forall_mem_nil _))))) (Nat.le_of_ble_eq_true rfl) fun h8 F8 N8 => ?_
  exact h _ _ F8 N8
theorem set_token (τ : Nat → Tok) {a da b db pb fs : Addr} {n1 n2 : Nat} {t1 t2 t3 tn tb tp : Tok} {buf : Str} {pos : Int} {st ln tk v : Value} {A : Around} {E : Value → Shared → Prop} {s : Shared} {g : Heap} {L : Addr} {m : Str → Option Value} {Q : Unit → Shared → Prop}
    (hne : [a, da, b, db].Nodup) (F : Fr g L s.heap m) (N : News g L s.heap (lexL w.params τ a da b db pb fs n1 n2 t1 t2 t3 tn buf tb pos tp st ln tk)) (X : (KK w.params).In g)
    (h : ∀ h' tk', Fr g L h' m → News g L h' (lexL w.params τ a da b db pb fs n1 n2 t1 t2 t3 tn buf tb pos tp st ln v) → Q () ⟨h', s.gens, s.drawn, tk', s.os⟩) :
    wpAny (model PySem.Challenge.rw_mr0361_01.prog w) A (setAttr (.ref a) (Str.ofString "token") v) Q E s := by
  have had : a ≠ da := fun e => by subst e; simp at hne
  have hdab : b ≠ da := fun e => by subst e; simp at hne
  have hdadb : db ≠ da := fun e => by subst e; simp at hne
  refine set_dict (K := KK w.params) F X N ⟨N.get (.head _), rfl, rfl, N.get (.tail _ (.head _))⟩ rfl (by k_is) (by k_is) (by k_is) (by k_is) rfl lex_token (Upd.tail had (Upd.head (all_cons hdab (all_cons hdadb (List.forall_mem_nil _))))) (Nat.le_of_ble_eq_true rfl) fun h8 F8 N8 => ?_
  exact h _ _ F8 N8
theorem set_line (τ : Nat → Tok) {a da b db pb fs : Addr} {n1 n2 : Nat} {t1 t2 t3 tn tb tp : Tok} {buf : Str} {pos : Int} {st ln tk v : Value} {A : Around} {E : Value → Shared → Prop} {s : Shared} {g : Heap} {L : Addr} {m : Str → Option Value} {Q : Unit → Shared → Prop}
    (hne : [a, da, b, db].Nodup) (F : Fr g L s.heap m) (N : News g L s.heap (lexL w.params τ a da b db pb fs n1 n2 t1 t2 t3 tn buf tb pos tp st ln tk)) (X : (KK w.params).In g)
    (h : ∀ h' tk', Fr g L h' m → News g L h' (lexL w.params τ a da b db pb fs n1 n2 t1 t2 t3 tn buf tb pos tp st v tk) → Q () ⟨h', s.gens, s.drawn, tk', s.os⟩) :
    wpAny (model PySem.Challenge.rw_mr0361_01.prog w) A (setAttr (.ref a) (Str.ofString "lineno") v) Q E s := by
  have had : a ≠ da := fun e => by subst e; simp at hne
  have hdab : b ≠ da := fun e => by subst e; simp at hne
  have hdadb : db ≠ da := fun e => by subst e; simp at hne
  refine set_dict (K := KK w.params) F X N ⟨N.get (.head _), rfl, rfl, N.get (.tail _ (.head _))⟩ rfl (by k_is) (by k_is) (by k_is) (by k_is) rfl lex_line (Upd.tail had (Upd.head (all_cons hdab (all_cons hdadb (List.forall_mem_nil _))))) (Nat.le_of_ble_eq_true rfl) fun h8 F8 N8 => ?_
  exact h _ _ F8 N8
end
section
variable {w : World} {p : Program} {loose : List Str} {mg mb : Str → Option Value}
theorem news_tail {g h : Heap} {L : Addr} {q : Addr × Obj} {news : List (Addr × Obj)} (N : News g L h (q :: news)) : News g L h news := fun r hr => N r (.tail _ hr)
theorem in_lit {A : Around} {E : Value → Shared → Prop} {s : Shared} {x y : Str} {t u : Tok} {b : Bool} {Q : Value → Shared → Prop} (hb : (!(Builtin.Str.occurrences x y 0 x.length 1).isEmpty) = b) (h : Q (.bool b) s) : wpAny (model PySem.Challenge.rw_mr0361_01.prog w) A (compareOp .In (.str y u) (.str x t)) Q E s := in_str (hb ▸ h)
theorem in_fact {A : Around} {E : Value → Shared → Prop} {s : Shared} {x : Str} {c : Nat} {t u : Tok} {b : Bool} {Q : Value → Shared → Prop} (hb : x.cps.contains c = b) (h : Q (.bool b) s) : wpAny (model PySem.Challenge.rw_mr0361_01.prog w) A (compareOp .In (.str ⟨#[c]⟩ u) (.str x t)) Q E s := in_lit ((occ_one x c).trans hb) h
theorem eq_lit {A : Around} {E : Value → Shared → Prop} {s : Shared} {x y : Str} {t u : Tok} {b : Bool} {Q : Value → Shared → Prop} (hb : (x == y) = b) (h : Q (.bool b) s) : wpAny (model PySem.Challenge.rw_mr0361_01.prog w) A (compareOp .Eq (.str x t) (.str y u)) Q E s := eq_str (hb ▸ h)
theorem in_one {A : Around} {E : Value → Shared → Prop} {s : Shared} {x y : Str} {t u : Tok} {b : Bool} {Q : Value → Shared → Prop} (hy : y = ⟨#[y.cps.getD 0 0]⟩) (hb : x.cps.contains (y.cps.getD 0 0) = b) (h : Q (.bool b) s) : wpAny (model PySem.Challenge.rw_mr0361_01.prog w) A (compareOp .In (.str y u) (.str x t)) Q E s := by
  rw [hy]
  exact in_fact hb h
local macro_rules | `(tactic| walk_at "compareOp In str str") => `(tactic| (k_here; first | (refine in_fact (by with_reducible assumption) ?_) | (refine in_one (b := true) (by decide +kernel) (by decide +kernel) ?_) | (refine in_one (b := false) (by decide +kernel) (by decide +kernel) ?_)))
theorem notin_fact {A : Around} {E : Value → Shared → Prop} {s : Shared} {x : Str} {c : Nat} {t u : Tok} {b : Bool} {Q : Value → Shared → Prop} (hb : x.cps.contains c = b) (h : Q (.bool (!b)) s) : wpAny (model PySem.Challenge.rw_mr0361_01.prog w) A (compareOp .NotIn (.str ⟨#[c]⟩ u) (.str x t)) Q E s := notIn_str (by rw [occ_one, hb]; exact h)
local macro_rules | `(tactic| walk_at "compareOp NotIn str str") => `(tactic| (k_here; (refine notin_fact (by with_reducible assumption) ?_); dsimp only [Bool.not_false, Bool.not_true]))
theorem truthy_fact {A : Around} {E : Value → Shared → Prop} {s : Shared} {x : Str} {t : Tok} {b : Bool} {Q : Bool → Shared → Prop} (hb : ((x.length : Int) != 0) = b) (hl : x.length ≤ 16777216) (h : ∀ k, Q b ⟨s.heap, s.gens, s.drawn, k, s.os⟩) : wpAny (model PySem.Challenge.rw_mr0361_01.prog w) A (truthy (.str x t)) Q E s := P.truthy_str (by omega) (hb ▸ h _)
theorem truthy_one {A : Around} {E : Value → Shared → Prop} {s : Shared} {c : Nat} {t : Tok} {Q : Bool → Shared → Prop} (h : ∀ k, Q true ⟨s.heap, s.gens, s.drawn, k, s.os⟩) : wpAny (model PySem.Challenge.rw_mr0361_01.prog w) A (truthy (.str ⟨#[c]⟩ t)) Q E s := truthy_fact (b := true) rfl (Nat.le_of_ble_eq_true rfl) h
local macro_rules | `(tactic| walk_at "truthy str") => `(tactic| (k_here; first | (refine truthy_one ?_; intro k') | (refine truthy_fact (b := true) (by with_reducible assumption) (by with_reducible assumption) ?_; intro k') | (refine truthy_fact (b := false) (by with_reducible assumption) (by with_reducible assumption) ?_; intro k')))
local macro_rules | `(tactic| walk_at "compareOp Eq str str") => `(tactic| (k_here; first | (refine eq_lit (by with_reducible assumption) ?_) | (refine eq_lit (b := true) (by decide) ?_) | (refine eq_lit (b := false) (by decide) ?_)))
local macro_rules | `(tactic| walk_at "binaryOp Add str str") => `(tactic| (k_here; refine' add_s (by with_reducible assumption) ?_; intros))
local macro_rules | `(tactic| walk_at "setAttr ref") => `(tactic| (k_here; with_reducible (first | refine' set_state _ (by assumption) (by assumption) (by first | assumption | exact news_tail (by assumption)) (by assumption) ?_ | refine' set_token _ (by assumption) (by assumption) (by first | assumption | exact news_tail (by assumption)) (by assumption) ?_ | refine' set_line _ (by assumption) (by assumption) (by first | assumption | exact news_tail (by assumption)) (by assumption) ?_); intros; (try k_sweep)))
theorem off4 {a da b db : Addr} {o1 o2 o3 o4 : Obj} (hne : [a, da, b, db].Nodup) : ∀ q ∈ [(b, o1), (db, o2)], ∀ r ∈ [(a, o3), (da, o4)], q.1 ≠ r.1 := by
  have hab : b ≠ a := fun e => by subst e; simp at hne
  have hadb : db ≠ a := fun e => by subst e; simp at hne
  have hdab : b ≠ da := fun e => by subst e; simp at hne
  have hdadb : db ≠ da := fun e => by subst e; simp at hne
  intro q hq r hr
  rcases List.mem_cons.mp hq with rfl | hq
  · rcases List.mem_cons.mp hr with rfl | hr
    · exact hab
    · rcases List.mem_singleton.mp hr with rfl; exact hdab
  · rcases List.mem_singleton.mp hq with rfl
    rcases List.mem_cons.mp hr with rfl | hr
    · exact hadb
    · rcases List.mem_singleton.mp hr with rfl; exact hdadb
theorem get_punct4 (τ : Nat → Tok) {a da b db pb fs : Addr} {n1 n2 : Nat} {t1 t2 t3 tn tb tp : Tok} {buf : Str} {pos : Int} {st ln tk : Value} {A : Around} {E : Value → Shared → Prop} {s : Shared} {g : Heap} {L : Addr} {m : Str → Option Value} {ex : Bool} {Q : Value → Shared → Prop}
    (hne : [a, da, b, db].Nodup) (F : Fr g L s.heap m) (N : News g L s.heap (lexL w.params τ a da b db pb fs n1 n2 t1 t2 t3 tn buf tb pos tp st ln tk)) (X : (KK w.params).In g) (T : TopRead p loose mg mb g) (hh : A.handled = none) (hd : A.depth + 4 < recursionLimit) (hu : A.units + 60 < cLine)
    (h : ∀ h' tk', Fr g L h' m → News g L h' (lexL w.params τ a da b db pb fs n1 n2 t1 t2 t3 tn buf tb pos tp st ln tk) → Q (.str (Str.ofString "") (τ 37)) { s with heap := h', toks := tk' }) :
    wpAny (model PySem.Challenge.rw_mr0361_01.prog w) A (getAttr (.ref a) (Str.ofString "punctuation_chars") ex) Q E s :=
  get_punct τ a da b pb fs n1 _ _ _ (rest := [(b, instObj 597 db), (db, dictOf (sioD w.params t1 t2 t3 tn buf tb pos tp) n2)]) F N X T hh hd hu (off4 hne) h
local macro_rules | `(tactic| walk_at "getAttr ref") => `(tactic| (k_here; with_reducible (refine' get_punct4 _ (by assumption) (by assumption) (by first | assumption | exact news_tail (by assumption)) (by assumption) (by assumption) (by assumption) (by omega) (by omega) ?_); intros; (try k_sweep)))
theorem wc_q1 : wcTxt.cps.contains 39 = false := by decide +kernel
theorem wc_q2 : wcTxt.cps.contains 34 = false := by decide +kernel
theorem ws_f {c : Nat} (h : badC c = false) (h' : c ≠ 32) : (Str.ofString " \t\r\n").cps.contains c = false := by
  rw [show Str.ofString " \t\r\n" = ⟨#[32, 9, 13, 10]⟩ from by decide]
  simp [badC] at h ⊢
  omega
theorem qt_f {c : Nat} (h : c ≠ 39) (h' : c ≠ 34) : (Str.ofString "'\"").cps.contains c = false := by
  rw [show Str.ofString "'\"" = ⟨#[39, 34]⟩ from by decide]
  simp; omega
theorem es_f {c : Nat} (h : c ≠ 92) : (Str.ofString "\\").cps.contains c = false := by
  rw [show Str.ofString "\\" = ⟨#[92]⟩ from by decide]
  simp; omega
theorem em_f {c : Nat} : (Str.ofString "").cps.contains c = false := by
  rw [show Str.ofString "" = ⟨#[]⟩ from by decide]
  simp
theorem one_f {c d : Nat} {x : Str} (hx : x = ⟨#[d]⟩) (h : c ≠ d) : ((⟨#[c]⟩ : Str) == x) = false := by
  rw [hx]
  cases q : ((⟨#[c]⟩ : Str) == ⟨#[d]⟩) with
  | false => rfl
  | true =>
    have := eq_of_beq q
    simp at this
    exact absurd this h
theorem bad_ne {c : Nat} (h : badC c = false) : c ≠ 10 ∧ c ≠ 92 := by
  simp [badC] at h; omega
theorem drop_cp {x : Str} {i c : Nat} (h : x.cps[i]? = some c) : x.cps.toList.drop i = c :: x.cps.toList.drop (i + 1) := drop_at (by rw [Array.getElem?_toList]; exact h)
theorem drop_end {x : Str} {i : Nat} (h : x.cps.size = i) : x.cps.toList.drop i = [] := List.drop_eq_nil_of_le (by rw [Array.length_toList]; omega)
theorem lt_cp {x : Str} {i c : Nat} (h : x.cps[i]? = some c) : i < x.length := by
  cases q : decide (i < x.cps.size) with
  | true => exact of_decide_eq_true q
  | false => rw [Array.getElem?_eq_none (Nat.not_lt.mp (of_decide_eq_false q))] at h; cases h
theorem tok_push {l : List Nat} {c : Nat} : (⟨l.toArray⟩ : Str) ++ ⟨#[c]⟩ = ⟨(l ++ [c]).toArray⟩ := by
  show Str.mk (l.toArray ++ #[c]) = _
  simp
noncomputable def rtJ (P : Params) (τ : Nat → Tok) (a da b db pb fs : Addr) (n1 n2 : Nat) (t1 t2 t3 tn : Tok) (buf : Str) (tb : Tok) (res : List Nat × Bool × Bool × List Nat) (n : Nat) (m : Str → Option Value) (news : List (Addr × Obj)) : Prop :=
  m "self" = some (.ref a) ∧ ∃ md q tok pos ln tst tln ttk tp te, m "quoted" = some (.bool q) ∧ m "escapedstate" = some (.str (Str.ofString " ") te) ∧ news = lexL P τ a da b db pb fs n1 n2 t1 t2 t3 tn buf tb (pos : Nat) tp (Md.val md tst) (.int ln tln) (.str ⟨(tok : List Nat).toArray⟩ ttk) ∧
    lexRun md q tok (buf.cps.toList.drop pos) = some res ∧ pos ≤ buf.length ∧ tok.length ≤ pos ∧ n = buf.length - pos + 1 ∧ 0 ≤ ln ∧ ln ≤ pos + 1
theorem abs_m {g h : Heap} {L : Addr} {m : Str → Option Value} {P : Prop} (F : Fr g L h m) (k : ∀ m', m' = m → Fr g L h m' → P) : P := k m rfl F
/-- what the first test leaves: a line may be counted -/
noncomputable def Nl (g : Heap) (L : Addr) (m : Str → Option Value) (mk : Int → Tok → List (Addr × Obj)) (pos : Nat) (s : Shared) (fl : Flow) (s' : Shared) : Prop :=
  fl = .next ∧ ∃ h' tk' ln' tl', s' = { s with heap := h', toks := tk' } ∧ Fr g L h' m ∧ News g L h' (mk ln' tl') ∧ 0 ≤ ln' ∧ ln' ≤ pos + 2
theorem Nl.intro {g h' : Heap} {L : Addr} {m : Str → Option Value} {mk : Int → Tok → List (Addr × Obj)} {pos tk' : Nat} {s : Shared} {ln' : Int} {tl' : Tok} (F : Fr g L h' m) (N : News g L h' (mk ln' tl')) (h0 : 0 ≤ ln') (h1 : ln' ≤ pos + 2) : Nl g L m mk pos s .next ⟨h', s.gens, s.drawn, tk', s.os⟩ := ⟨rfl, h', tk', ln', tl', rfl, F, N, h0, h1⟩
/-- what read_token's loop leaves -/
noncomputable def rtD (P : Params) (τ : Nat → Tok) (a da b db pb fs : Addr) (n1 n2 : Nat) (t1 t2 t3 tn : Tok) (buf : Str) (tb : Tok) (res : List Nat × Bool × Bool × List Nat) (m : Str → Option Value) (news : List (Addr × Obj)) : Prop :=
  m "self" = some (.ref a) ∧ ∃ pos ln tst tln ttk tp, m "quoted" = some (.bool res.2.1) ∧ news = lexL P τ a da b db pb fs n1 n2 t1 t2 t3 tn buf tb (pos : Nat) tp (Md.val (if res.2.2.1 = true then .dn else .sp) tst) (.int ln tln) (.str ⟨res.1.toArray⟩ ttk) ∧
    pos ≤ buf.length ∧ buf.cps.toList.drop pos = res.2.2.2 ∧ 0 ≤ ln ∧ ln ≤ pos + 1
set_option maxHeartbeats 0 in
theorem c_rtok (τ : Nat → Tok) (a da b db pb fs : Addr) (n1 n2 : Nat) (t1 t2 t3 tn tb tp ts tl tt : Tok) (buf : Str) (pos : Nat) (ln : Int) (md0 : Md) (res : List Nat × Bool × Bool × List Nat) (hne : [a, da, b, db].Nodup) (hbl : buf.length ≤ 1000000) (hpl : pos ≤ buf.length) (hl0 : 0 ≤ ln) (hl1 : ln ≤ pos + 1)
    (hrun : lexRun md0 false [] (buf.cps.toList.drop pos) = some res) :
    Con w p loose mg mb 700 [.ref a] 9 120 (lexL w.params τ a da b db pb fs n1 n2 t1 t2 t3 tn buf tb pos tp (Md.val md0 ts) (.int ln tl) (.str (Str.ofString "") tt)) (fun H => True)
      (fun r led => ∃ pos' ln' ts' tl' tt' tp' t, r = (if res.1 = [] ∧ res.2.1 = false then .none else .str ⟨res.1.toArray⟩ t) ∧ led = lexL w.params τ a da b db pb fs n1 n2 t1 t2 t3 tn buf tb (pos' : Nat) tp' (Md.val (if res.2.2.1 = true then .dn else .sp) ts') (.int ln' tl') (.str (Str.ofString "") tt') ∧ pos' ≤ buf.length ∧ buf.cps.toList.drop pos' = res.2.2.2 ∧ 0 ≤ ln' ∧ ln' ≤ pos' + 1) := by
  refine' Con.of_body [("self", .ref a)] ?ho ?hcd ?b1 ?b2 ?hb ?hl ?a1 ?a2 ?a3 ?a4 ?a5 ?hpre ?h
  case ho => k_is
  case hcd => k_is
  case hb => exact fun s X => BindsTo.of_eq rfl
  case hpre => exact fun h h' k q => trivial
  all_goals try exact rfl
  case a4 => omega
  rintro A g L s Q F N hlt X T hh hd hu _ hret
  (repeat' ((fail_if_success (with_reducible show wpAny _ _ (exec (Stmt.While _ _ _ _) _) _ _ _)); (fail_if_success (with_reducible show wpAny _ _ (exec (Stmt.If _ _ _ _) _) _ _ _)); (fail_if_success (with_reducible show wpAny _ _ (call (Value.ref _) _) _ _ _)); (first | (k_unfold; (try dsimp only)) | walk1 | (dsimp only; walk1))))
  (with_reducible rename Fr _ _ _ _ => F1); (with_reducible rename News _ _ _ _ => N1)
  refine wpAny_mono (Q := fun fl s' => fl = .next ∧ ∃ h' tk' m' news', s' = { s with heap := h', toks := tk' } ∧ Fr g L h' m' ∧ News g L h' news' ∧ rtD w.params τ a da b db pb fs n1 n2 t1 t2 t3 tn buf tb res m' news') (while_rule (rtJ w.params τ a da b db pb fs n1 n2 t1 t2 t3 tn buf tb res) (buf.length - pos + 1) F1 N1 ⟨rfl, md0, false, [], pos, ln, _, _, _, _, _, rfl, rfl, rfl, hrun, hpl, Nat.zero_le _, rfl, hl0, hl1⟩ ?_) ?_ (fun _ _ e => e.elim)
  · rintro n m₁ news₁ h₁ tk₁ Qt hQt Qe hQe F2 N2 ⟨hm1, md, q, tok, pos, ln, tst, tln, ttk, tp, te, hm2, hm3, rfl, hrun, hpl, htl, rfl, hl0, hl1⟩
    clear F1 N1 hret hlt hQe
    (repeat' ((fail_if_success (with_reducible show wpAny _ _ (exec (Stmt.While _ _ _ _) _) _ _ _)); (fail_if_success (with_reducible show wpAny _ _ (exec (Stmt.If _ _ _ _) _) _ _ _)); (fail_if_success (with_reducible show wpAny _ _ (call (Value.ref _) _) _ _ _)); (first | (k_unfold; (try dsimp only)) | walk1 | (dsimp only; walk1))))
    with_reducible refine wpAny_If ?_
    (repeat' ((fail_if_success (with_reducible show wpAny _ _ (exec (Stmt.While _ _ _ _) _) _ _ _)); (fail_if_success (with_reducible show wpAny _ _ (exec (Stmt.If _ _ _ _) _) _ _ _)); (fail_if_success (with_reducible show wpAny _ _ (call (Value.ref _) _) _ _ _)); (first | (k_unfold; (try dsimp only)) | walk1 | (dsimp only; walk1))))
    (with_reducible rename Fr _ _ _ _ => F3); (with_reducible rename News _ _ _ _ => N3)
    refine next_sign τ hne hbl hpl F3 N3 X T hh (by omega) (by omega) ?_ ?_
    · intro c t tp' h4 tk4 hc F4 N4
      have hplt := lt_cp hc
      rw [drop_cp hc] at hrun
      clear hc
      have hsz : (⟨tok.toArray⟩ : Str).length + (⟨#[c]⟩ : Str).length ≤ 16777216 := by
        show tok.toArray.size + 1 ≤ _
        rw [List.size_toArray]; omega
      have htl1 := htl
      have htk1 : (tok ++ [c]).length ≤ pos + 1 := by rw [List.length_append]; exact Nat.succ_le_succ htl
      have hlt1 : buf.length - (pos + 1) + 1 < buf.length - pos + 1 := by omega
      clear htl
      have hcm := em_f (c := c)
      (repeat' ((fail_if_success (with_reducible show wpAny _ _ (exec (Stmt.While _ _ _ _) _) _ _ _)); (fail_if_success (with_reducible show wpAny _ _ (exec (Stmt.If _ _ _ _) _) _ _ _)); (fail_if_success (with_reducible show wpAny _ _ (call (Value.ref _) _) _ _ _)); (first | (k_unfold; (try dsimp only)) | walk1 | (dsimp only; walk1))))
      (with_reducible rename Fr _ _ _ _ => F5); (with_reducible rename News _ _ _ _ => N5)
      refine abs_m F5 fun m5 hm5 F6 => ?_
      clear F5
      obtain ⟨t5, hn1⟩ : ∃ t5, m5 (Str.ofString "nextchar") = some (.str ⟨#[c]⟩ t5) := ⟨_, by rw [hm5]; rfl⟩
      have hn2 : m5 (Str.ofString "self") = some (.ref a) := by rw [hm5]; (conv => lhs; whnf); with_reducible assumption
      have hn3 : m5 (Str.ofString "quoted") = some (.bool q) := by rw [hm5]; (conv => lhs; whnf); with_reducible assumption
      have hn4 : m5 (Str.ofString "escapedstate") = some (.str (Str.ofString " ") te) := by rw [hm5]; (conv => lhs; whnf); with_reducible assumption
      clear hm5 hm1 hm2 hm3
      refine wpAny_mono (Q := Nl g L m5 (fun ln' tl' => lexL w.params τ a da b db pb fs n1 n2 t1 t2 t3 tn buf tb ((pos + 1 : Nat) : Int) tp' (Md.val md tst) (.int ln' tl') (.str ⟨tok.toArray⟩ ttk)) pos s) (E := fun _ _ => False) ?_ ?_ (fun _ _ e => e.elim)
      · with_reducible refine wpAny_If ?_
        by_cases h10 : c = 10
        · subst h10
          (repeat' ((fail_if_success (with_reducible show wpAny _ _ (exec (Stmt.While _ _ _ _) _) _ _ _)); (fail_if_success (with_reducible show wpAny _ _ (exec (Stmt.If _ _ _ _) _) _ _ _)); (fail_if_success (with_reducible show wpAny _ _ (call (Value.ref _) _) _ _ _)); (first | (k_unfold; (try dsimp only)) | walk1 | (dsimp only; walk1))))
          (with_reducible rename Fr _ _ _ _ => F8); (with_reducible rename News _ _ _ _ => N8)
          exact Nl.intro F8 N8 (by omega) (by omega)
        · have hnl := one_f (x := Str.ofString "\n") (by decide) h10
          (repeat' ((fail_if_success (with_reducible show wpAny _ _ (exec (Stmt.While _ _ _ _) _) _ _ _)); (fail_if_success (with_reducible show wpAny _ _ (exec (Stmt.If _ _ _ _) _) _ _ _)); (fail_if_success (with_reducible show wpAny _ _ (call (Value.ref _) _) _ _ _)); (first | (k_unfold; (try dsimp only)) | walk1 | (dsimp only; walk1))))
          (with_reducible rename Fr _ _ _ _ => F8); (with_reducible rename News _ _ _ _ => N8)
          exact Nl.intro F8 N8 (by omega) (by omega)
      rintro _ _ ⟨rfl, h5, tk5, ln5, tl5, rfl, F7, N7, hl2, hl3⟩
      clear F6 N5 hl0 hl1
      dsimp only
      (repeat' ((fail_if_success (with_reducible show wpAny _ _ (exec (Stmt.While _ _ _ _) _) _ _ _)); (fail_if_success (with_reducible show wpAny _ _ (exec (Stmt.If _ _ _ _) _) _ _ _)); (fail_if_success (with_reducible show wpAny _ _ (call (Value.ref _) _) _ _ _)); (first | (k_unfold; (try dsimp only)) | walk1 | (dsimp only; walk1))))
      with_reducible refine wpAny_If ?_
      (repeat' ((fail_if_success (with_reducible show wpAny _ _ (exec (Stmt.While _ _ _ _) _) _ _ _)); (fail_if_success (with_reducible show wpAny _ _ (exec (Stmt.If _ _ _ _) _) _ _ _)); (fail_if_success (with_reducible show wpAny _ _ (call (Value.ref _) _) _ _ _)); (first | (k_unfold; (try dsimp only)) | walk1 | (dsimp only; walk1))))
      cases md with
      | dn => cases hrun
      | q1 =>
        dsimp only [Md.val, Md.txt] at *
        iterate 3 ((with_reducible refine wpAny_If ?_); (repeat' ((fail_if_success (with_reducible show wpAny _ _ (exec (Stmt.While _ _ _ _) _) _ _ _)); (fail_if_success (with_reducible show wpAny _ _ (exec (Stmt.If _ _ _ _) _) _ _ _)); (fail_if_success (with_reducible show wpAny _ _ (call (Value.ref _) _) _ _ _)); (first | (k_unfold; (try dsimp only)) | walk1 | (dsimp only; walk1)))))
        by_cases h39 : c = 39
        · subst h39
          rw [lexRun, if_pos rfl] at hrun
          repeat ((with_reducible refine wpAny_If ?_); (repeat' ((fail_if_success (with_reducible show wpAny _ _ (exec (Stmt.While _ _ _ _) _) _ _ _)); (fail_if_success (with_reducible show wpAny _ _ (exec (Stmt.If _ _ _ _) _) _ _ _)); (fail_if_success (with_reducible show wpAny _ _ (call (Value.ref _) _) _ _ _)); (first | (k_unfold; (try dsimp only)) | walk1 | (dsimp only; walk1)))))
          (with_reducible rename Fr _ _ _ _ => F9); (with_reducible rename News _ _ _ _ => N9)
          exact hQt _ _ (WPost.next F9 N9 hlt1 ⟨by first | exact hn2 | ((conv => lhs; whnf); with_reducible assumption), .wd, true, tok, pos + 1, ln5, _, _, _, _, _, by first | exact hn3 | rfl, by first | exact hn4 | ((conv => lhs; whnf); with_reducible assumption), rfl, hrun, hplt, (Nat.le_succ_of_le htl1), rfl, hl2, by omega⟩)
        · have hq := one_f (x := Str.ofString "'") (by decide) h39
          rw [lexRun, if_neg h39] at hrun
          by_cases h92 : c = 92
          · subst h92
            repeat ((with_reducible refine wpAny_If ?_); (repeat' ((fail_if_success (with_reducible show wpAny _ _ (exec (Stmt.While _ _ _ _) _) _ _ _)); (fail_if_success (with_reducible show wpAny _ _ (exec (Stmt.If _ _ _ _) _) _ _ _)); (fail_if_success (with_reducible show wpAny _ _ (call (Value.ref _) _) _ _ _)); (first | (k_unfold; (try dsimp only)) | walk1 | (dsimp only; walk1)))))
            (with_reducible rename Fr _ _ _ _ => F9); (with_reducible rename News _ _ _ _ => N9)
            rw [tok_push] at N9
            exact hQt _ _ (WPost.next F9 N9 hlt1 ⟨by first | exact hn2 | ((conv => lhs; whnf); with_reducible assumption), .q1, true, tok ++ [92], pos + 1, ln5, _, _, _, _, _, by first | exact hn3 | rfl, by first | exact hn4 | ((conv => lhs; whnf); with_reducible assumption), rfl, hrun, hplt, htk1, rfl, hl2, by omega⟩)
          · have hes := es_f h92
            repeat ((with_reducible refine wpAny_If ?_); (repeat' ((fail_if_success (with_reducible show wpAny _ _ (exec (Stmt.While _ _ _ _) _) _ _ _)); (fail_if_success (with_reducible show wpAny _ _ (exec (Stmt.If _ _ _ _) _) _ _ _)); (fail_if_success (with_reducible show wpAny _ _ (call (Value.ref _) _) _ _ _)); (first | (k_unfold; (try dsimp only)) | walk1 | (dsimp only; walk1)))))
            (with_reducible rename Fr _ _ _ _ => F9); (with_reducible rename News _ _ _ _ => N9)
            rw [tok_push] at N9
            exact hQt _ _ (WPost.next F9 N9 hlt1 ⟨by first | exact hn2 | ((conv => lhs; whnf); with_reducible assumption), .q1, true, tok ++ [c], pos + 1, ln5, _, _, _, _, _, by first | exact hn3 | rfl, by first | exact hn4 | ((conv => lhs; whnf); with_reducible assumption), rfl, hrun, hplt, htk1, rfl, hl2, by omega⟩)
      | q2 =>
        dsimp only [Md.val, Md.txt] at *
        iterate 3 ((with_reducible refine wpAny_If ?_); (repeat' ((fail_if_success (with_reducible show wpAny _ _ (exec (Stmt.While _ _ _ _) _) _ _ _)); (fail_if_success (with_reducible show wpAny _ _ (exec (Stmt.If _ _ _ _) _) _ _ _)); (fail_if_success (with_reducible show wpAny _ _ (call (Value.ref _) _) _ _ _)); (first | (k_unfold; (try dsimp only)) | walk1 | (dsimp only; walk1)))))
        by_cases h34 : c = 34
        · subst h34
          rw [lexRun, if_pos rfl] at hrun
          repeat ((with_reducible refine wpAny_If ?_); (repeat' ((fail_if_success (with_reducible show wpAny _ _ (exec (Stmt.While _ _ _ _) _) _ _ _)); (fail_if_success (with_reducible show wpAny _ _ (exec (Stmt.If _ _ _ _) _) _ _ _)); (fail_if_success (with_reducible show wpAny _ _ (call (Value.ref _) _) _ _ _)); (first | (k_unfold; (try dsimp only)) | walk1 | (dsimp only; walk1)))))
          (with_reducible rename Fr _ _ _ _ => F9); (with_reducible rename News _ _ _ _ => N9)
          exact hQt _ _ (WPost.next F9 N9 hlt1 ⟨by first | exact hn2 | ((conv => lhs; whnf); with_reducible assumption), .wd, true, tok, pos + 1, ln5, _, _, _, _, _, by first | exact hn3 | rfl, by first | exact hn4 | ((conv => lhs; whnf); with_reducible assumption), rfl, hrun, hplt, (Nat.le_succ_of_le htl1), rfl, hl2, by omega⟩)
        · have hq := one_f (x := Str.ofString "\"") (by decide) h34
          rw [lexRun, if_neg h34] at hrun
          by_cases h92 : c = 92
          · subst h92; rw [if_pos rfl] at hrun; cases hrun
          rw [if_neg h92] at hrun
          have hes := es_f h92
          repeat ((with_reducible refine wpAny_If ?_); (repeat' ((fail_if_success (with_reducible show wpAny _ _ (exec (Stmt.While _ _ _ _) _) _ _ _)); (fail_if_success (with_reducible show wpAny _ _ (exec (Stmt.If _ _ _ _) _) _ _ _)); (fail_if_success (with_reducible show wpAny _ _ (call (Value.ref _) _) _ _ _)); (first | (k_unfold; (try dsimp only)) | walk1 | (dsimp only; walk1)))))
          (with_reducible rename Fr _ _ _ _ => F9); (with_reducible rename News _ _ _ _ => N9)
          rw [tok_push] at N9
          exact hQt _ _ (WPost.next F9 N9 hlt1 ⟨by first | exact hn2 | ((conv => lhs; whnf); with_reducible assumption), .q2, true, tok ++ [c], pos + 1, ln5, _, _, _, _, _, by first | exact hn3 | rfl, by first | exact hn4 | ((conv => lhs; whnf); with_reducible assumption), rfl, hrun, hplt, htk1, rfl, hl2, by omega⟩)
      | sp =>
        dsimp only [Md.val, Md.txt] at *
        iterate 2 ((with_reducible refine wpAny_If ?_); (repeat' ((fail_if_success (with_reducible show wpAny _ _ (exec (Stmt.While _ _ _ _) _) _ _ _)); (fail_if_success (with_reducible show wpAny _ _ (exec (Stmt.If _ _ _ _) _) _ _ _)); (fail_if_success (with_reducible show wpAny _ _ (call (Value.ref _) _) _ _ _)); (first | (k_unfold; (try dsimp only)) | walk1 | (dsimp only; walk1)))))
        rw [lexRun] at hrun
        by_cases hb : badC c = true ∨ c = 32
        · rw [if_pos hb] at hrun; cases hrun
        rw [if_neg hb] at hrun
        have hbad : badC c = false := Bool.eq_false_iff.mpr fun e => hb (.inl e)
        have hws := ws_f hbad fun e => hb (.inr e)
        have hes := es_f (bad_ne hbad).2
        iterate 4 ((with_reducible refine wpAny_If ?_); (repeat' ((fail_if_success (with_reducible show wpAny _ _ (exec (Stmt.While _ _ _ _) _) _ _ _)); (fail_if_success (with_reducible show wpAny _ _ (exec (Stmt.If _ _ _ _) _) _ _ _)); (fail_if_success (with_reducible show wpAny _ _ (call (Value.ref _) _) _ _ _)); (first | (k_unfold; (try dsimp only)) | walk1 | (dsimp only; walk1)))))
        by_cases h39 : c = 39
        · subst h39
          have hwc := wc_q1
          rw [if_pos rfl] at hrun
          repeat ((with_reducible refine wpAny_If ?_); (repeat' ((fail_if_success (with_reducible show wpAny _ _ (exec (Stmt.While _ _ _ _) _) _ _ _)); (fail_if_success (with_reducible show wpAny _ _ (exec (Stmt.If _ _ _ _) _) _ _ _)); (fail_if_success (with_reducible show wpAny _ _ (call (Value.ref _) _) _ _ _)); (first | (k_unfold; (try dsimp only)) | walk1 | (dsimp only; walk1)))))
          (with_reducible rename Fr _ _ _ _ => F9); (with_reducible rename News _ _ _ _ => N9)
          rw [show (⟨#[39]⟩ : Str) = Str.ofString "'" from by decide] at N9
          exact hQt _ _ (WPost.next F9 N9 hlt1 ⟨by first | exact hn2 | ((conv => lhs; whnf); with_reducible assumption), .q1, q, tok, pos + 1, ln5, _, _, _, _, _, by first | exact hn3 | rfl, by first | exact hn4 | ((conv => lhs; whnf); with_reducible assumption), rfl, hrun, hplt, (Nat.le_succ_of_le htl1), rfl, hl2, by omega⟩)
        rw [if_neg h39] at hrun
        by_cases h34 : c = 34
        · subst h34
          have hwc := wc_q2
          rw [if_pos rfl] at hrun
          repeat ((with_reducible refine wpAny_If ?_); (repeat' ((fail_if_success (with_reducible show wpAny _ _ (exec (Stmt.While _ _ _ _) _) _ _ _)); (fail_if_success (with_reducible show wpAny _ _ (exec (Stmt.If _ _ _ _) _) _ _ _)); (fail_if_success (with_reducible show wpAny _ _ (call (Value.ref _) _) _ _ _)); (first | (k_unfold; (try dsimp only)) | walk1 | (dsimp only; walk1)))))
          (with_reducible rename Fr _ _ _ _ => F9); (with_reducible rename News _ _ _ _ => N9)
          rw [show (⟨#[34]⟩ : Str) = Str.ofString "\"" from by decide] at N9
          exact hQt _ _ (WPost.next F9 N9 hlt1 ⟨by first | exact hn2 | ((conv => lhs; whnf); with_reducible assumption), .q2, q, tok, pos + 1, ln5, _, _, _, _, _, by first | exact hn3 | rfl, by first | exact hn4 | ((conv => lhs; whnf); with_reducible assumption), rfl, hrun, hplt, (Nat.le_succ_of_le htl1), rfl, hl2, by omega⟩)
        rw [if_neg h34] at hrun
        have hqt := qt_f h39 h34
        cases hwc : wcTxt.cps.contains c with
        | true =>
          repeat ((with_reducible refine wpAny_If ?_); (repeat' ((fail_if_success (with_reducible show wpAny _ _ (exec (Stmt.While _ _ _ _) _) _ _ _)); (fail_if_success (with_reducible show wpAny _ _ (exec (Stmt.If _ _ _ _) _) _ _ _)); (fail_if_success (with_reducible show wpAny _ _ (call (Value.ref _) _) _ _ _)); (first | (k_unfold; (try dsimp only)) | walk1 | (dsimp only; walk1)))))
          (with_reducible rename Fr _ _ _ _ => F9); (with_reducible rename News _ _ _ _ => N9)
          exact hQt _ _ (WPost.next F9 N9 hlt1 ⟨by first | exact hn2 | ((conv => lhs; whnf); with_reducible assumption), .wd, q, [c], pos + 1, ln5, _, _, _, _, _, by first | exact hn3 | rfl, by first | exact hn4 | ((conv => lhs; whnf); with_reducible assumption), rfl, hrun, hplt, (by show 1 ≤ pos + 1; omega), rfl, hl2, by omega⟩)
        | false =>
          repeat ((with_reducible refine wpAny_If ?_); (repeat' ((fail_if_success (with_reducible show wpAny _ _ (exec (Stmt.While _ _ _ _) _) _ _ _)); (fail_if_success (with_reducible show wpAny _ _ (exec (Stmt.If _ _ _ _) _) _ _ _)); (fail_if_success (with_reducible show wpAny _ _ (call (Value.ref _) _) _ _ _)); (first | (k_unfold; (try dsimp only)) | walk1 | (dsimp only; walk1)))))
          (with_reducible rename Fr _ _ _ _ => F9); (with_reducible rename News _ _ _ _ => N9)
          exact hQt _ _ (WPost.next F9 N9 hlt1 ⟨by first | exact hn2 | ((conv => lhs; whnf); with_reducible assumption), .wd, q, [c], pos + 1, ln5, _, _, _, _, _, by first | exact hn3 | rfl, by first | exact hn4 | ((conv => lhs; whnf); with_reducible assumption), rfl, hrun, hplt, (by show 1 ≤ pos + 1; omega), rfl, hl2, by omega⟩)
      | wd =>
        dsimp only [Md.val, Md.txt] at *
        iterate 5 ((with_reducible refine wpAny_If ?_); (repeat' ((fail_if_success (with_reducible show wpAny _ _ (exec (Stmt.While _ _ _ _) _) _ _ _)); (fail_if_success (with_reducible show wpAny _ _ (exec (Stmt.If _ _ _ _) _) _ _ _)); (fail_if_success (with_reducible show wpAny _ _ (call (Value.ref _) _) _ _ _)); (first | (k_unfold; (try dsimp only)) | walk1 | (dsimp only; walk1)))))
        rw [lexRun] at hrun
        by_cases h32 : c = 32
        · subst h32
          rw [if_pos rfl] at hrun
          by_cases hz : tok = [] ∧ q = false
          · rw [if_pos hz] at hrun; cases hrun
          rw [if_neg hz] at hrun
          obtain rfl := Option.some.inj hrun
          have htl' : (⟨tok.toArray⟩ : Str).length ≤ 16777216 := by omega
          iterate 2 ((with_reducible refine wpAny_If ?_); (repeat' ((fail_if_success (with_reducible show wpAny _ _ (exec (Stmt.While _ _ _ _) _) _ _ _)); (fail_if_success (with_reducible show wpAny _ _ (exec (Stmt.If _ _ _ _) _) _ _ _)); (fail_if_success (with_reducible show wpAny _ _ (call (Value.ref _) _) _ _ _)); (first | (k_unfold; (try dsimp only)) | walk1 | (dsimp only; walk1)))))
          cases ht : (((⟨tok.toArray⟩ : Str).length : Int) != 0) with
          | true =>
            repeat ((with_reducible refine wpAny_If ?_); (repeat' ((fail_if_success (with_reducible show wpAny _ _ (exec (Stmt.While _ _ _ _) _) _ _ _)); (fail_if_success (with_reducible show wpAny _ _ (exec (Stmt.If _ _ _ _) _) _ _ _)); (fail_if_success (with_reducible show wpAny _ _ (call (Value.ref _) _) _ _ _)); (first | (k_unfold; (try dsimp only)) | walk1 | (dsimp only; walk1)))))
            (with_reducible rename Fr _ _ _ _ => F9); (with_reducible rename News _ _ _ _ => N9)
            refine hQt _ _ (WPost.brk ?_)
            exact ⟨rfl, _, _, _, _, rfl, F9, N9, hn2, pos + 1, ln5, _, _, _, _, hn3, rfl, hplt, rfl, hl2, by omega⟩
          | false =>
            have hq : q = true := by
              cases q with
              | true => rfl
              | false => exact absurd ⟨by
                  have h1 : ((⟨tok.toArray⟩ : Str).length : Int) = 0 := by simpa using ht
                  have h2 : tok.toArray.size = 0 := Int.ofNat.inj h1
                  rw [List.size_toArray] at h2
                  exact List.eq_nil_of_length_eq_zero h2, rfl⟩ hz
            subst hq
            repeat ((with_reducible refine wpAny_If ?_); (repeat' ((fail_if_success (with_reducible show wpAny _ _ (exec (Stmt.While _ _ _ _) _) _ _ _)); (fail_if_success (with_reducible show wpAny _ _ (exec (Stmt.If _ _ _ _) _) _ _ _)); (fail_if_success (with_reducible show wpAny _ _ (call (Value.ref _) _) _ _ _)); (first | (k_unfold; (try dsimp only)) | walk1 | (dsimp only; walk1)))))
            (with_reducible rename Fr _ _ _ _ => F9); (with_reducible rename News _ _ _ _ => N9)
            refine hQt _ _ (WPost.brk ?_)
            exact ⟨rfl, _, _, _, _, rfl, F9, N9, hn2, pos + 1, ln5, _, _, _, _, hn3, rfl, hplt, rfl, hl2, by omega⟩
        rw [if_neg h32] at hrun
        by_cases hb : badC c = true
        · rw [if_pos hb] at hrun; cases hrun
        rw [if_neg hb] at hrun
        have hbad : badC c = false := Bool.eq_false_iff.mpr hb
        have hws := ws_f hbad h32
        have hes := es_f (bad_ne hbad).2
        iterate 4 ((with_reducible refine wpAny_If ?_); (repeat' ((fail_if_success (with_reducible show wpAny _ _ (exec (Stmt.While _ _ _ _) _) _ _ _)); (fail_if_success (with_reducible show wpAny _ _ (exec (Stmt.If _ _ _ _) _) _ _ _)); (fail_if_success (with_reducible show wpAny _ _ (call (Value.ref _) _) _ _ _)); (first | (k_unfold; (try dsimp only)) | walk1 | (dsimp only; walk1)))))
        by_cases h39 : c = 39
        · subst h39
          have hwc := wc_q1
          rw [if_pos rfl] at hrun
          repeat ((with_reducible refine wpAny_If ?_); (repeat' ((fail_if_success (with_reducible show wpAny _ _ (exec (Stmt.While _ _ _ _) _) _ _ _)); (fail_if_success (with_reducible show wpAny _ _ (exec (Stmt.If _ _ _ _) _) _ _ _)); (fail_if_success (with_reducible show wpAny _ _ (call (Value.ref _) _) _ _ _)); (first | (k_unfold; (try dsimp only)) | walk1 | (dsimp only; walk1)))))
          (with_reducible rename Fr _ _ _ _ => F9); (with_reducible rename News _ _ _ _ => N9)
          rw [show (⟨#[39]⟩ : Str) = Str.ofString "'" from by decide] at N9
          exact hQt _ _ (WPost.next F9 N9 hlt1 ⟨by first | exact hn2 | ((conv => lhs; whnf); with_reducible assumption), .q1, q, tok, pos + 1, ln5, _, _, _, _, _, by first | exact hn3 | rfl, by first | exact hn4 | ((conv => lhs; whnf); with_reducible assumption), rfl, hrun, hplt, (Nat.le_succ_of_le htl1), rfl, hl2, by omega⟩)
        rw [if_neg h39] at hrun
        by_cases h34 : c = 34
        · subst h34
          have hwc := wc_q2
          rw [if_pos rfl] at hrun
          repeat ((with_reducible refine wpAny_If ?_); (repeat' ((fail_if_success (with_reducible show wpAny _ _ (exec (Stmt.While _ _ _ _) _) _ _ _)); (fail_if_success (with_reducible show wpAny _ _ (exec (Stmt.If _ _ _ _) _) _ _ _)); (fail_if_success (with_reducible show wpAny _ _ (call (Value.ref _) _) _ _ _)); (first | (k_unfold; (try dsimp only)) | walk1 | (dsimp only; walk1)))))
          (with_reducible rename Fr _ _ _ _ => F9); (with_reducible rename News _ _ _ _ => N9)
          rw [show (⟨#[34]⟩ : Str) = Str.ofString "\"" from by decide] at N9
          exact hQt _ _ (WPost.next F9 N9 hlt1 ⟨by first | exact hn2 | ((conv => lhs; whnf); with_reducible assumption), .q2, q, tok, pos + 1, ln5, _, _, _, _, _, by first | exact hn3 | rfl, by first | exact hn4 | ((conv => lhs; whnf); with_reducible assumption), rfl, hrun, hplt, (Nat.le_succ_of_le htl1), rfl, hl2, by omega⟩)
        rw [if_neg h34] at hrun
        have hqt := qt_f h39 h34
        cases hwc : wcTxt.cps.contains c with
        | true =>
          repeat ((with_reducible refine wpAny_If ?_); (repeat' ((fail_if_success (with_reducible show wpAny _ _ (exec (Stmt.While _ _ _ _) _) _ _ _)); (fail_if_success (with_reducible show wpAny _ _ (exec (Stmt.If _ _ _ _) _) _ _ _)); (fail_if_success (with_reducible show wpAny _ _ (call (Value.ref _) _) _ _ _)); (first | (k_unfold; (try dsimp only)) | walk1 | (dsimp only; walk1)))))
          (with_reducible rename Fr _ _ _ _ => F9); (with_reducible rename News _ _ _ _ => N9)
          rw [tok_push] at N9
          exact hQt _ _ (WPost.next F9 N9 hlt1 ⟨by first | exact hn2 | ((conv => lhs; whnf); with_reducible assumption), .wd, q, tok ++ [c], pos + 1, ln5, _, _, _, _, _, by first | exact hn3 | rfl, by first | exact hn4 | ((conv => lhs; whnf); with_reducible assumption), rfl, hrun, hplt, htk1, rfl, hl2, by omega⟩)
        | false =>
          repeat ((with_reducible refine wpAny_If ?_); (repeat' ((fail_if_success (with_reducible show wpAny _ _ (exec (Stmt.While _ _ _ _) _) _ _ _)); (fail_if_success (with_reducible show wpAny _ _ (exec (Stmt.If _ _ _ _) _) _ _ _)); (fail_if_success (with_reducible show wpAny _ _ (call (Value.ref _) _) _ _ _)); (first | (k_unfold; (try dsimp only)) | walk1 | (dsimp only; walk1)))))
          (with_reducible rename Fr _ _ _ _ => F9); (with_reducible rename News _ _ _ _ => N9)
          rw [tok_push] at N9
          exact hQt _ _ (WPost.next F9 N9 hlt1 ⟨by first | exact hn2 | ((conv => lhs; whnf); with_reducible assumption), .wd, q, tok ++ [c], pos + 1, ln5, _, _, _, _, _, by first | exact hn3 | rfl, by first | exact hn4 | ((conv => lhs; whnf); with_reducible assumption), rfl, hrun, hplt, htk1, rfl, hl2, by omega⟩)
    · intro t h4 tk4 hz F4 N4
      rw [drop_end hz] at hrun
      cases md with
      | q1 => cases hrun
      | q2 => cases hrun
      | sp =>
        obtain rfl := Option.some.inj hrun
        dsimp only [Md.val, Md.txt] at N4
        (repeat' ((fail_if_success (with_reducible show wpAny _ _ (exec (Stmt.While _ _ _ _) _) _ _ _)); (fail_if_success (with_reducible show wpAny _ _ (exec (Stmt.If _ _ _ _) _) _ _ _)); (fail_if_success (with_reducible show wpAny _ _ (call (Value.ref _) _) _ _ _)); (first | (k_unfold; (try dsimp only)) | walk1 | (dsimp only; walk1))))
        repeat ((with_reducible refine wpAny_If ?_); (repeat' ((fail_if_success (with_reducible show wpAny _ _ (exec (Stmt.While _ _ _ _) _) _ _ _)); (fail_if_success (with_reducible show wpAny _ _ (exec (Stmt.If _ _ _ _) _) _ _ _)); (fail_if_success (with_reducible show wpAny _ _ (call (Value.ref _) _) _ _ _)); (first | (k_unfold; (try dsimp only)) | walk1 | (dsimp only; walk1)))))
        (with_reducible rename Fr _ _ _ _ => F5); (with_reducible rename News _ _ _ _ => N5)
        refine hQt _ _ (WPost.brk ?_)
        exact ⟨rfl, _, _, _, _, rfl, F5, N5, hm1, pos, ln, 0, _, _, _, hm2, rfl, hpl, drop_end hz, by omega, by omega⟩
      | wd =>
        obtain rfl := Option.some.inj hrun
        dsimp only [Md.val, Md.txt] at N4
        (repeat' ((fail_if_success (with_reducible show wpAny _ _ (exec (Stmt.While _ _ _ _) _) _ _ _)); (fail_if_success (with_reducible show wpAny _ _ (exec (Stmt.If _ _ _ _) _) _ _ _)); (fail_if_success (with_reducible show wpAny _ _ (call (Value.ref _) _) _ _ _)); (first | (k_unfold; (try dsimp only)) | walk1 | (dsimp only; walk1))))
        repeat ((with_reducible refine wpAny_If ?_); (repeat' ((fail_if_success (with_reducible show wpAny _ _ (exec (Stmt.While _ _ _ _) _) _ _ _)); (fail_if_success (with_reducible show wpAny _ _ (exec (Stmt.If _ _ _ _) _) _ _ _)); (fail_if_success (with_reducible show wpAny _ _ (call (Value.ref _) _) _ _ _)); (first | (k_unfold; (try dsimp only)) | walk1 | (dsimp only; walk1)))))
        (with_reducible rename Fr _ _ _ _ => F5); (with_reducible rename News _ _ _ _ => N5)
        refine hQt _ _ (WPost.brk ?_)
        exact ⟨rfl, _, _, _, _, rfl, F5, N5, hm1, pos, ln, 0, _, _, _, hm2, rfl, hpl, drop_end hz, by omega, by omega⟩
      | dn =>
        obtain rfl := Option.some.inj hrun
        dsimp only [Md.val, Md.txt] at N4
        (repeat' ((fail_if_success (with_reducible show wpAny _ _ (exec (Stmt.While _ _ _ _) _) _ _ _)); (fail_if_success (with_reducible show wpAny _ _ (exec (Stmt.If _ _ _ _) _) _ _ _)); (fail_if_success (with_reducible show wpAny _ _ (call (Value.ref _) _) _ _ _)); (first | (k_unfold; (try dsimp only)) | walk1 | (dsimp only; walk1))))
        repeat ((with_reducible refine wpAny_If ?_); (repeat' ((fail_if_success (with_reducible show wpAny _ _ (exec (Stmt.While _ _ _ _) _) _ _ _)); (fail_if_success (with_reducible show wpAny _ _ (exec (Stmt.If _ _ _ _) _) _ _ _)); (fail_if_success (with_reducible show wpAny _ _ (call (Value.ref _) _) _ _ _)); (first | (k_unfold; (try dsimp only)) | walk1 | (dsimp only; walk1)))))
        (with_reducible rename Fr _ _ _ _ => F5); (with_reducible rename News _ _ _ _ => N5)
        refine hQt _ _ (WPost.brk ?_)
        exact ⟨rfl, _, _, _, _, rfl, F5, N5, hm1, pos, ln, 0, _, _, _, hm2, rfl, hpl, drop_end hz, by omega, by omega⟩
  · rintro _ _ ⟨rfl, h', tk', m', news', rfl, F2, N2, hm1, pos, ln, tst, tln, ttk, tp, hm2, rfl, hpl, hdr, hl0, hl1⟩
    clear F1 N1
    obtain ⟨tok, q, e, rest'⟩ := res
    dsimp only at hm2 hdr N2 ⊢
    cases q with
    | true =>
      (repeat' ((fail_if_success (with_reducible show wpAny _ _ (exec (Stmt.While _ _ _ _) _) _ _ _)); (fail_if_success (with_reducible show wpAny _ _ (exec (Stmt.If _ _ _ _) _) _ _ _)); (fail_if_success (with_reducible show wpAny _ _ (call (Value.ref _) _) _ _ _)); (first | (k_unfold; (try dsimp only)) | walk1 | (dsimp only; walk1))))
      repeat ((with_reducible refine wpAny_If ?_); (repeat' ((fail_if_success (with_reducible show wpAny _ _ (exec (Stmt.While _ _ _ _) _) _ _ _)); (fail_if_success (with_reducible show wpAny _ _ (exec (Stmt.If _ _ _ _) _) _ _ _)); (fail_if_success (with_reducible show wpAny _ _ (call (Value.ref _) _) _ _ _)); (first | (k_unfold; (try dsimp only)) | walk1 | (dsimp only; walk1)))))
      (with_reducible rename Fr _ _ _ _ => F3); (with_reducible rename News _ _ _ _ => N3)
      exact hret _ _ _ _ _ F3 N3 ⟨pos, ln, _, _, _, _, _, (if_neg (fun h => nomatch h.2)).symm, rfl, hpl, hdr, hl0, hl1⟩
    | false =>
      by_cases ht : tok = []
      · subst ht
        (repeat' ((fail_if_success (with_reducible show wpAny _ _ (exec (Stmt.While _ _ _ _) _) _ _ _)); (fail_if_success (with_reducible show wpAny _ _ (exec (Stmt.If _ _ _ _) _) _ _ _)); (fail_if_success (with_reducible show wpAny _ _ (call (Value.ref _) _) _ _ _)); (first | (k_unfold; (try dsimp only)) | walk1 | (dsimp only; walk1))))
        repeat ((with_reducible refine wpAny_If ?_); (repeat' ((fail_if_success (with_reducible show wpAny _ _ (exec (Stmt.While _ _ _ _) _) _ _ _)); (fail_if_success (with_reducible show wpAny _ _ (exec (Stmt.If _ _ _ _) _) _ _ _)); (fail_if_success (with_reducible show wpAny _ _ (call (Value.ref _) _) _ _ _)); (first | (k_unfold; (try dsimp only)) | walk1 | (dsimp only; walk1)))))
        (with_reducible rename Fr _ _ _ _ => F3); (with_reducible rename News _ _ _ _ => N3)
        exact hret _ _ _ _ _ F3 N3 ⟨pos, ln, _, _, _, _, 0, (if_pos ⟨rfl, rfl⟩).symm, rfl, hpl, hdr, hl0, hl1⟩
      · have he : ((⟨tok.toArray⟩ : Str) == Str.ofString "") = false := by
          cases q : ((⟨tok.toArray⟩ : Str) == Str.ofString "") with
          | false => rfl
          | true =>
            have h1 := eq_of_beq q
            have h2 : Str.ofString "" = ⟨#[]⟩ := by decide
            rw [h2] at h1
            simp at h1
            exact absurd h1 ht
        (repeat' ((fail_if_success (with_reducible show wpAny _ _ (exec (Stmt.While _ _ _ _) _) _ _ _)); (fail_if_success (with_reducible show wpAny _ _ (exec (Stmt.If _ _ _ _) _) _ _ _)); (fail_if_success (with_reducible show wpAny _ _ (call (Value.ref _) _) _ _ _)); (first | (k_unfold; (try dsimp only)) | walk1 | (dsimp only; walk1))))
        repeat ((with_reducible refine wpAny_If ?_); (repeat' ((fail_if_success (with_reducible show wpAny _ _ (exec (Stmt.While _ _ _ _) _) _ _ _)); (fail_if_success (with_reducible show wpAny _ _ (exec (Stmt.If _ _ _ _) _) _ _ _)); (fail_if_success (with_reducible show wpAny _ _ (call (Value.ref _) _) _ _ _)); (first | (k_unfold; (try dsimp only)) | walk1 | (dsimp only; walk1)))))
        (with_reducible rename Fr _ _ _ _ => F3); (with_reducible rename News _ _ _ _ => N3)
        exact hret _ _ _ _ _ F3 N3 ⟨pos, ln, _, _, _, _, _, (if_neg (fun h => ht h.1)).symm, rfl, hpl, hdr, hl0, hl1⟩
end
section
section
theorem dq_noBool : typeLookup (.type "collections.deque") "__bool__" = pure none := by rw [typeLookup_type, builtinLookup_eq_fast]; kernel_rfl
theorem dq_slot_len : Slot "collections.deque" "__len__" "collections.deque.__len__" := .of (owner := "collections.deque") (n := "__len__") (by rw [typeLookup_type, builtinLookup_eq_fast]; kernel_rfl) (by decide +kernel) (by decide +kernel) (by decide +kernel)
    (by first | exact .inl (by decide +kernel) | exact .inr (by decide +kernel)) (by rw [isSubtype_type]; kernel_rfl)
theorem dq_entry_len : entryFor table "collections.deque.__len__" = some Builtin.«collections.deque.__len__» := by first | exact entryFor_of_fast (by kernel_rfl) | exact entryFor_of_tree (by kernel_rfl)
noncomputable abbrev dqObj : Obj := { cls := .type "collections.deque", data := .fields #[.none, rawInt 0] }
variable {prog : Program} {w : World} {A : Around} {E : Value → Shared → Prop} {s : Shared}
theorem dq_owner : Manifest.owners.lookup (String.ofList ['e', 'u', 'q', 'e', 'd', '.', 's', 'n', 'o', 'i', 't', 'c', 'e', 'l', 'l', 'o', 'c'].reverse) = some Manifest.sig_collections_deque := by kernel_rfl
theorem dq_args (a : Value) : argsOk "collections.deque.__len__" ⟨[a], []⟩ := by
  unfold argsOk; rw [signature?_of (id := "collections.deque.__len__") (n := ['_', '_', 'n', 'e', 'l', '_', '_']) (o := ['e', 'u', 'q', 'e', 'd', '.', 's', 'n', 'o', 'i', 't', 'c', 'e', 'l', 'l', 'o', 'c']) (by kernel_rfl) dq_owner]; kernel_rfl
theorem dq_len {q : Addr} {Q : Value → Shared → Prop} (hq : s.heap.get? q = some dqObj)
    (h : Q (.int 0 (s.toks + 1)) { s with toks := s.toks + 1 + 1 }) : wpAny (model prog w) A (Builtin.«len» ⟨[.ref q], []⟩) (fun fin s' => ∃ r, fin = .done (.ret r) ∧ Q r s') E s := by
  have hT : s.TypeIs (.ref q) "collections.deque" := ⟨_, hq, rfl⟩
  unfold Builtin.«len»
  refine wpAny_bind (m := oneArg "len" _) (wpAny_pure ?_)
  refine wpAny_bind (m := callSpecial? (.ref q) (Str.ofString "__len__")) (wpAny_callSpecial?_slot (name := Str.ofString "__len__") hT dq_slot_len
    (wpAny_call_entry dq_slot_len hT dq_entry_len ?_ (dq_args _)))
  · unfold Builtin.«collections.deque.__len__»
    wp_walk
    refine ⟨_, rfl, ?_⟩
    show wpAny _ _ (do let n ← holding [_] (asIndex _); _) _ _ _
    refine wpAny_bind (wpAny_holding (wpAny_pure ?_))
    refine wpAny_bind (wpAny_letGo ?_)
    show wpAny _ _ (if (0 : Int) < 0 then _ else _) _ _ _
    rw [if_neg (by decide)]
    show wpAny _ _ (if (0 : Int) ≥ 2 ^ 63 then _ else _) _ _ _
    rw [if_neg (by decide)]
    exact wpAny_bind (wpAny_mkInt (wpAny_pure ⟨_, rfl, h⟩))
theorem dq_truthy {q : Addr} {Q : Bool → Shared → Prop} (hq : s.heap.get? q = some dqObj) (h : ∀ k, Q false ⟨s.heap, s.gens, s.drawn, k, s.os⟩) : wpAny (model prog w) A (truthy (.ref q)) Q E s := by
  have hT : s.TypeIs (.ref q) "collections.deque" := ⟨_, hq, rfl⟩
  have key : wpAny (model prog w) A (runValue (.builtin "len" ⟨[.ref q], []⟩)) (fun r s' => r = .int 0 (s.toks + 1) ∧ Q false s') E s := by
    refine wpAny_runValue (codeAny_builtin entry_len ?_)
    rw [Around.under_plainId plain_len _]
    exact wpAny_mono (dq_len (Q := fun r s' => r = .int 0 (s.toks + 1) ∧ Q false s') hq ⟨rfl, h _⟩)
      (fun fin s' h' => by obtain ⟨r, rfl, hq⟩ := h'; exact hq) fun _ _ e => e
  unfold truthy
  first
    | refine wpAny_bind (wpAny_callSpecial?_none (name := Str.ofString "__bool__") hT dq_noBool ?_)
    | refine wpAny_bind (wpAny_pure (wpAny_bind (wpAny_callSpecial?_none (name := Str.ofString "__bool__") hT dq_noBool ?_)))
  first
    | refine wpAny_bind (wpAny_specialOf (name := Str.ofString "__len__") hT dq_slot_len.lookup ?_)
    | refine wpAny_bind (wpAny_pure (wpAny_bind (wpAny_specialOf (name := Str.ofString "__len__") hT dq_slot_len.lookup ?_)))
  first
    | exact wpAny_bind (wpAny_mono key (fun r s' h' => by obtain ⟨rfl, hq⟩ := h'; exact wpAny_pure hq) fun _ _ e => e)
    | exact wpAny_bind (wpAny_pure (wpAny_bind (wpAny_mono key (fun r s' h' => by obtain ⟨rfl, hq⟩ := h'; exact wpAny_pure hq) fun _ _ e => e)))
theorem dq_mro : mroOf (.type "collections.deque") = pure [.type "collections.deque", .type "object"] := by rw [mroOf_type]; kernel_rfl
theorem dq_lookup_new : typeLookup (.type "collections.deque") "__new__" = pure (some (.builtin "collections.deque.__new__")) := by rw [typeLookup_type, builtinLookup_eq_fast]; kernel_rfl
theorem dq_slot_init : Slot "collections.deque" "__init__" "collections.deque.__init__" := .of (owner := "collections.deque") (n := "__init__") (by rw [typeLookup_type, builtinLookup_eq_fast]; kernel_rfl) (by decide +kernel) (by decide +kernel) (by decide +kernel)
    (by first | exact .inl (by decide +kernel) | exact .inr (by decide +kernel)) (by rw [isSubtype_type]; kernel_rfl)
theorem dq_entry_init : entryFor table "collections.deque.__init__" = some Builtin.«collections.deque.__init__» := by first | exact entryFor_of_fast (by kernel_rfl) | exact entryFor_of_tree (by kernel_rfl)
theorem dq_entry_new : entryFor table "collections.deque.__new__" = some Builtin.«collections.deque.__new__» := by first | exact entryFor_of_fast (by kernel_rfl) | exact entryFor_of_tree (by kernel_rfl)
theorem dq_args_init (a : Value) : argsOk "collections.deque.__init__" ⟨[a], []⟩ := by
  unfold argsOk; rw [signature?_of (id := "collections.deque.__init__") (n := ['_', '_', 't', 'i', 'n', 'i', '_', '_']) (o := ['e', 'u', 'q', 'e', 'd', '.', 's', 'n', 'o', 'i', 't', 'c', 'e', 'l', 'l', 'o', 'c']) (by kernel_rfl) dq_owner]; kernel_rfl
theorem dq_called : TypeCalled "collections.deque" "collections.deque.__new__" "collections.deque.__init__" :=
  ⟨by decide +kernel, by decide +kernel, ⟨_, _, dq_mro⟩, madeBy_type dq_mro dq_lookup_new (by decide +kernel), by decide +kernel, by rw [isSubtype_type]; kernel_rfl, dq_slot_init⟩
theorem dq_typeCall : checkTypeCall "collections.deque" ⟨[], []⟩ = pure () := by kernel_rfl
theorem dq_newCall : checkBuiltinCall "collections.deque.__new__" ⟨[.type "collections.deque"], []⟩ = pure () := by kernel_rfl
theorem dq_plain_new : plainId "collections.deque.__new__" = true := by decide +kernel
theorem dq_sub : isSubtype (.type "collections.deque") (.type "collections.deque") = pure true := by rw [isSubtype_type]; kernel_rfl
theorem dq_new {Q₁ : Value → Shared → Prop} (h : Q₁ (.ref s.heap.objs.size) { s with heap := s.heap.push dqObj }) :
    codeAny (model prog w) A (.call (.builtin "collections.deque.__new__") ⟨[.type "collections.deque"], []⟩) (wants Q₁ E) s := by
  refine codeAny_of_tree ?_
  show wpAny _ A.in1 (do checkBuiltinCall "collections.deque.__new__" ⟨[.type "collections.deque"], []⟩; again (.builtin "collections.deque.__new__" ⟨[.type "collections.deque"], []⟩)) _ _ s
  refine wpAny_bind (wpAny_of_eq dq_newCall (wpAny_pure ⟨plainId_quiet dq_plain_new _, codeAny_builtin dq_entry_new ?_⟩))
  rw [Around.under_plainId dq_plain_new _]
  have hsub := dq_sub
  obtain ⟨hp, g, d, tk, os⟩ := s
  unfold Builtin.«collections.deque.__new__» Builtin.Deque.newArgs Builtin.Deque.ty
  wp_walk
  exact h
theorem dq_call {Q : Value → Shared → Prop} (h : ∀ h', (∀ b o, s.heap.get? b = some o → h'.get? b = some o) → h'.get? s.heap.objs.size = some dqObj → Q (.ref s.heap.objs.size) { s with heap := h' }) :
    wpAny (model prog w) A (call (.type "collections.deque") []) Q E s := by
  refine callType_codes (Q₁ := fun obj s₁ => obj = .ref s.heap.objs.size ∧ s₁ = { s with heap := s.heap.push dqObj }) dq_called dq_typeCall dq_entry_init (dq_new ⟨rfl, rfl⟩) fun obj s₁ h₁ => ?_
  obtain ⟨rfl, rfl⟩ := h₁
  have hS : (s.heap.push dqObj).get? s.heap.objs.size = some dqObj := Heap.get?_push_size _ rfl
  refine ⟨⟨_, hS, rfl⟩, dq_args_init _, ?_⟩
  unfold Builtin.«collections.deque.__init__»
  wp_walk
  refine ⟨rfl, h _ (fun b o e => ?_) ?_⟩
  · exact (Heap.get?_update_other _ _ (Ne.symm (Nat.ne_of_lt (Heap.lt_size e)))).trans (Heap.get?_push_of_some _ e)
  · exact Heap.get?_update_self _ hS rfl
/-- deque(), in a frame -/
theorem dq_K {Q : Value → Shared → Prop} {g : Heap} {L : Addr} {m : Str → Option Value} {news : List (Addr × Obj)} (F : Fr g L s.heap m) (N : News g L s.heap news)
    (h : ∀ D h', Fr g L h' m → News g L h' ((D, dqObj) :: news) → (∀ q ∈ news, q.1 ≠ D) → L ≠ D → Q (.ref D) { s with heap := h' }) :
    wpAny (model prog w) A (call (.type "collections.deque") []) Q E s := by
  refine dq_call fun h' k e => ?_
  obtain ⟨o, _, _, ho, _⟩ := id F.ns
  have hL : L ≠ s.heap.objs.size := Nat.ne_of_lt (Heap.lt_size ho)
  have hg : g.get? s.heap.objs.size = none := by
    cases q : g.get? s.heap.objs.size with
    | none => rfl
    | some o => exact absurd (Heap.lt_size (F.keep _ _ q)) (Nat.lt_irrefl _)
  refine h _ h' (fr_of_stays F k) (fun q hq => ?_) (fun q hq => Nat.ne_of_lt (Heap.lt_size (N q hq).1)) hL
  rcases List.mem_cons.mp hq with rfl | hq
  · exact ⟨e, Ne.symm hL, hg⟩
  · exact ⟨k _ _ (N q hq).1, (N q hq).2⟩
end
end
section
variable {w : World} {p : Program} {loose : List Str} {mg mb : Str → Option Value}
local macro_rules | `(tactic| walk_at "exec If") => `(tactic| refine wpAny_If ?_)
local macro_rules | `(tactic| walk_at "truthy ref") => `(tactic| (k_here; refine dq_truthy (by with_reducible assumption) ?_; intro k'))
/-- what a token leaves -/
noncomputable def tokP (P : Params) (τ : Nat → Tok) (a da b db pb fs : Addr) (n1 n2 : Nat) (t1 t2 t3 tn : Tok) (buf : Str) (tb : Tok) (res : List Nat × Bool × Bool × List Nat) (r : Value) (led : List (Addr × Obj)) : Prop :=
  ∃ (pos' : Nat) (ln' : Int) (ts' tl' tt' tp' t : Tok), r = (if res.1 = [] ∧ res.2.1 = false then .none else .str ⟨res.1.toArray⟩ t) ∧ led = lexL P τ a da b db pb fs n1 n2 t1 t2 t3 tn buf tb (pos' : Nat) tp' (Md.val (if res.2.2.1 = true then .dn else .sp) ts') (.int ln' tl') (.str (Str.ofString "") tt') ∧ pos' ≤ buf.length ∧ buf.cps.toList.drop pos' = res.2.2.2 ∧ 0 ≤ ln' ∧ ln' ≤ pos' + 1
theorem c_gtok (τ : Nat → Tok) (a da b db pb fs : Addr) (n1 n2 : Nat) (t1 t2 t3 tn tb tp ts tl tt : Tok) (buf : Str) (pos : Nat) (ln : Int) (md0 : Md) (res : List Nat × Bool × Bool × List Nat) (hne : [a, da, b, db].Nodup) (hbl : buf.length ≤ 1000000) (hpl : pos ≤ buf.length) (hl0 : 0 ≤ ln) (hl1 : ln ≤ pos + 1)
    (hrun : lexRun md0 false [] (buf.cps.toList.drop pos) = some res) :
    Con w p loose mg mb 693 [.ref a] 12 180 (lexL w.params τ a da b db pb fs n1 n2 t1 t2 t3 tn buf tb pos tp (Md.val md0 ts) (.int ln tl) (.str (Str.ofString "") tt)) (fun H => H.get? pb = some dqObj ∧ H.get? fs = some dqObj)
      (tokP w.params τ a da b db pb fs n1 n2 t1 t2 t3 tn buf tb res) := by
  refine' Con.of_body [("self", .ref a)] ?ho ?hcd ?b1 ?b2 ?hb ?hl ?a1 ?a2 ?a3 ?a4 ?a5 ?hpre ?h
  case ho => k_is
  case hcd => k_is
  case hb => exact fun s X => BindsTo.of_eq rfl
  case hpre => exact fun h h' k q => ⟨k _ _ q.1, k _ _ q.2⟩
  all_goals try exact rfl
  case a4 => omega
  rintro A g L s Q F N hlt X T hh hd hu ⟨hpb, hfs⟩ hret
  have hpb1 := F.keep _ _ hpb
  (repeat' ((fail_if_success (with_reducible show wpAny _ _ (exec (Stmt.For _ _ _ _ _) _) _ _ _)); (fail_if_success (with_reducible show wpAny _ _ (exec (Stmt.While _ _ _ _) _) _ _ _)); (first | (k_unfold; (try dsimp only)) | walk1 | (dsimp only; walk1))))
  clear hpb1
  refine (c_rtok τ a da b db pb fs n1 n2 t1 t2 t3 tn tb tp ts tl tt buf pos ln md0 res hne hbl hpl hl0 hl1 hrun).use (rest := []) F N X T hh (by omega) (by omega) (fun _ h => absurd h List.not_mem_nil) trivial ?_
  rintro r4 h4 tk4 ns4 F4 N4 _ ⟨pos', ln', ts', tl', tt', tp', t, rfl, rfl, hpl', hdr', hl0', hl1'⟩
  rw [List.append_nil] at N4
  clear F N
  by_cases hz : res.1 = [] ∧ res.2.1 = false
  · rw [if_pos hz]
    (repeat' ((fail_if_success (with_reducible show wpAny _ _ (exec (Stmt.For _ _ _ _ _) _) _ _ _)); (fail_if_success (with_reducible show wpAny _ _ (exec (Stmt.While _ _ _ _) _) _ _ _)); (first | (k_unfold; (try dsimp only)) | walk1 | (dsimp only; walk1))))
    (with_reducible rename Fr _ _ _ _ => F5); (with_reducible rename News _ _ _ _ => N5)
    refine while_rule (fun n m news => m "self" = some (.ref a) ∧ m "raw" = some .none ∧ news = lexL w.params τ a da b db pb fs n1 n2 t1 t2 t3 tn buf tb (pos' : Nat) tp' (Md.val (if res.2.2.1 = true then .dn else .sp) ts') (.int ln' tl') (.str (Str.ofString "") tt')) 0 F5 N5 ⟨rfl, rfl, rfl⟩ ?_
    rintro n m₁ news₁ h₁ tk₁ Qt hQt Qe hQe F6 N6 ⟨hm1, hm2, rfl⟩
    have hfs1 := F6.keep _ _ hfs
    clear F5 N5
    (repeat' ((fail_if_success (with_reducible show wpAny _ _ (exec (Stmt.For _ _ _ _ _) _) _ _ _)); (fail_if_success (with_reducible show wpAny _ _ (exec (Stmt.While _ _ _ _) _) _ _ _)); (first | (k_unfold; (try dsimp only)) | walk1 | (dsimp only; walk1))))
    (with_reducible rename Fr _ _ _ _ => F7); (with_reducible rename News _ _ _ _ => N7)
    refine hQt _ _ ?_
    exact hret _ _ _ _ _ F7 N7 ⟨pos', ln', ts', tl', tt', tp', 0, (if_pos hz).symm, rfl, hpl', hdr', hl0', hl1'⟩
  · rw [if_neg hz]
    (repeat' ((fail_if_success (with_reducible show wpAny _ _ (exec (Stmt.For _ _ _ _ _) _) _ _ _)); (fail_if_success (with_reducible show wpAny _ _ (exec (Stmt.While _ _ _ _) _) _ _ _)); (first | (k_unfold; (try dsimp only)) | walk1 | (dsimp only; walk1))))
    (with_reducible rename Fr _ _ _ _ => F5); (with_reducible rename News _ _ _ _ => N5)
    (with_reducible rename Tok => tq)
    refine while_rule (fun n m news => m "self" = some (.ref a) ∧ (∃ tq, m "raw" = some (.str ⟨res.1.toArray⟩ tq)) ∧ news = lexL w.params τ a da b db pb fs n1 n2 t1 t2 t3 tn buf tb (pos' : Nat) tp' (Md.val (if res.2.2.1 = true then .dn else .sp) ts') (.int ln' tl') (.str (Str.ofString "") tt')) 0 F5 N5 ⟨rfl, ⟨_, rfl⟩, rfl⟩ ?_
    rintro n m₁ news₁ h₁ tk₁ Qt hQt Qe hQe F6 N6 ⟨hm1, ⟨tr, hm2⟩, rfl⟩
    clear F5 N5
    (repeat' ((fail_if_success (with_reducible show wpAny _ _ (exec (Stmt.For _ _ _ _ _) _) _ _ _)); (fail_if_success (with_reducible show wpAny _ _ (exec (Stmt.While _ _ _ _) _) _ _ _)); (first | (k_unfold; (try dsimp only)) | walk1 | (dsimp only; walk1))))
    refine hQe _ ?_
    (repeat' ((fail_if_success (with_reducible show wpAny _ _ (exec (Stmt.For _ _ _ _ _) _) _ _ _)); (fail_if_success (with_reducible show wpAny _ _ (exec (Stmt.While _ _ _ _) _) _ _ _)); (first | (k_unfold; (try dsimp only)) | walk1 | (dsimp only; walk1))))
    (with_reducible rename Fr _ _ _ _ => F7); (with_reducible rename News _ _ _ _ => N7)
    exact hret _ _ _ _ _ F7 N7 ⟨pos', ln', ts', tl', tt', tp', _, (if_neg hz).symm, rfl, hpl', hdr', hl0', hl1'⟩
end
section
noncomputable abbrev fsOf (outer : List Env) : List Addr := outer.filterMap (·.frame)
/-- what a call that raises within leaves of what stood: frames up to slots, mu not at all, all else as it was -/
structure Stood (fs mu : List Addr) (h h' : Heap) : Prop where
  other : ∀ b o, h.get? b = some o → b ∉ mu → b ∉ fs → h'.get? b = some o
  frame : ∀ b o, h.get? b = some o → b ∈ fs → ∃ sl, h'.get? b = some { o with slots := sl }
theorem funFrames_at {h g base : Heap} : ∀ {l : List Env}, (∀ b o, h.get? b = some o → b ∈ fsOf l → g.get? b = some o) → h.FunFrames base l → g.FunFrames base l
  | [], _, _ => trivial
  | env :: r, k, ⟨hk, ⟨L, o, hf, hn, ho, hd⟩, hr⟩ => ⟨hk, ⟨L, o, hf, hn, k L o ho (List.mem_filterMap.mpr ⟨env, .head _, hf⟩), hd⟩, funFrames_at (fun b o e m => k b o e (by
      obtain ⟨x, hx, q⟩ := List.mem_filterMap.mp m
      exact List.mem_filterMap.mpr ⟨x, .tail _ hx, q⟩)) hr⟩
section
variable {w : World} {p : Program} {loose : List Str} {mg mb : Str → Option Value}
variable {A A₀ : Around} {base g h h' : Heap} {outer : List Env} {L a : Addr} {m : Str → Option Value} {name : Str} {scope : Scope} {cd : Value} {mu : List Addr} {news : List (Addr × Obj)}
theorem below_push (K : Below A₀ base outer g) (hA : A.frames = some (envOf name scope L a cd :: outer)) (F : Fr g L h m) (hk : scope.kind = .function) : Below A base (envOf name scope L a cd :: outer) h := by
  have K' := K.push (name := name) (a := a) (cd := cd) F hk
  exact ⟨hA, K'.stays, K'.frames⟩
theorem mem_push {b : Addr} (m : b ∈ fsOf outer) : b ∈ fsOf (envOf name scope L a cd :: outer) := by
  obtain ⟨x, hx, q⟩ := List.mem_filterMap.mp m
  exact List.mem_filterMap.mpr ⟨x, .tail _ hx, q⟩
theorem self_push : L ∈ fsOf (envOf name scope L a cd :: outer) := List.mem_filterMap.mpr ⟨_, .head _, rfl⟩
theorem turn_frame (K : Below A₀ base outer g) (F : Fr g L h m) (S : Stood (fsOf (envOf name scope L a cd :: outer)) mu h h') (hmu : ∀ b ∈ mu, g.get? b = none) :
    ∃ g', KtsTurn (fsOf outer) g g' ∧ Fr g' L h' m ∧ Below A₀ base outer g' := by
  obtain ⟨T, k⟩ := kts_turn_at (h := h') (fs := fsOf outer) (g := g)
    (fun b hb => by
      obtain ⟨_, o, ho, _⟩ := K.frames.mem hb
      exact ⟨o, ho⟩)
    (fun b o e nm => S.other b o (F.keep b o e) (fun hm => by rw [hmu b hm] at e; cases e) fun hm => by
      rcases kts_mem hm with z | z
      · rw [z, kts_self F] at e; cases e
      · exact nm z)
    (fun b o e hm => S.frame b o (F.keep b o e) (mem_push hm))
  refine ⟨_, T, ⟨?_, k, by rw [T.size]; exact F.above⟩, ⟨K.stack, fun b o e => T.other b o (K.stays b o e) (fun hm => by
    rw [(K.frames.mem hm).1] at e; cases e), K.frames.of_keeps fun b o e _ => ?_⟩⟩
  · obtain ⟨o, es, ep, ho, hd, hk, hn⟩ := F.ns
    obtain ⟨sl, hs⟩ := S.frame L o ho self_push
    exact ⟨_, es, ep, hs, hd, hk, hn⟩
  · obtain ⟨sl, hs⟩ := T.up e
    exact ⟨_, hs, rfl⟩
theorem turn_news (K : Below A₀ base outer g) {g' : Heap} (T : KtsTurn (fsOf outer) g g') (N : News g L h news) (S : Stood (fsOf (envOf name scope L a cd :: outer)) mu h h') (hn : ∀ q ∈ news, q.1 ∉ mu) : News g' L h' news := fun q hq => by
  obtain ⟨h1, h2, h3⟩ := N q hq
  refine ⟨S.other _ _ h1 (hn q hq) fun hm => ?_, h2, T.none_ _ h3⟩
  rcases kts_mem hm with z | z
  · exact h2 z
  · obtain ⟨_, o, ho, _⟩ := K.frames.mem z
    rw [h3] at ho; cases ho
/-- a contract of a call that may raise and catch within -/
noncomputable def ConR (w : World) (p : Program) (loose : List Str) (mg mb : Str → Option Value) (f : Addr) (vs : List Value) (d u : Nat) (post : Value → List (Addr × Obj) → Prop) : Prop :=
  ∀ (A : Around) (s : Shared) (Q E : Value → Shared → Prop) (base : Heap) (outer : List Env), Below A base outer s.heap → (KK w.params).In base → TopRead p loose mg mb base → A.handled = none → A.depth + d < recursionLimit → A.units + u < cLine →
    (∀ r h' tk' ns, Stood (fsOf outer) [] s.heap h' → (∀ q ∈ ns, h'.get? q.1 = some q.2 ∧ s.heap.get? q.1 = none) → post r ns → Q r { s with heap := h', toks := tk' }) → wpAny (model PySem.Challenge.rw_mr0361_01.prog w) A (call (.ref f) vs) Q E s
theorem ConR.of_body {f : Addr} {vs : List Value} {d u : Nat} {post : Value → List (Addr × Obj) → Prop} {st st1 : Stmt} {rest : List Stmt} {name qual : String} {dV pm cdv : Value} {kd : ScopeKind} {names : List (Str × NameKind)} {ig ic : Bool} {more : List (Str × Const)} (binds : List (Str × Value))
    (ho : (KK w.params).lookup f = some ⟨.type "function", none, .func (fnAt st name qual dV pm cdv), #[]⟩) (hcd : codeIn (KK w.params) cdv (Str.ofString qual) = true)
    (hbody : dBody st = st1 :: rest) (hscope : dScope st = ⟨kd, names, ig, ic, more⟩)
    (hbind : ∀ s : Shared, (KK w.params).In s.heap → BindsTo s (fnAt st name qual dV pm cdv) ⟨vs, []⟩ binds) (hloc : (binds.all fun x => decide (names.lookup x.1 = some .local)) = true)
    (hco : ic = false) (hgen : ig = false) (hk : kd = .function) (hd : 0 < d)
    (hcell : (names.all fun x => decide (x.2 ≠ .cell)) = true)
    (h : ∀ (A₀ A : Around) (base g : Heap) (outer : List Env) (L : Addr) (s : Shared) (Q : Flow → Shared → Prop), A.frames = some (envOf (Str.ofString qual) ⟨kd, names, ig, ic, more⟩ L f cdv :: outer) → Below A₀ base outer g → Fr g L s.heap (fun y => binds.reverse.lookup y) → News g L s.heap [] → (KK w.params).In base → TopRead p loose mg mb base → (KK w.params).In g → TopRead p loose mg mb g → A.handled = none → A.depth + d < recursionLimit + 1 → A.units + u < cLine + 3 →
      (∀ v h' tk' m ns g', KtsTurn (fsOf outer) g g' → Fr g' L h' m → News g' L h' ns → post v ns → Q (.ret v) { s with heap := h', toks := tk' }) →
      wpAny (model PySem.Challenge.rw_mr0361_01.prog w) A (execs (st1 :: rest) (envOf (Str.ofString qual) ⟨kd, names, ig, ic, more⟩ L f cdv)) Q (fun _ _ => False) s) : ConR w p loose mg mb f vs d u post := by
  intro A s Q E base outer K Xb Tb hh hroom hun hret
  have Xs := Xb.keeps K.stays
  have hb := hbind s Xs
  unfold fnAt at ho hb
  rw [hbody, hscope] at ho hb
  refine wpAny_call (enterN (news := []) K.stays Xb Tb (fun _ hq => nomatch hq) ho hcd (by omega) hb (locs hloc) (fun g L' h₁ st hg F N X' T' hlt => ?_) hco hgen hk (fun x hx => of_decide_eq_true (List.all_eq_true.mp hcell x hx)))
  have hg' : ∀ b o, s.heap.get? b = some o → g.get? b = some o := fun b o e => hg b o e (fun q => nomatch q)
  have Kg : Below A base outer g := ⟨K.stack, st, funFrames_at (fun b o e _ => hg' b o e) K.frames⟩
  refine wpAny_mono (h A (A.deeper _) base g outer L' _ _ (Around.frames_deeper K.stack) Kg F N Xb Tb X' T' hh (by show A.depth + 1 + d < _; omega) (by show A.units + 3 + u < _; omega) fun v h' tk' m ns g' T F' N' hq => ?_) (fun _ _ q => q) fun _ _ q => q.elim
  refine hret v h' tk' ns ⟨fun b o e _ nf => F'.keep b o (T.other b o (hg' b o e) nf), fun b o e hf => ?_⟩ (fun q hq' => ⟨(N' q hq').1, ?_⟩) hq
  · obtain ⟨sl, e'⟩ := T.frame b o (hg' b o e) hf
    exact ⟨sl, F'.keep _ _ e'⟩
  · cases e : s.heap.get? q.1 with
    | none => rfl
    | some o =>
      obtain ⟨sl, e'⟩ := T.up (hg' _ _ e)
      rw [(N' q hq').2.2] at e'; cases e'
theorem ConR.use {f fa : Addr} {vs : List Value} {d u : Nat} {post : Value → List (Addr × Obj) → Prop} {s : Shared} {Q E : Value → Shared → Prop}
    (C : ConR w p loose mg mb f vs d u post) (K : Below A₀ base outer g) (hA : A.frames = some (envOf name scope L fa cd :: outer)) (hk : scope.kind = .function) (F : Fr g L s.heap m) (N : News g L s.heap news) (Xb : (KK w.params).In base) (Tb : TopRead p loose mg mb base) (hh : A.handled = none) (hd : A.depth + d < recursionLimit) (hu : A.units + u < cLine)
    (h : ∀ r h' tk' ns g', KtsTurn (fsOf outer) g g' → Below A₀ base outer g' → Fr g' L h' m → News g' L h' (ns ++ news) → (∀ q ∈ ns, ∀ r ∈ news, q.1 ≠ r.1) → (KK w.params).In g' → TopRead p loose mg mb g' → post r ns → Q r { s with heap := h', toks := tk' }) : wpAny (model PySem.Challenge.rw_mr0361_01.prog w) A (call (.ref f) vs) Q E s := by
  refine C A s Q E base _ (below_push K hA F hk) Xb Tb hh hd hu fun r h' tk' ns S hns hp => ?_
  obtain ⟨g', T, F', K'⟩ := turn_frame K F S (fun _ hm => nomatch hm)
  have N' := turn_news K T N S (fun _ _ hm => nomatch hm)
  have fresh : ∀ q ∈ ns, s.heap.get? q.1 = none := fun q hq => (hns q hq).2
  refine h r h' tk' ns g' T K' F' (fun q hq => ?_) (fun q hq r hr e => ?_) (Xb.keeps K'.stays) (Tb.keeps K'.stays) hp
  · rcases List.mem_append.mp hq with hq | hq
    · refine ⟨(hns q hq).1, fun e => ?_, T.none_ _ (kts_none F.keep (fresh q hq))⟩
      obtain ⟨o, _, _, ho, _⟩ := F.ns
      have := fresh q hq
      rw [e, ho] at this; cases this
    · exact N' q hq
  · have := fresh q hq
    rw [e, (N r hr).1] at this; cases this
/-- the entry of a def, its names written out -/
theorem call_body {s : Shared} {Q E : Value → Shared → Prop} {H : Heap} {news : List (Addr × Obj)} {f : Addr} {vs : List Value} {st st1 : Stmt} {rest : List Stmt} {name qual : String} {dV pm cdv : Value} {kd : ScopeKind} {names : List (Str × NameKind)} {ig ic : Bool} {more : List (Str × Const)} (binds : List (Str × Value))
    (hH : H.StaysIn s.heap) (X : (KK w.params).In H) (T : TopRead p loose mg mb H) (hN : ∀ q ∈ news, s.heap.get? q.1 = some q.2 ∧ H.get? q.1 = none) (hroom : A.depth < recursionLimit)
    (ho : (KK w.params).lookup f = some ⟨.type "function", none, .func (fnAt st name qual dV pm cdv), #[]⟩) (hcd : codeIn (KK w.params) cdv (Str.ofString qual) = true)
    (hbody : dBody st = st1 :: rest) (hscope : dScope st = ⟨kd, names, ig, ic, more⟩)
    (hbind : ∀ s : Shared, (KK w.params).In s.heap → BindsTo s (fnAt st name qual dV pm cdv) ⟨vs, []⟩ binds) (hloc : (binds.all fun x => decide (names.lookup x.1 = some .local)) = true)
    (hco : ic = false) (hgen : ig = false) (hk : kd = .function)
    (hcell : (names.all fun x => decide (x.2 ≠ .cell)) = true)
    (h : ∀ g L' h₁, H.StaysIn g → (∀ b o, s.heap.get? b = some o → b ∉ news.map (·.1) → g.get? b = some o) → Fr g L' h₁ (fun y => binds.reverse.lookup y) → News g L' h₁ news → (KK w.params).In g → TopRead p loose mg mb g → (∀ q ∈ news, q.1 < L') →
      wpAny (model PySem.Challenge.rw_mr0361_01.prog w) (A.deeper (envOf (Str.ofString qual) ⟨kd, names, ig, ic, more⟩ L' f cdv)) (execs (st1 :: rest) (envOf (Str.ofString qual) ⟨kd, names, ig, ic, more⟩ L' f cdv)) (fun fl s' => Q (match fl with | .ret v => v | _ => .none) s')
        (fun e s' => wpAny (model PySem.Challenge.rw_mr0361_01.prog w) (A.deeper (envOf (Str.ofString qual) ⟨kd, names, ig, ic, more⟩ L' f cdv)) (leaving (envOf (Str.ofString qual) ⟨kd, names, ig, ic, more⟩ L' f cdv) e) (fun _ s'' => E e s'') (fun e' s'' => E e' s'') s') { s with heap := h₁, toks := s.toks + binds.length }) :
    wpAny (model PySem.Challenge.rw_mr0361_01.prog w) A (call (.ref f) vs) Q E s := by
  have hb := hbind s (X.keeps hH)
  unfold fnAt at ho hb
  rw [hbody, hscope] at ho hb
  exact wpAny_call (enterN (news := news) hH X T hN ho hcd hroom hb (locs hloc) (fun g L' h₁ st hg F N X' T' hlt => h g L' h₁ st hg F N X' T' hlt) hco hgen hk (fun x hx => of_decide_eq_true (List.all_eq_true.mp hcell x hx)))
end
end
section
variable {w : World} {p : Program} {loose : List Str} {mg mb : Str → Option Value}
local macro_rules | `(tactic| walk_at "exec If") => `(tactic| refine wpAny_If ?_)
noncomputable abbrev lexA (a da b db : Addr) : List Addr := [a, da, b, db]
theorem c_next (τ : Nat → Tok) (a da b db pb fs : Addr) (n1 n2 : Nat) (t1 t2 t3 tn tb tp ts tl tt : Tok) (buf : Str) (pos : Nat) (ln : Int) (md0 : Md) (res : List Nat × Bool × Bool × List Nat) (hne : [a, da, b, db].Nodup) (hbl : buf.length ≤ 1000000) (hpl : pos ≤ buf.length) (hl0 : 0 ≤ ln) (hl1 : ln ≤ pos + 1)
    (hrun : lexRun md0 false [] (buf.cps.toList.drop pos) = some res) {A : Around} {s : Shared} {Q E : Value → Shared → Prop} {base : Heap} {outer : List Env} (K : Below A base outer s.heap) (Xb : (KK w.params).In base) (Tb : TopRead p loose mg mb base) (hh : A.handled = none) (hd : A.depth + 14 < recursionLimit) (hu : A.units + 240 < cLine)
    (hm : ∀ q ∈ lexL w.params τ a da b db pb fs n1 n2 t1 t2 t3 tn buf tb pos tp (Md.val md0 ts) (.int ln tl) (.str (Str.ofString "") tt), s.heap.get? q.1 = some q.2 ∧ base.get? q.1 = none ∧ q.1 ∉ fsOf outer) (hpb : s.heap.get? pb = some dqObj) (hfs : s.heap.get? fs = some dqObj) (hpn : pb ∉ lexA a da b db ∧ fs ∉ lexA a da b db)
    (hret : ¬(res.1 = [] ∧ res.2.1 = false) → ∀ r h' tk' ns, (∀ b' o, s.heap.get? b' = some o → b' ∉ lexA a da b db → h'.get? b' = some o) → (∀ q ∈ ns, h'.get? q.1 = some q.2) → tokP w.params τ a da b db pb fs n1 n2 t1 t2 t3 tn buf tb res r ns → Q r { s with heap := h', toks := tk' })
    (hexc : (res.1 = [] ∧ res.2.1 = false) → ∀ e h' tk', Stood (fsOf outer) (lexA a da b db) s.heap h' → s.heap.get? e = none → (∃ o, h'.get? e = some o ∧ o.cls = .type "StopIteration") → E (.ref e) { s with heap := h', toks := tk' }) :
    wpAny (model PySem.Challenge.rw_mr0361_01.prog w) A (call (.ref 729) [.ref a]) Q E s := by
  refine' call_body (news := lexL w.params τ a da b db pb fs n1 n2 t1 t2 t3 tn buf tb pos tp (Md.val md0 ts) (.int ln tl) (.str (Str.ofString "") tt)) [("self", .ref a)] K.stays Xb Tb (fun q hq => ⟨(hm q hq).1, (hm q hq).2.1⟩) (by omega) ?ho ?hcd ?b1 ?b2 ?hb ?hl ?a1 ?a2 ?a3 ?a5 ?h
  case ho => k_is
  case hcd => k_is
  case hb => exact fun s X => BindsTo.of_eq rfl
  all_goals try exact rfl
  intro g L h₁ st hg F N X T hlt
  have hg' : ∀ b' o, s.heap.get? b' = some o → b' ∉ lexA a da b db → g.get? b' = some o := fun b' o e nm => hg b' o e nm
  have hfr : ∀ b' ∈ fsOf outer, b' ∉ lexA a da b db := fun b' hb hq => by
    obtain ⟨q, hq1, rfl⟩ := List.mem_map.mp (show b' ∈ (lexL w.params τ a da b db pb fs n1 n2 t1 t2 t3 tn buf tb pos tp (Md.val md0 ts) (.int ln tl) (.str (Str.ofString "") tt)).map (·.1) from hq)
    exact (hm q hq1).2.2 hb
  have Kg : Below A base outer g := ⟨K.stack, st, funFrames_at (fun b' o e hf => hg' b' o e (hfr b' hf)) K.frames⟩
  have hpb' := hg' _ _ hpb hpn.1
  have hfs' := hg' _ _ hfs hpn.2
  (repeat' ((fail_if_success (with_reducible show wpAny _ _ (exec (Stmt.For _ _ _ _ _) _) _ _ _)); (fail_if_success (with_reducible show wpAny _ _ (exec (Stmt.While _ _ _ _) _) _ _ _)); (first | (k_unfold; (try dsimp only)) | walk1 | (dsimp only; walk1))))
  refine (c_gtok τ a da b db pb fs n1 n2 t1 t2 t3 tn tb tp ts tl tt buf pos ln md0 res hne hbl hpl hl0 hl1 hrun).use (rest := []) F N X T hh (by show A.depth + 1 + 12 < _; omega) (by show A.units + 3 + 180 < _; omega) (fun _ h => absurd h List.not_mem_nil) ⟨hideAll_get _ (F.keep _ _ hpb') hpn.1, hideAll_get _ (F.keep _ _ hfs') hpn.2⟩ ?_
  rintro r4 h4 tk4 ns4 F4 N4 _ hp4
  obtain ⟨pos', ln', ts', tl', tt', tp', t, hr, hled, hp5⟩ := id hp4
  subst hr
  subst hled
  rw [List.append_nil] at N4
  clear F N
  by_cases hz : res.1 = [] ∧ res.2.1 = false
  · rw [if_pos hz]
    (repeat' ((fail_if_success (with_reducible show wpAny _ _ (exec (Stmt.For _ _ _ _ _) _) _ _ _)); (fail_if_success (with_reducible show wpAny _ _ (exec (Stmt.While _ _ _ _) _) _ _ _)); (first | (k_unfold; (try dsimp only)) | walk1 | (dsimp only; walk1))))
    (with_reducible rename Fr _ _ _ _ => F5); (with_reducible rename News _ _ _ _ => N5)
    refine' owsi_raiseC hh ?hx ?_
    case hx =>
      refine' name_B F5 X T ?k3 ?k4 ?k5 ?_
      case k3 => k_is
      case k4 => boot_by_name
      case k5 => decide
      exact ⟨rfl, rfl⟩
    intro h6 e6 hx6
    refine leave_raiseS Kg hx6.of F5 N5 (fun h7 t7 R7 _ up7 => ?_)
    obtain ⟨⟨B, hB, hBG, hl, hfl, hnew⟩, htup⟩ := R7
    have hen : g.get? e6 = none := kts_none F5.keep hx6.new
    refine hexc hz e6 h7 _ ⟨fun b' o e nm nf => hfl.1 _ _ (hBG b' o (hg' b' o e nm) nf), fun b' o e hf => ?_⟩ ?_ ?_
    · obtain ⟨_, o', ho', hd'⟩ := Kg.frames.mem hf
      have e' := hg' b' o e (hfr b' hf)
      rw [e'] at ho'
      cases ho'
      exact up7 b' o e' hd'
    · cases e : s.heap.get? e6 with
      | none => rfl
      | some o =>
        exfalso
        by_cases hm6 : e6 ∈ lexA a da b db
        · obtain ⟨q, hq1, hq2⟩ := List.mem_map.mp (show e6 ∈ (lexL w.params τ a da b db pb fs n1 n2 t1 t2 t3 tn buf tb (pos' : Nat) tp' (Md.val (if res.2.2.1 = true then .dn else .sp) ts') (.int ln' tl') (.str (Str.ofString "") tt')).map (·.1) from hm6)
          have := (N5 q hq1).1
          rw [hq2, hx6.new] at this; cases this
        · rw [hg' _ _ e hm6] at hen; cases hen
    · obtain ⟨oe, vs, h8, h9, _⟩ := hfl.first
      exact ⟨oe, h8, h9⟩
  · rw [if_neg hz]
    (repeat' ((fail_if_success (with_reducible show wpAny _ _ (exec (Stmt.For _ _ _ _ _) _) _ _ _)); (fail_if_success (with_reducible show wpAny _ _ (exec (Stmt.While _ _ _ _) _) _ _ _)); (first | (k_unfold; (try dsimp only)) | walk1 | (dsimp only; walk1))))
    (with_reducible rename Fr _ _ _ _ => F5); (with_reducible rename News _ _ _ _ => N5)
    exact hret hz _ _ _ _ (fun b' o e nm => F5.keep _ _ (hg' b' o e nm)) (fun q hq => (N5 q hq).1) ⟨pos', ln', ts', tl', tt', tp', _, (if_neg hz).symm, rfl, hp5⟩
end
section
variable {w : World} {p : Program} {loose : List Str} {mg mb : Str → Option Value}
/-- the words that the lexer gives from here to the end -/
inductive Lexes : Md → List Nat → List Str → Prop
  | done {md : Md} {l l' : List Nat} {e : Bool} : lexRun md false [] l = some ([], false, e, l') → Lexes md l []
  | more {md : Md} {l tok l' : List Nat} {q e : Bool} {ws : List Str} : lexRun md false [] l = some (tok, q, e, l') → ¬(tok = [] ∧ q = false) → Lexes (if e = true then .dn else .sp) l' ws → Lexes md l (⟨tok.toArray⟩ :: ws)
noncomputable abbrev seqOf (xs : Array Value) (c : Nat) : Obj := { cls := .type "list", dict := none, data := .seq xs c, slots := #[] }
theorem stood_trans {fs mu : List Addr} {h h₁ h₂ : Heap} (hf : ∀ b ∈ fs, b ∉ mu) (x : ∀ b o, h.get? b = some o → b ∉ mu → h₁.get? b = some o) (y : Stood fs mu h₁ h₂) : Stood fs mu h h₂ :=
  ⟨fun b o e nm nf => y.other b o (x b o e nm) nm nf, fun b o e hb => y.frame b o (x b o e (hf b hb)) hb⟩
theorem inst_at {h : Heap} {x C dx : Addr} {o : Obj} (h1 : h.get? x = some (instObj C dx)) (h2 : h.get? dx = some o) : InstAt h x (instObj C dx) C (some o) := ⟨h1, rfl, rfl, h2⟩
theorem lex_loop {base g : Heap} {A₀ A : Around} {outer : List Env} {L fa : Addr} {m : Str → Option Value} {name : Str} {scope : Scope} {cd : Value} (τ : Nat → Tok) {a da b db pb fs S : Addr} {n1 n2 : Nat} {t1 t2 t3 tn tb : Tok} {buf : Str} (hne : [a, da, b, db].Nodup) (hbl : buf.length ≤ 1000000)
    (K : Below A₀ base outer g) (hA : A.frames = some (envOf name scope L fa cd :: outer)) (hk : scope.kind = .function) (Xb : (KK w.params).In base) (Tb : TopRead p loose mg mb base) (X : (KK w.params).In g) (hh : A.handled = none) (hd : A.depth + 14 < recursionLimit) (hu : A.units + 300 < cLine) (hpn : pb ∉ lexA a da b db ∧ fs ∉ lexA a da b db) (hS : S ∉ [a, da, b, db, pb, fs]) (res : Value) :
    ∀ {md : Md} {l : List Nat} {ws : List Str}, Lexes md l ws → ∀ (pos : Nat) (ln : Int) (tp ts tl tt : Tok) (acc : Array Value) (c : Nat) (s : Shared) (R : Result → Shared → Prop), buf.cps.toList.drop pos = l → pos ≤ buf.length → 0 ≤ ln → ln ≤ pos + 1 → acc.size + ws.length ≤ 1000000 →
      Fr g L s.heap m → News g L s.heap ((S, seqOf acc c) :: (lexL w.params τ a da b db pb fs n1 n2 t1 t2 t3 tn buf tb pos tp (Md.val md ts) (.int ln tl) (.str (Str.ofString "") tt) ++ [(pb, dqObj), (fs, dqObj)])) →
      (∀ h' tk' vs c', Stood (fsOf (envOf name scope L fa cd :: outer)) (S :: lexA a da b db) s.heap h' → h'.get? S = some (seqOf (acc ++ vs.toArray) c') → StrsAre vs ws → R (.ok (.ret res)) { s with heap := h', toks := tk' }) →
      codeAny (model PySem.Challenge.rw_mr0361_01.prog w) A (.builtin "list.extend.loop" ⟨[.ref S, .ref a, res], []⟩) R s := by
  intro md l ws hlex
  have hdis : ∀ (news : List (Addr × Obj)) (h : Heap), News g L h news → ∀ q ∈ news, q.1 ∉ fsOf (envOf name scope L fa cd :: outer) := fun news h N q hq hm => by
    rcases kts_mem hm with z | z
    · exact (N q hq).2.1 z
    · obtain ⟨_, o, ho, _⟩ := K.frames.mem z
      rw [(N q hq).2.2] at ho; cases ho
  have hSl : S ∉ lexA a da b db := fun q => hS (by
    simp only [List.mem_cons, List.not_mem_nil, or_false] at q ⊢
    rcases q with h | h | h | h <;> simp [h])
  have hSpb : S ≠ pb := fun q => hS (by simp [q])
  have hSfs : S ≠ fs := fun q => hS (by simp [q])
  induction hlex with
  | @done md l l' e hrun =>
    intro pos ln tp ts tl tt acc c s R hl hpl hl0 hl1 hsz F N hR
    subst hl
    have K' := below_push K hA F hk
    refine codeAny_builtin PySem.F.entry_extend_loop ?_
    rw [Around.under_plainId PySem.F.plain_extend_loop _]
    show wpAny _ A.in1 (pyNext (.ref a) >>= _) _ _ s
    refine wpAny_bind (owit_next (K := KK w.params) F X (inst_at (N.get (.tail _ (.head _))) (N.get (.tail _ (.tail _ (.head _))))) (f := 729) (by k_is) (by k_is) ?_)
    refine c_next τ a da b db pb fs n1 n2 t1 t2 t3 tn tb tp ts tl tt buf pos ln md _ hne hbl hpl hl0 hl1 hrun (A := A.in1) ⟨K'.stack, K'.stays, K'.frames⟩ Xb Tb hh (by show A.depth + 14 < _; omega) (by show A.units + 1 + 240 < _; omega) (fun q hq => ⟨(N q (.tail _ (List.mem_append_left _ hq))).1, kts_none K.stays (N q (.tail _ (List.mem_append_left _ hq))).2.2, hdis _ _ N q (.tail _ (List.mem_append_left _ hq))⟩) (N (pb, dqObj) (.tail _ (List.mem_append_right _ (.head _)))).1 (N (fs, dqObj) (.tail _ (List.mem_append_right _ (.tail _ (.head _))))).1 hpn (fun hz => absurd ⟨rfl, rfl⟩ hz) ?_
    intro _ e6 h6 tk6 S6 _ ⟨oe, ho, hc⟩
    unfold OwitStop
    refine wpAny_isInstance (T := "StopIteration") (show ∃ o, h6.get? e6 = some o ∧ o.cls = .type "StopIteration" from ⟨oe, ho, hc⟩) owsi_facts.sub ?_
    rw [if_pos rfl]
    refine wpAny_pure ?_
    refine hR h6 tk6 [] c ⟨fun b' o e nm nf => S6.other b' o e (fun q => nm (.tail _ q)) nf, S6.frame⟩ ?_ .nil
    have := S6.other S _ (N (S, seqOf acc c) (.head _)).1 hSl (hdis _ _ N _ (.head _))
    simpa using this
  | @more md l tok l' q e ws hrun hnz hrest ih =>
    intro pos ln tp ts tl tt acc c s R hl hpl hl0 hl1 hsz F N hR
    subst hl
    have K' := below_push K hA F hk
    refine codeAny_builtin PySem.F.entry_extend_loop ?_
    rw [Around.under_plainId PySem.F.plain_extend_loop _]
    show wpAny _ A.in1 (pyNext (.ref a) >>= _) _ _ s
    refine wpAny_bind (owit_next (K := KK w.params) F X (inst_at (N.get (.tail _ (.head _))) (N.get (.tail _ (.tail _ (.head _))))) (f := 729) (by k_is) (by k_is) ?_)
    refine c_next τ a da b db pb fs n1 n2 t1 t2 t3 tn tb tp ts tl tt buf pos ln md _ hne hbl hpl hl0 hl1 hrun (A := A.in1) ⟨K'.stack, K'.stays, K'.frames⟩ Xb Tb hh (by show A.depth + 14 < _; omega) (by show A.units + 1 + 240 < _; omega) (fun q hq => ⟨(N q (.tail _ (List.mem_append_left _ hq))).1, kts_none K.stays (N q (.tail _ (List.mem_append_left _ hq))).2.2, hdis _ _ N q (.tail _ (List.mem_append_left _ hq))⟩) (N (pb, dqObj) (.tail _ (List.mem_append_right _ (.head _)))).1 (N (fs, dqObj) (.tail _ (List.mem_append_right _ (.tail _ (.head _))))).1 hpn ?_ (fun hz => absurd hz hnz)
    rintro _ r6 h6 tk6 ns6 k6 hns6 ⟨pos', ln', ts', tl', tt', tp', t, rfl, rfl, hpl', hdr', hl0', hl1'⟩
    rw [if_neg hnz]
    dsimp only at hdr' hns6
    have hS6 := k6 S _ (N (S, seqOf acc c) (.head _)).1 hSl
    show wpAny _ A.in1 (updateSeq S (·.push _) >>= _) _ _ _
    refine wpAny_bind (wpAny_updateSeq hS6 rfl ?_ (by rw [sizeLine_eq]; simp only [List.length_cons] at hsz; omega) (by rw [sizeLine_eq]; simp only [List.length_cons] at hsz; show (acc.push _).size ≤ _; rw [Array.size_push]; omega))
    have hS7 := Heap.get?_update_self (Obj.mapSeq (·.push (Value.str ⟨tok.toArray⟩ t))) hS6 rfl
    obtain ⟨c7, hS7⟩ : ∃ c7, (h6.update S (Obj.mapSeq (·.push (Value.str ⟨tok.toArray⟩ t)))).get? S = some (seqOf (acc.push (Value.str ⟨tok.toArray⟩ t)) c7) := ⟨_, hS7⟩
    have oth : ∀ b' o, b' ≠ S → h6.get? b' = some o → (h6.update S (Obj.mapSeq (·.push (Value.str ⟨tok.toArray⟩ t)))).get? b' = some o := fun b' o hb e => (Heap.get?_update_other _ _ (Ne.symm hb)).trans e
    have all7 : ∀ b' o, s.heap.get? b' = some o → b' ∉ S :: lexA a da b db → (h6.update S (Obj.mapSeq (·.push (Value.str ⟨tok.toArray⟩ t)))).get? b' = some o := fun b' o e nm => oth b' o (fun q => nm (q ▸ .head _)) (k6 b' o e fun q => nm (.tail _ q))
    have hLn : L ∉ S :: lexA a da b db := fun q => by
      rcases List.mem_cons.mp q with z | z
      · exact (N (S, seqOf acc c) (.head _)).2.1 z.symm
      · obtain ⟨x, hx1, hx2⟩ := List.mem_map.mp (show L ∈ (lexL w.params τ a da b db pb fs n1 n2 t1 t2 t3 tn buf tb pos tp (Md.val md ts) (.int ln tl) (.str (Str.ofString "") tt)).map (·.1) from z)
        exact (N x (.tail _ (List.mem_append_left _ hx1))).2.1 hx2
    have hgn : ∀ b' ∈ S :: lexA a da b db, g.get? b' = none := fun b' q => by
      rcases List.mem_cons.mp q with z | z
      · rw [z]; exact (N (S, seqOf acc c) (.head _)).2.2
      · obtain ⟨x, hx1, hx2⟩ := List.mem_map.mp (show b' ∈ (lexL w.params τ a da b db pb fs n1 n2 t1 t2 t3 tn buf tb pos tp (Md.val md ts) (.int ln tl) (.str (Str.ofString "") tt)).map (·.1) from z)
        rw [← hx2]; exact (N x (.tail _ (List.mem_append_left _ hx1))).2.2
    have F7 : Fr g L (h6.update S (Obj.mapSeq (·.push (Value.str ⟨tok.toArray⟩ t)))) m := ⟨F.ns.at' fun o e => all7 _ o e hLn, fun b' o e => all7 b' o (F.keep b' o e) (fun q => by rw [hgn b' q] at e; cases e), F.above⟩
    refine wpAny_pure ⟨plainId_quiet PySem.F.plain_extend_loop _, ih pos' ln' tp' ts' tl' tt' (acc.push (Value.str ⟨tok.toArray⟩ t)) c7 { s with heap := h6.update S (Obj.mapSeq (·.push (Value.str ⟨tok.toArray⟩ t))), toks := tk6 } R hdr' hpl' hl0' hl1' (by rw [Array.size_push]; simp only [List.length_cons] at hsz; omega) F7 ?_ ?_⟩
    · intro q hq
      rcases List.mem_cons.mp hq with rfl | hq
      · exact ⟨hS7, (N (S, seqOf acc c) (.head _)).2⟩
      · rcases List.mem_append.mp hq with hq | hq
        · have hq1 : q.1 ∈ lexA a da b db := List.mem_map_of_mem (f := (·.1)) hq
          refine ⟨oth _ _ (fun z => hSl (z ▸ hq1)) (hns6 q hq), fun z => hLn (.tail _ (z ▸ hq1)), hgn _ (.tail _ hq1)⟩
        · have hq1 := N q (.tail _ (List.mem_append_right _ hq))
          refine ⟨all7 _ _ hq1.1 ?_, hq1.2⟩
          intro z
          rcases List.mem_cons.mp hq with rfl | hq
          · rcases List.mem_cons.mp z with z | z
            · exact hSpb z.symm
            · exact hpn.1 z
          · rcases List.mem_singleton.mp hq with rfl
            rcases List.mem_cons.mp z with z | z
            · exact hSfs z.symm
            · exact hpn.2 z
    · intro h' tk' vs c' S7 hS' hvs
      refine hR h' tk' (Value.str ⟨tok.toArray⟩ t :: vs) c' (stood_trans (fun b' hb hm => ?_) all7 S7) ?_ (.cons _ _ hvs)
      · rcases List.mem_cons.mp hm with z | z
        · exact hdis _ _ N (S, seqOf acc c) (.head _) (z ▸ hb)
        · obtain ⟨x, hx1, hx2⟩ := List.mem_map.mp (show b' ∈ (lexL w.params τ a da b db pb fs n1 n2 t1 t2 t3 tn buf tb pos tp (Md.val md ts) (.int ln tl) (.str (Str.ofString "") tt)).map (·.1) from z)
          exact hdis _ _ N x (.tail _ (List.mem_append_left _ hx1)) (hx2 ▸ hb)
      · rw [hS']
        simp
end
section
variable {w : World} {p : Program} {loose : List Str} {mg mb : Str → Option Value}
theorem put_new {name : Str} {hs : Int} {key v : Value} {es : List DictEntry} {n : Nat} (hn : es.all (fun e => !e.key.isStr name) = true) : (putL name hs key v es, putN name es n) = (es ++ [⟨hs, key, v⟩], n + 1) := by
  have h2 : putN name es n = n + 1 := by
    unfold putN
    rw [if_neg]
    intro h
    obtain ⟨e, he, hk⟩ := List.any_eq_true.mp h
    have := List.all_eq_true.mp hn e he
    rw [hk] at this; cases this
  have h1 : ∀ es : List DictEntry, es.all (fun e => !e.key.isStr name) = true → putL name hs key v es = es ++ [⟨hs, key, v⟩] := by
    intro es
    induction es with
    | nil => intro _; rfl
    | cons e r ih =>
      intro h
      rw [List.all_cons] at h
      obtain ⟨ha, hb⟩ := Bool.and_eq_true_iff.mp h
      rw [putL, if_neg (by intro q; rw [q] at ha; cases ha), ih hb]
      rfl
  rw [h1 es hn, h2]
/-- a store of a new attribute -/
theorem set_new {A : Around} {E : Value → Shared → Prop} {s : Shared} {K : Frag} {x C dx L : Addr} {h₀ : Heap} {m : Str → Option Value} {news : List (Addr × Obj)} {news' : Tok → List (Addr × Obj)} {ox : Obj} {es : List DictEntry} {n : Nat} {name : String} {v : Value} {Q : Unit → Shared → Prop} (F : Fr h₀ L s.heap m) (X₀ : K.In h₀) (N : News h₀ L s.heap news) (I : InstAt s.heap x ox C (some (dictOf es n))) (hd : ox.dict = some dx)
    (hs : findIn K (.ref C) "__setattr__" = some (some (.builtin "object.__setattr__"))) (hp : plainOver K C = true) (ht : takerIn K C (Str.ofString name) = some none) (hh : hasDictIn K C = true) (hl : (getL (Str.ofString name) es).isSome = true)
    (hn : es.all (fun e => !e.key.isStr (Str.ofString name)) = true) (U : ∀ t, Upd dx (dictOf es n) (dictOf (es ++ [en w.params name t v]) (n + 1)) news (news' t)) (hz : es.length + 1 ≤ 1000)
    (h : ∀ h' t tk', Fr h₀ L h' m → News h₀ L h' (news' t) → Q () { s with heap := h', toks := tk' }) :
    wpAny (model PySem.Challenge.rw_mr0361_01.prog w) A (setAttr (.ref x) (Str.ofString name) v) Q E s :=
  set_dict F X₀ N I hd hs hp ht hh hl (put_new hn) (U _) (by rw [List.length_append]; exact hz) fun h' F' N' => h h' _ _ F' N'
local macro_rules | `(tactic| walk_at "setAttr ref") => `(tactic| (k_here; (try dsimp only); k_dflt (refine' set_new (by k_asm) (by k_asm) (by k_asm) (by k_inst) (by exact rfl) (by k_is) (by k_is) (by k_is) (by k_is) (by exact rfl) (by exact rfl) (by intro t; k_upd) (by exact Nat.le_of_ble_eq_true rfl) ?_; k_whole); intro h' t' tk' F' N'; (try k_sweep); dsimp only [List.cons_append, List.nil_append, List.append_eq] at N'))
theorem c_strans (b db : Addr) (x : Str) (t : Tok) (n : Nat) (t1 t2 t3 tn : Tok) (buf : Str) (tb : Tok) (pos : Int) (tp : Tok) (hbd : b ≠ db) :
    Con w p loose mg mb 374 [.ref b, .str x t] 3 30 (sioL w.params b db n t1 t2 t3 tn buf tb pos tp) (fun H => True) (fun r led => r = .str x t ∧ led = sioL w.params b db n t1 t2 t3 tn buf tb pos tp) := by
  refine' Con.of_body [("self", .ref b), ("s", .str x t)] ?ho ?hcd ?b1 ?b2 ?hb ?hl ?a1 ?a2 ?a3 ?a4 ?a5 ?hpre ?h
  case ho => k_is
  case hcd => k_is
  case hb => exact fun s X => BindsTo.of_eq rfl
  case hpre => exact fun h h' k q => trivial
  all_goals try exact rfl
  case a4 => omega
  rintro A g L s Q F N hlt X T hh hd hu _ hret
  (repeat' ((fail_if_success (with_reducible show wpAny _ _ (exec (Stmt.For _ _ _ _ _) _) _ _ _)); (fail_if_success (with_reducible show wpAny _ _ (exec (Stmt.While _ _ _ _) _) _ _ _)); (first | (k_unfold; (try dsimp only)) | walk1 | (dsimp only; walk1))))
  (with_reducible rename Fr _ _ _ _ => F5); (with_reducible rename News _ _ _ _ => N5)
  exact hret _ _ _ _ _ F5 N5 ⟨rfl, rfl⟩
theorem c_sinit (b db : Addr) (x : Str) (t : Tok) (hbd : b ≠ db) :
    Con w p loose mg mb 367 [.ref b, .str x t] 4 60 [(b, instObj 597 db), (db, dictOf [] 0)] (fun H => True) (fun r led => r = .none ∧ ∃ t1 t2 t3 tn tb tp, led = sioL w.params b db 3 t1 t2 t3 tn x tb 0 tp) := by
  refine' Con.of_bodyN [("self", .ref b), ("initial_value", .str x t), ("newline", vs "\n" 756)] ?ho ?hcd ?b1 ?b2 ?hb ?hl ?a1 ?a2 ?a3 ?a4 ?a5 ?hpre ?h
  case ho => k_is
  case hcd => k_is
  case hb => exact fun s X => BindsTo.of_defaults rfl (X 360 _ rfl) rfl rfl rfl
  case hpre => exact fun h h' k q => trivial
  all_goals try exact rfl
  case a4 => omega
  rintro A g L s Q F N hlt X T hh hd hu _ hret hret2
  have hbd' := neN hbd
  (repeat' ((fail_if_success (with_reducible show wpAny _ _ (exec (Stmt.For _ _ _ _ _) _) _ _ _)); (fail_if_success (with_reducible show wpAny _ _ (exec (Stmt.While _ _ _ _) _) _ _ _)); (first | (k_unfold; (try dsimp only)) | walk1 | (dsimp only; walk1))))
  (with_reducible rename Fr _ _ _ _ => F5); (with_reducible rename News _ _ _ _ => N5)
  refine (c_strans b db x t 3 _ _ _ 756 (Str.ofString "") _ 0 _ hbd).use (rest := []) F5 N5 X T hh (by omega) (by omega) (fun _ h => absurd h List.not_mem_nil) trivial ?_
  rintro r6 h6 tk6 ns6 F6 N6 _ ⟨rfl, rfl⟩
  rw [List.append_nil] at N6
  dsimp only [sioL] at N6
  clear F5 N5
  (repeat' ((fail_if_success (with_reducible show wpAny _ _ (exec (Stmt.For _ _ _ _ _) _) _ _ _)); (fail_if_success (with_reducible show wpAny _ _ (exec (Stmt.While _ _ _ _) _) _ _ _)); (first | (k_unfold; (try dsimp only)) | walk1 | (dsimp only; walk1))))
  (with_reducible rename Fr _ _ _ _ => F7); (with_reducible rename News _ _ _ _ => N7)
  exact hret2 _ _ _ _ F7 N7 ⟨rfl, _, _, _, _, _, _, rfl⟩
end
section
variable {w : World} {p : Program} {loose : List Str} {mg mb : Str → Option Value}
/-- the entry of a def whose binding makes objects -/
theorem call_alloc {A : Around} {s : Shared} {Q E : Value → Shared → Prop} {H : Heap} {f : Addr} {vs : List Value} {st st1 : Stmt} {rest : List Stmt} {name qual : String} {dV pm cdv : Value} {kd : ScopeKind} {names : List (Str × NameKind)} {ig ic : Bool} {more : List (Str × Const)} (binds : List (Str × Value))
    (hH : H.StaysIn s.heap) (X : (KK w.params).In H) (T : TopRead p loose mg mb H) (hroom : A.depth < recursionLimit)
    (ho : (KK w.params).lookup f = some ⟨.type "function", none, .func (fnAt st name qual dV pm cdv), #[]⟩) (hcd : codeIn (KK w.params) cdv (Str.ofString qual) = true)
    (hbody : dBody st = st1 :: rest) (hscope : dScope st = ⟨kd, names, ig, ic, more⟩)
    (hbind : ∀ (Q' : List (Str × Value) → Shared → Prop) (E' : Value → Shared → Prop), (∀ h₁, s.heap.StaysIn h₁ → Q' binds { s with heap := h₁ }) → wpAny (model PySem.Challenge.rw_mr0361_01.prog w) A.in1 (bindArgs (fnAt st name qual dV pm cdv) ⟨vs, []⟩) Q' E' s)
    (hloc : (binds.all fun x => decide (names.lookup x.1 = some .local)) = true)
    (hco : ic = false) (hgen : ig = false) (hk : kd = .function)
    (hcell : (names.all fun x => decide (x.2 ≠ .cell)) = true)
    (h : ∀ g L' h₁ tk', s.heap.StaysIn g → Fr g L' h₁ (fun y => binds.reverse.lookup y) → (KK w.params).In g → TopRead p loose mg mb g →
      wpAny (model PySem.Challenge.rw_mr0361_01.prog w) (A.deeper (envOf (Str.ofString qual) ⟨kd, names, ig, ic, more⟩ L' f cdv)) (execs (st1 :: rest) (envOf (Str.ofString qual) ⟨kd, names, ig, ic, more⟩ L' f cdv)) (fun fl s' => Q (match fl with | .ret v => v | _ => .none) s')
        (fun e s' => wpAny (model PySem.Challenge.rw_mr0361_01.prog w) (A.deeper (envOf (Str.ofString qual) ⟨kd, names, ig, ic, more⟩ L' f cdv)) (leaving (envOf (Str.ofString qual) ⟨kd, names, ig, ic, more⟩ L' f cdv) e) (fun _ s'' => E e s'') (fun e' s'' => E e' s'') s') { s with heap := h₁, toks := tk' }) :
    wpAny (model PySem.Challenge.rw_mr0361_01.prog w) A (call (.ref f) vs) Q E s := by
  have Xs := X.keeps hH
  unfold fnAt at ho hbind
  rw [hbody, hscope] at ho hbind
  subst hco hgen hk
  refine wpAny_call (codeAny_call_function hroom (Xs _ _ ho) rfl rfl rfl rfl (codeRec_of Xs hcd) (hbind _ _ fun h₁ k => ?_))
  refine wpAny_newFunctionEnv (fun x hx => of_decide_eq_true (List.all_eq_true.mp hcell x hx)) (locs hloc) (fun h₂ hns hsb => ⟨(T.nolimit.keeps hH).keeps fun b o e => ?_, codeAny_func ?_⟩) rfl
  · exact hsb.extBut b o (Nat.ne_of_lt (Heap.lt_size (k _ _ e))) (Heap.get?_push_of_some _ (k _ _ e))
  · exact h h₁ _ h₂ _ k ⟨hns, fun b o e => hsb.extBut b o (Nat.ne_of_lt (Heap.lt_size e)) (Heap.get?_push_of_some _ e), Nat.le_refl _⟩ (Xs.keeps k) ((T.keeps hH).keeps k)
theorem made_none {M : Model} {h : Heap} {C : Addr} {cd : ClassData} {oc c0 : Value} {od : Option Addr} {sl : Array (Option Value)} {l : List Value} (X : (KK w.params).In h) (ho : (KK w.params).lookup C = some ⟨oc, od, .cls cd, sl⟩) (hm : cd.mro = c0 :: l) (hs : sl.toList[4]? = some (some .none)) : Looks M h (Bind.madeBy (.ref C)) none := by
  intro A Q E s k q
  have hc : clsIn (KK w.params) C = some cd := by unfold clsIn; rw [ho]
  have hm' : Looks M h (mroOf (.ref C)) cd.mro := (looks_clsIn X hc).andThen .now
  unfold Bind.madeBy
  refine wpAny_bind (hm' A _ E s k ?_)
  rw [hm, List.forIn_cons]
  refine wpAny_bind (wpAny_bind (wpAny_bind (wpAny_bind (wpAny_loadPart (k _ _ (X _ _ ho)) (wpAny_pure ?_)))))
  dsimp only
  rw [← Array.getElem?_toList, hs]
  exact wpAny_pure (wpAny_pure (wpAny_pure q))
theorem best_one {M : Model} {h : Heap} {b v : Value} (hs : Looks M h (Builtin.Slots.solid b) v) : Looks M h (Builtin.Slots.bestBase [b]) b := by
  intro A Q E s k q
  unfold Builtin.Slots.bestBase
  dsimp only
  rw [List.forIn_cons]
  refine wpAny_bind (wpAny_bind (wpAny_bind (hs A _ E s k ?_)))
  exact wpAny_pure (wpAny_pure (wpAny_pure q))
theorem solid_93 {M : Model} {h : Heap} (X : (KK w.params).In h) : Looks M h (Builtin.Slots.solid (.ref 93)) (.type "object") := by
  intro A Q E s k q
  have c93 := (looks_clsIn (M := M) X (C := 93) (cd := ⟨Str.ofString "IOBase", [(Value.type "object")], [(vr 93), (Value.type "object")], 92, Str.ofString "IOBase", true, [], [(vr 108), (vr 120)], false, none, false⟩) (by k_is)).keeps k
  have m93 : Looks M s.heap (mroOf (.ref 93)) [(vr 93), (Value.type "object")] := c93.andThen .now
  obtain ⟨hp, gs, dr, tk, os⟩ := s
  dsimp only at c93 m93
  unfold Builtin.Slots.solid
  refine wpAny_bind (m93.at ?_)
  rw [List.forIn_cons]
  repeat lk
  exact q
theorem solid_120 {M : Model} {h : Heap} (X : (KK w.params).In h) : Looks M h (Builtin.Slots.solid (.ref 120)) (.type "object") := by
  intro A Q E s k q
  have c93 := (looks_clsIn (M := M) X (C := 93) (cd := ⟨Str.ofString "IOBase", [(Value.type "object")], [(vr 93), (Value.type "object")], 92, Str.ofString "IOBase", true, [], [(vr 108), (vr 120)], false, none, false⟩) (by k_is)).keeps k
  have c120 := (looks_clsIn (M := M) X (C := 120) (cd := ⟨Str.ofString "TextIOBase", [(vr 93)], [(vr 120), (vr 93), (Value.type "object")], 119, Str.ofString "TextIOBase", true, [], [(vr 597)], false, none, false⟩) (by k_is)).keeps k
  have m120 : Looks M s.heap (mroOf (.ref 120)) [(vr 120), (vr 93), (Value.type "object")] := c120.andThen .now
  obtain ⟨hp, gs, dr, tk, os⟩ := s
  dsimp only at c93 c120 m120
  unfold Builtin.Slots.solid
  refine wpAny_bind (m120.at ?_)
  rw [List.forIn_cons]
  repeat lk
  exact q
theorem solid_obj {M : Model} {h : Heap} : Looks M h (Builtin.Slots.solid (.type "object")) (.type "object") := by
  intro A Q E s k q
  obtain ⟨hp, gs, dr, tk, os⟩ := s
  have m0 : Looks M hp (mroOf (.type "object")) [(Value.type "object")] := Looks.of_pure (by rw [mroOf_type]; kernel_rfl)
  unfold Builtin.Slots.solid
  refine wpAny_bind (m0.at ?_)
  rw [List.forIn_cons]
  repeat lk
  exact q
theorem made_obj {M : Model} {h : Heap} : Looks M h (Bind.madeBy (.type "object")) (some "object.__new__") := by
  intro A Q E s k q
  obtain ⟨hp, gs, dr, tk, os⟩ := s
  have m0 : Looks M hp (mroOf (.type "object")) [(Value.type "object")] := Looks.of_pure (by rw [mroOf_type]; kernel_rfl)
  have t0 : Looks M hp (typeLookup (.type "object") "__new__") (some (.builtin "object.__new__")) := Looks.of_pure (by rw [typeLookup_type, builtinLookup_eq_fast]; kernel_rfl)
  unfold Bind.madeBy
  refine wpAny_bind (m0.at ?_)
  rw [List.forIn_cons]
  repeat lk
  rw [if_neg (by decide +kernel)]
  repeat lk
  exact q
theorem base_sio {M : Model} {h : Heap} (X : (KK w.params).In h) : Looks M h (Bind.staticBase (.ref 597)) (.type "object") := by
  intro A Q E s k q
  have c597 := (looks_clsIn (M := M) X (C := 597) (cd := ⟨Str.ofString "StringIO", [(vr 120)], [(vr 597), (vr 120), (vr 93), (Value.type "object")], 596, Str.ofString "StringIO", true, [], [], false, none, false⟩) (by k_is)).keeps k
  have c93 := (looks_clsIn (M := M) X (C := 93) (cd := ⟨Str.ofString "IOBase", [(Value.type "object")], [(vr 93), (Value.type "object")], 92, Str.ofString "IOBase", true, [], [(vr 108), (vr 120)], false, none, false⟩) (by k_is)).keeps k
  have c120 := (looks_clsIn (M := M) X (C := 120) (cd := ⟨Str.ofString "TextIOBase", [(vr 93)], [(vr 120), (vr 93), (Value.type "object")], 119, Str.ofString "TextIOBase", true, [], [(vr 597)], false, none, false⟩) (by k_is)).keeps k
  have m597 : Looks M s.heap (mroOf (.ref 597)) [(vr 597), (vr 120), (vr 93), (Value.type "object")] := c597.andThen .now
  have d597 := (made_none (M := M) X (C := 597) (by k_is) rfl rfl).keeps k
  have d120 := (made_none (M := M) X (C := 120) (by k_is) rfl rfl).keeps k
  have d93 := (made_none (M := M) X (C := 93) (by k_is) rfl rfl).keeps k
  have dobj := made_obj (M := M) (h := s.heap)
  have b120 := (best_one (solid_120 (M := M) X)).keeps k
  have b93 := (best_one (solid_93 (M := M) X)).keeps k
  have bobj := best_one (solid_obj (M := M) (h := s.heap))
  obtain ⟨hp, gs, dr, tk, os⟩ := s
  dsimp only at c597 c93 c120 m597 d597 d120 d93 dobj b120 b93 bobj
  unfold Bind.staticBase
  refine wpAny_bind (m597.at ?_)
  rw [List.forIn_cons]
  repeat lk
  exact q
theorem here_sio {M : Model} {h : Heap} (X : (KK w.params).In h) : Looks M h (Bind.madeHere "object.__new__" (.ref 597)) () :=
  (base_sio X).andThen (made_obj.andThen (Looks.of_pure (by simp only [Option.map_some, bne_self_eq_false, Bool.false_eq_true, if_false])))
theorem new_sio {A : Around} {R : Result → Shared → Prop} {h : Heap} {g : Array GenState} {d : Drawn} {t : Nat} {os : OsState} (X : (KK w.params).In h)
    (hq : R (.ok (.ret (.ref (h.objs.size + 1)))) ⟨(h.push emptyDict).push (instObj 597 h.objs.size), g, d, t, os⟩) :
    codeAny (model PySem.Challenge.rw_mr0361_01.prog w) A (.call (.builtin "object.__new__") ⟨[.ref 597], []⟩) R ⟨h, g, d, t, os⟩ := by
  have F := PySem.F.objNew
  have here := here_sio (M := model PySem.Challenge.rw_mr0361_01.prog w) X
  have base := base_sio (M := model PySem.Challenge.rw_mr0361_01.prog w) X
  have made := made_none (M := model PySem.Challenge.rw_mr0361_01.prog w) X (C := 597) (by k_is) rfl rfl
  have dobj := made_obj (M := model PySem.Challenge.rw_mr0361_01.prog w) (h := h)
  have top : Looks (model PySem.Challenge.rw_mr0361_01.prog w) h (isSubtype (.ref 597) (.type "object")) true := looks_mroIn X (by k_is)
  have c597 := looks_clsIn (M := model PySem.Challenge.rw_mr0361_01.prog w) X (C := 597) (cd := ⟨Str.ofString "StringIO", [(vr 120)], [(vr 597), (vr 120), (vr 93), (Value.type "object")], 596, Str.ofString "StringIO", true, [], [], false, none, false⟩) (by k_is)
  have hC := X 597 (k597 w.params) (by k_is)
  unfold k597 at hC
  refine codeAny_call_builtin_code (Code.quiet_builtin _ F.quiet) ?_
  simp only [checkBuiltinCall, F.kind, F.split, F.row]
  have args : Bind.checkArgs "object.__new__" ⟨.hand, "object.__new__", "__new__", .cls, []⟩ ⟨[.ref 597], []⟩ = pure () := by kernel_rfl
  rw [args]
  repeat (first | simp only [bne_self_eq_false, Bool.false_eq_true, if_false] | lk)
  refine codeAny_builtin F.entry ?_
  unfold Builtin.«object.__new__»
  have fin : ∀ A', wpAny (model PySem.Challenge.rw_mr0361_01.prog w) A' (do
      let d ← if typeHasDict (.ref 597) then some <$> alloc { cls := .type "dict", data := .dict #[] } else pure none
      ret (← newObj (.ref 597) .plain d)) (fun fin s' => match fin with | .done f => R (.ok f) s' | .again c' => c'.quiet = true ∧ codeAny (model PySem.Challenge.rw_mr0361_01.prog w) A c' R s') (fun e s' => R (.error e) s') ⟨h, g, d, t, os⟩ := by
    intro A'
    show wpAny _ _ ((alloc emptyDict >>= fun x => pure (some x)) >>= _) _ _ _
    refine wpAny_bind (wpAny_bind (wpAny_alloc (wpAny_pure (wpAny_bind ?_))))
    show wpAny _ _ (newObjAsIs _ _ _) _ _ _
    unfold newObjAsIs classHasDel
    refine wpAny_bind (wpAny_alloc (wpAny_bind (wpAny_bind (wpAny_load (Heap.get?_push_of_some _ (Heap.get?_push_of_some _ hC)) (wpAny_pure ?_)))))
    refine wpAny_pure (wpAny_pure ?_)
    show R _ _
    rw [Heap.size_push]
    exact hq
  repeat (first | exact fin _ | lk)
/-- IOBase.__new__ of the class StringIO -/
theorem io_new {A : Around} {s : Shared} {Q E : Value → Shared → Prop} {H : Heap} {x : Str} {t : Tok} (hH : H.StaysIn s.heap) (X : (KK w.params).In H) (T : TopRead p loose mg mb H) (hh : A.handled = none) (hd : A.depth + 3 < recursionLimit) (hu : A.units + 40 < cLine)
    (h : ∀ b db h' tk', (∀ b' o, s.heap.get? b' = some o → h'.get? b' = some o) → h'.get? b = some (instObj 597 db) → h'.get? db = some (dictOf [] 0) → b ≠ db → s.heap.get? b = none → s.heap.get? db = none → Q (.ref b) { s with heap := h', toks := tk' }) :
    wpAny (model PySem.Challenge.rw_mr0361_01.prog w) A (call (.ref 90) [.ref 597, .str x t]) Q E s := by
  refine' call_alloc (A := A) [("cls", .ref 597), ("args", .ref s.heap.objs.size), ("kwargs", .ref (s.heap.objs.size + 1))] hH X T (by omega) ?ho ?hcd ?b1 ?b2 ?hb ?hl ?a1 ?a2 ?a3 ?a5 ?h
  case ho => k_is
  case hcd => k_is
  case hb =>
    intro Q' E' hq
    have e : bindArgs (fnAt (clsDef 8 1) "__new__" "IOBase.__new__" Value.none (vs "io" 371) (vr 89)) ⟨[.ref 597, .str x t], []⟩ = (do
      let tv ← newTuple [.str x t]
      let d ← alloc { cls := .type "dict", data := .dict #[] }
      pure [("cls", .ref 597), ("args", tv), ("kwargs", .ref d)]) := rfl
    rw [e]
    unfold newTuple
    refine wpAny_bind (wpAny_newObj_type (wpAny_bind (wpAny_alloc (wpAny_pure ?_))) (by size_fits))
    rw [Heap.size_push]
    exact hq _ fun b o e => Heap.get?_push_of_some _ (Heap.get?_push_of_some _ e)
  all_goals try exact rfl
  intro g L h₁ tk' st F X T
  have N : News g L h₁ [] := News.nil
  (repeat' ((fail_if_success (with_reducible show wpAny _ _ (exec (Stmt.For _ _ _ _ _) _) _ _ _)); (fail_if_success (with_reducible show wpAny _ _ (exec (Stmt.While _ _ _ _) _) _ _ _)); (first | (k_unfold; (try dsimp only)) | walk1 | (dsimp only; walk1))))
  refine wpAny_call (new_sio (X.keeps F.keep) ?_)
  have up : ∀ b' o, s.heap.get? b' = some o → h₁.get? b' = some o := fun b' o e => F.keep _ _ (st _ _ e)
  have fresh : ∀ a, h₁.objs.size ≤ a → s.heap.get? a = none := fun a ha => by
    cases e : s.heap.get? a with
    | none => rfl
    | some o => exact absurd (Heap.lt_size (up _ _ e)) (Nat.not_lt.mpr ha)
  exact h (h₁.objs.size + 1) h₁.objs.size _ _ (fun b' o e => Heap.get?_push_of_some _ (Heap.get?_push_of_some _ (up _ _ e))) (by heap_get) (by heap_get) (Nat.ne_of_gt (Nat.lt_succ_self _)) (fresh _ (Nat.le_succ _)) (fresh _ (Nat.le_refl _))
theorem call_sio {A : Around} {s : Shared} {Q E : Value → Shared → Prop} {g : Heap} {L : Addr} {m : Str → Option Value} {news : List (Addr × Obj)} {x : Str} {t : Tok} (F : Fr g L s.heap m) (N : News g L s.heap news) (X : (KK w.params).In g) (T : TopRead p loose mg mb g) (hh : A.handled = none) (hd : A.depth + 6 < recursionLimit) (hu : A.units + 100 < cLine)
    (h : ∀ b db h' tk' t1 t2 t3 tn tb tp, Fr g L h' m → News g L h' (sioL w.params b db 3 t1 t2 t3 tn x tb 0 tp ++ news) → (∀ q ∈ news, q.1 ≠ b ∧ q.1 ≠ db) → b ≠ db → Q (.ref b) { s with heap := h', toks := tk' }) :
    wpAny (model PySem.Challenge.rw_mr0361_01.prog w) A (call (.ref 597) [.str x t]) Q E s := by
  have Xs : (KK w.params).In s.heap := X.keeps F.keep
  have callX : Looks (model PySem.Challenge.rw_mr0361_01.prog w) s.heap (specialOf (.ref 597) "__call__") (some (.builtin "type.__call__")) := looks_specialIn Xs (by k_is)
  have typ : Looks (model PySem.Challenge.rw_mr0361_01.prog w) s.heap (isInstance (.ref 597) (.type "type")) true := looks_instIn Xs (by k_is)
  have hc : clsIn (KK w.params) 597 = some ⟨Str.ofString "StringIO", [(vr 120)], [(vr 597), (vr 120), (vr 93), (Value.type "object")], 596, Str.ofString "StringIO", true, [], [], false, none, false⟩ := by k_is
  have hm : Looks (model PySem.Challenge.rw_mr0361_01.prog w) s.heap (mroOf (.ref 597)) [(vr 597), (vr 120), (vr 93), (Value.type "object")] := (looks_clsIn Xs hc).andThen .now
  have made := made_none (M := model PySem.Challenge.rw_mr0361_01.prog w) Xs (C := 597) (by k_is) rfl rfl
  have hC := Xs 597 (k597 w.params) (by k_is)
  refine wpAny_call (codeAny_of_tree ?_)
  show wpAny _ _ (callAny (.ref 597) _) _ _ _
  refine nd_load hC ?_
  show wpAny _ _ (callAny.viaDunder (.ref 597) _) _ _ _
  unfold callAny.viaDunder
  obtain ⟨hp, gs, dr, tk, os⟩ := s
  refine wpAny_bind (callX.at ?_)
  dsimp only
  rw [tc_bind]
  refine wpAny_bind (wpAny_pure (wpAny_bind (wpAny_pure ?_)))
  refine wpAny_pure (a := Fin.again (.call (.builtin "type.__call__") ⟨[.ref 597, .str x t], []⟩)) (And.intro rfl ?_)
  refine codeAny_call_builtin_at (Code.quiet_builtin _ (by decide +kernel)) entry_typeCall (check_slot tc_kind tc_split typ (tc_args _ _ _) ?_)
  unfold Builtin.«type.__call__»
  dsimp only at F N Xs callX typ hm made hC h ⊢
  repeat ((fail_if_success (with_reducible show wpAny _ _ (getAttr _ _ _) _ _ _)); lk)
  refine' cls_sm (K := KK w.params) (s := ⟨hp, gs, dr, tk, os⟩) F X ?k3 ?k4 ?k5 ?k6 ?k7 ?_
  case k3 => k_is
  case k4 => k_is
  case k5 => k_is
  case k6 => k_is
  case k7 => k_handed
  have hu1 : (A.under (.builtin "type.__call__" ⟨[.ref 597, .str x t], []⟩)).units ≤ A.units + 1 := Nat.add_le_add_left (Nat.le_of_ble_eq_true (by kernel_rfl)) A.units
  have hd1 : (A.under (.builtin "type.__call__" ⟨[.ref 597, .str x t], []⟩)).depth ≤ A.depth + 1 := Nat.add_le_add_left (Nat.le_of_ble_eq_true (by kernel_rfl)) A.depth
  refine wpAny_bind (wpAny_holding (io_new (H := g) (s := ⟨hp, gs, dr, tk + 1, os⟩) F.keep X T hh (by omega) (by omega) fun b db h1 tk1 k1 hb hdb hne hbn hdbn => ?_))
  have up : ∀ b' o, hp.get? b' = some o → h1.get? b' = some o := k1
  have X1 := Xs.keeps up
  have tb : Looks (model PySem.Challenge.rw_mr0361_01.prog w) h1 (typeOf (.ref b)) (.ref 597) := (Looks.ld hb).andThen .now
  have isb : Looks (model PySem.Challenge.rw_mr0361_01.prog w) h1 (isInstance (.ref b) (.ref 597)) true := tb.andThen (looks_mroIn X1 (by k_is))
  refine wpAny_bind (isb.at ?_)
  simp only [Bool.not_true, Bool.false_eq_true, if_false]
  have F1 : Fr g L h1 m := fr_of_stays F up
  have gN : ∀ a, hp.get? a = none → g.get? a = none := fun a ha => kts_none F.keep ha
  have Ln : ∀ a, hp.get? a = none → a ≠ L := fun a ha e => by
    obtain ⟨o, _, _, ho, _⟩ := F.ns
    have ho' : hp.get? L = some o := ho
    rw [e, ho'] at ha; cases ha
  have hnew : ∀ q ∈ news, q.1 ≠ b ∧ q.1 ≠ db := fun q hq => And.intro (fun e => by have h9 := (N q hq).1; rw [e, show hp.get? b = none from hbn] at h9; cases h9) (fun e => by have h9 := (N q hq).1; rw [e, show hp.get? db = none from hdbn] at h9; cases h9)
  have N1 : News g L h1 ([(b, instObj 597 db), (db, dictOf [] 0)] ++ news) := fun q hq => by
    rcases List.mem_cons.mp hq with rfl | hq
    · exact ⟨hb, Ln _ hbn, gN _ hbn⟩
    · rcases List.mem_cons.mp hq with rfl | hq
      · exact ⟨hdb, Ln _ hdbn, gN _ hdbn⟩
      · exact ⟨up _ _ (N q hq).1, (N q hq).2⟩
  refine wpAny_bind (wpAny_holding (special_fn (K := KK w.params) (name := Str.ofString "__init__") X1 (inst_at hb hdb) (f := 367) (by k_is) (by k_is) ?_))
  refine (c_sinit b db x t hne).use (rest := news) (s := ⟨h1, gs, dr, tk1, os⟩) F1 N1 X T hh (by omega) (by omega) (fun q hq r hr e => ?_) trivial ?_
  · rcases List.mem_cons.mp hr with rfl | hr
    · exact (hnew q hq).1 e
    · rcases List.mem_singleton.mp hr with rfl
      exact (hnew q hq).2 e
  · rintro r2 h2 tk2 ns2 F2 N2 hap2 ⟨rfl, t1, t2, t3, tn, tb, tp, rfl⟩
    exact wpAny_pure (h b db h2 tk2 t1 t2 t3 tn tb tp F2 N2 hnew hne)
end
section
variable {w : World} {p : Program} {loose : List Str} {mg mb : Str → Option Value}
local macro_rules | `(tactic| walk_at "exec If") => `(tactic| refine wpAny_If ?_)
local macro_rules | `(tactic| walk_at "binaryOp Add str str") => `(tactic| (k_here; refine' add_s (by exact Nat.le_of_ble_eq_true rfl) ?_; intros))
local macro_rules | `(tactic| walk_at "setAttr ref") => `(tactic| (k_here; (try dsimp only); k_dflt (refine' set_new (by k_asm) (by k_asm) (by k_asm) (by k_inst) (by exact rfl) (by k_is) (by k_is) (by k_is) (by k_is) (by exact rfl) (by exact rfl) (by intro t; k_upd) (by exact Nat.le_of_ble_eq_true rfl) ?_; k_whole); intro h' t' tk' F' N'; (try k_sweep); dsimp only [List.cons_append, List.nil_append, List.append_eq] at N'))
noncomputable abbrev lexE (P : Params) (τ : Nat → Tok) (b pb fs : Addr) (cm : Str) (wsp : Bool) (st ln tk : Value) : List DictEntry := [en P "instream" (τ 0) (.ref b), en P "infile" (τ 1) .none, en P "posix" (τ 2) (.bool true), en P "eof" (τ 3) .none, en P "commenters" (τ 4) (.str cm (τ 30)), en P "wordchars" (τ 5) (.str wcTxt (τ 31)),
  en P "whitespace" (τ 6) (.str (Str.ofString " \t\r\n") (τ 32)), en P "whitespace_split" (τ 7) (.bool wsp), en P "quotes" (τ 8) (.str (Str.ofString "'\"") (τ 33)), en P "escape" (τ 9) (.str (Str.ofString "\\") (τ 34)), en P "escapedquotes" (τ 10) (.str (Str.ofString "\"") (τ 35)),
  en P "state" (τ 11) st, en P "pushback" (τ 12) (.ref pb), en P "lineno" (τ 13) ln, en P "debug" (τ 14) (.int 0 (τ 36)), en P "token" (τ 15) tk, en P "filestack" (τ 16) (.ref fs), en P "source" (τ 17) .none, en P "_punctuation_chars" (τ 18) (.str (Str.ofString "") (τ 37))]
theorem wc_eq : Str.ofString "abcdfeghijklmnopqrstuvwxyzABCDEFGHIJKLMNOPQRSTUVWXYZ0123456789_ßàáâãäåæçèéêëìíîïðñòóôõöøùúûüýþÿÀÁÂÃÄÅÆÇÈÉÊËÌÍÎÏÐÑÒÓÔÕÖØÙÚÛÜÝÞ" = wcTxt := by decide +kernel
theorem lexE_of {P : Params} {b pb fs : Addr} {cm : Str} {wsp : Bool} {st ln tk : Value} {k0 k1 k2 k3 k4 k5 k6 k7 k8 k9 k10 k11 k12 k13 k14 k15 k16 k17 k18 v0 v1 v2 v3 v4 v5 v6 v7 : Tok} : [en P "instream" k0 (.ref b), en P "infile" k1 .none, en P "posix" k2 (.bool true), en P "eof" k3 .none, en P "commenters" k4 (.str cm v0), en P "wordchars" k5 (.str wcTxt v1), en P "whitespace" k6 (.str (Str.ofString " \t\r\n") v2), en P "whitespace_split" k7 (.bool wsp), en P "quotes" k8 (.str (Str.ofString "'\"") v3), en P "escape" k9 (.str (Str.ofString "\\") v4), en P "escapedquotes" k10 (.str (Str.ofString "\"") v5), en P "state" k11 st, en P "pushback" k12 (.ref pb), en P "lineno" k13 ln, en P "debug" k14 (.int 0 v6), en P "token" k15 tk, en P "filestack" k16 (.ref fs), en P "source" k17 .none, en P "_punctuation_chars" k18 (.str (Str.ofString "") v7)] = lexE P (fun i => [k0, k1, k2, k3, k4, k5, k6, k7, k8, k9, k10, k11, k12, k13, k14, k15, k16, k17, k18, 0, 0, 0, 0, 0, 0, 0, 0, 0, 0, 0, v0, v1, v2, v3, v4, v5, v6, v7].getD i 0) b pb fs cm wsp st ln tk := rfl
theorem c_linit (a da : Addr) (x : Str) (t : Tok) (hne : a ≠ da) (hx : x.length ≤ 1000000) :
    ConC w p loose mg mb 656 ⟨[.ref a, .str x t], [(Str.ofString "posix", .bool true)]⟩ 9 200 [(a, instObj 732 da), (da, dictOf [] 0)] (fun H => True) (fun r led => r = .none ∧ ∃ τ b db pb fs t1 t2 t3 tn tb tp ts tl tt, [a, da, b, db, pb, fs].Nodup ∧ led = [(fs, dqObj), (pb, dqObj), (b, instObj 597 db), (db, dictOf (sioD w.params t1 t2 t3 tn x tb 0 tp) 3), (a, instObj 732 da), (da, dictOf (lexE w.params τ b pb fs (Str.ofString "#") false (Md.val .sp ts) (.int 1 tl) (.str (Str.ofString "") tt)) 19)]) := by
  refine' ConC.of_bodyN [("self", .ref a), ("instream", .str x t), ("infile", .none), ("posix", .bool true), ("punctuation_chars", .bool false)] ?ho ?hcd ?b1 ?b2 ?hb ?hl ?a1 ?a2 ?a3 ?a4 ?a5 ?hpre ?h
  case ho => k_is
  case hcd => k_is
  case hb => exact fun s X => BindsTo.of_defaults rfl (X 649 _ rfl) rfl rfl rfl
  case hpre => exact fun h h' k q => trivial
  all_goals try exact rfl
  case a4 => omega
  rintro A g L s Q F N hlt X T hh hd hu _ hret hret2
  (repeat' ((fail_if_success (with_reducible show wpAny _ _ (exec (Stmt.For _ _ _ _ _) _) _ _ _)); (fail_if_success (with_reducible show wpAny _ _ (exec (Stmt.While _ _ _ _) _) _ _ _)); (first | (k_unfold; (try dsimp only)) | walk1 | (dsimp only; walk1))))
  refine call_sio F N X T hh (by omega) (by omega) ?_
  rintro b db h4 tk4 t1 t2 t3 tn tb tp F4 N4 hne4 hbdb
  dsimp only [sioL, List.cons_append, List.nil_append] at N4
  have hab := (hne4 (a, _) (.head _)).1
  have hadb := (hne4 (a, _) (.head _)).2
  have hdab := (hne4 (da, _) (.tail _ (.head _))).1
  have hdadb := (hne4 (da, _) (.tail _ (.head _))).2
  have hba : b ≠ a := fun e => hab e.symm
  have hdba : db ≠ a := fun e => hadb e.symm
  have hbda : b ≠ da := fun e => hdab e.symm
  have hdbda : db ≠ da := fun e => hdadb e.symm
  clear F N
  (repeat' ((fail_if_success (with_reducible show wpAny _ _ (exec (Stmt.For _ _ _ _ _) _) _ _ _)); (fail_if_success (with_reducible show wpAny _ _ (exec (Stmt.While _ _ _ _) _) _ _ _)); (first | (k_unfold; (try dsimp only)) | walk1 | (dsimp only; walk1))))
  (with_reducible rename Fr _ _ _ _ => F5); (with_reducible rename News _ _ _ _ => N5)
  refine dq_K F5 N5 ?_
  intro pb h6 F6 N6 hpb6 hLpb
  have hapb := hpb6 _ (.tail _ (.tail _ (.head _)))
  have hbpb := hpb6 _ (.head _)
  have hdbpb := hpb6 _ (.tail _ (.head _))
  have hdapb := hpb6 _ (.tail _ (.tail _ (.tail _ (.head _))))
  dsimp only at hapb hbpb hdbpb hdapb
  have hpba : pb ≠ a := fun e => hapb e.symm
  have hpbda : pb ≠ da := fun e => hdapb e.symm
  (repeat' ((fail_if_success (with_reducible show wpAny _ _ (exec (Stmt.For _ _ _ _ _) _) _ _ _)); (fail_if_success (with_reducible show wpAny _ _ (exec (Stmt.While _ _ _ _) _) _ _ _)); (first | (k_unfold; (try dsimp only)) | walk1 | (dsimp only; walk1))))
  (with_reducible rename Fr _ _ _ _ => F7); (with_reducible rename News _ _ _ _ => N7)
  refine dq_K F7 N7 ?_
  intro fs h8 F8 N8 hfs8 hLfs
  have hafs := hfs8 _ (.tail _ (.tail _ (.tail _ (.head _))))
  have hbfs := hfs8 _ (.tail _ (.head _))
  have hdbfs := hfs8 _ (.tail _ (.tail _ (.head _)))
  have hdafs := hfs8 _ (.tail _ (.tail _ (.tail _ (.tail _ (.head _)))))
  have hpbfs := hfs8 _ (.head _)
  dsimp only at hafs hbfs hdbfs hdafs hpbfs
  have hfsa : fs ≠ a := fun e => hafs e.symm
  have hfsda : fs ≠ da := fun e => hdafs e.symm
  (repeat' ((fail_if_success (with_reducible show wpAny _ _ (exec (Stmt.For _ _ _ _ _) _) _ _ _)); (fail_if_success (with_reducible show wpAny _ _ (exec (Stmt.While _ _ _ _) _) _ _ _)); (first | (k_unfold; (try dsimp only)) | walk1 | (dsimp only; walk1))))
  (with_reducible rename Fr _ _ _ _ => F9); (with_reducible rename News _ _ _ _ => N9)
  rw [wc_eq, lexE_of] at N9
  refine hret2 _ _ _ _ F9 N9 ⟨rfl, _, b, db, pb, fs, t1, t2, t3, tn, tb, tp, _, _, _, ?_, rfl⟩
  simp [hne, hab, hadb, hapb, hafs, hdab, hdadb, hdapb, hdafs, hbdb, hbpb, hbfs, hdbpb, hdbfs, hpbfs, hpbfs.symm, Ne.symm hbdb]
end
section
variable {w : World} {p : Program} {loose : List Str} {mg mb : Str → Option Value}
local macro_rules | `(tactic| walk_at "exec If") => `(tactic| refine wpAny_If ?_)
theorem c_liter (a : Addr) : Pure w p loose mg mb 722 [.ref a] 1 8 (fun r => r = .ref a) := by
  refine' Pure.of_body [("self", .ref a)] ?ho ?hcd ?b1 ?b2 ?hb ?hl ?a1 ?a2 ?a3 ?a4 ?a5 ?h
  case ho => k_is
  case hcd => k_is
  all_goals try exact rfl
  case a4 => decide
  intro A g L s Q F N X T hh hd hu hret
  (repeat' ((fail_if_success (with_reducible show wpAny _ _ (exec (Stmt.For _ _ _ _ _) _) _ _ _)); (fail_if_success (with_reducible show wpAny _ _ (exec (Stmt.While _ _ _ _) _) _ _ _)); (first | (k_unfold; (try dsimp only)) | walk1 | (dsimp only; walk1))))
  exact hret _ _ _ _ F rfl
/-- one object of the ledger is written -/
theorem led_upd {g h h' : Heap} {L S : Addr} {m : Str → Option Value} {o o' : Obj} {news : List (Addr × Obj)} (F : Fr g L h m) (N : News g L h ((S, o) :: news)) (hS : ∀ q ∈ news, q.1 ≠ S) (k : ∀ b o, b ≠ S → h.get? b = some o → h'.get? b = some o) (e : h'.get? S = some o') :
    Fr g L h' m ∧ News g L h' ((S, o') :: news) := by
  have hL : L ≠ S := fun z => (N (S, o) (.head _)).2.1 z.symm
  refine ⟨⟨F.ns.at' fun o e => k _ o hL e, fun b o e => k b o (fun z => by have := (N (S, _) (.head _)).2.2; rw [← z, e] at this; cases this) (F.keep b o e), F.above⟩, fun q hq => ?_⟩
  rcases List.mem_cons.mp hq with rfl | hq
  · exact ⟨e, (N (S, o) (.head _)).2⟩
  · exact ⟨k _ _ (hS q hq) (N q (.tail _ hq)).1, (N q (.tail _ hq)).2⟩
theorem list_lex {base g : Heap} {A₀ A : Around} {outer : List Env} {L fa : Addr} {m : Str → Option Value} {name : Str} {scope : Scope} {cd : Value} (τ : Nat → Tok) {a da b db pb fs : Addr} {n1 n2 : Nat} {t1 t2 t3 tn tb tp ts tl tt : Tok} {buf : Str} {s : Shared} {Q E : Value → Shared → Prop} {ws : List Str} (hne : [a, da, b, db, pb, fs].Nodup) (hbl : buf.length ≤ 1000000)
    (K : Below A₀ base outer g) (hA : A.frames = some (envOf name scope L fa cd :: outer)) (hk : scope.kind = .function) (Xb : (KK w.params).In base) (Tb : TopRead p loose mg mb base) (X : (KK w.params).In g) (T : TopRead p loose mg mb g) (hh : A.handled = none) (hd : A.depth + 20 < recursionLimit) (hu : A.units + 320 < cLine)
    (hlex : Lexes .sp buf.cps.toList ws) (hws : ws.length ≤ 1000000)
    (F : Fr g L s.heap m) (N : News g L s.heap (lexL w.params τ a da b db pb fs n1 n2 t1 t2 t3 tn buf tb 0 tp (Md.val .sp ts) (.int 1 tl) (.str (Str.ofString "") tt) ++ [(pb, dqObj), (fs, dqObj)]))
    (hQ : ∀ D vs k h' tk' g', KtsTurn (fsOf outer) g g' → Below A₀ base outer g' → Fr g' L h' m → News g' L h' [(D, W.listOf vs.toArray k)] → StrsAre vs ws → Q (.ref D) { s with heap := h', toks := tk' }) :
    wpAny (model PySem.Challenge.rw_mr0361_01.prog w) A (call (.type "list") [.ref a]) Q E s := by
  have hne4 : [a, da, b, db].Nodup := by
    have : [a, da, b, db, pb, fs] = [a, da, b, db] ++ [pb, fs] := rfl
    rw [this] at hne
    exact (List.nodup_append.mp hne).1
  have hpn : pb ∉ lexA a da b db ∧ fs ∉ lexA a da b db := by
    simp only [List.nodup_cons, List.mem_cons, List.not_mem_nil, or_false, not_or] at hne ⊢
    refine ⟨⟨fun e => hne.1.2.2.2.1 e.symm, fun e => hne.2.1.2.2.1 e.symm, fun e => hne.2.2.1.2.1 e.symm, fun e => hne.2.2.2.1.1 e.symm⟩, ⟨fun e => hne.1.2.2.2.2 e.symm, fun e => hne.2.1.2.2.2 e.symm, fun e => hne.2.2.1.2.2 e.symm, fun e => hne.2.2.2.1.2 e.symm⟩⟩
  refine callType_codes (Q₁ := fun obj s₁ => obj = .ref s.heap.objs.size ∧ s₁ = { s with heap := s.heap.push { cls := .type "list", data := .seq #[] } }) PySem.F.called_list (PySem.F.typeCall_list_1 _) PySem.F.entry_list_init
    (code_list_new _ ⟨rfl, rfl⟩) fun obj s₁ h₁ => ?_
  obtain ⟨rfl, rfl⟩ := h₁
  have hltS : ∀ q ∈ lexL w.params τ a da b db pb fs n1 n2 t1 t2 t3 tn buf tb 0 tp (Md.val .sp ts) (.int 1 tl) (.str (Str.ofString "") tt) ++ [(pb, dqObj), (fs, dqObj)], q.1 ≠ s.heap.objs.size := fun q hq => Nat.ne_of_lt (Heap.lt_size (N q hq).1)
  have F1 : Fr g L (s.heap.push (seqOf #[] 0)) m := F.push _
  have N1 := N.push F (seqOf #[] 0)
  have hS1 : (s.heap.push (seqOf #[] 0)).get? s.heap.objs.size = some (seqOf #[] 0) := (N1 _ (.head _)).1
  refine ⟨⟨_, hS1, rfl⟩, PySem.F.args_list_init_2 _ _, ?_⟩
  have hold : ∀ b' o, s.heap.get? b' = some o → (s.heap.push (seqOf #[] 0)).get? b' = some o := fun b' o e => Heap.get?_push_of_some _ e
  generalize hsz : s.heap.objs.size = S at *
  generalize s.heap.push (seqOf #[] 0) = hp1 at *
  show wpAny _ _ (do let old ← Builtin.List.listItems (.ref S); Builtin.List.listUpdate (.ref S) (fun _ => #[]); letGo old.toList.reverse; Builtin.List.listExtendWith (.ref S) (.ref a) .none) _ _ _
  refine wpAny_bind ?_
  unfold Builtin.List.listItems
  refine wpAny_bind (wpAny_seqItems hS1 rfl (wpAny_pure ?_))
  show wpAny _ _ (updateSeq S (fun _ => #[]) >>= fun _ => letGo (#[] : Array Value).toList.reverse >>= fun _ => Builtin.List.listExtendWith (.ref S) (.ref a) .none) _ _ _
  refine wpAny_bind (wpAny_updateSeq hS1 rfl ?_)
  obtain ⟨c2, hS2⟩ : ∃ c2, (hp1.update S (Obj.mapSeq (fun _ => (#[] : Array Value)))).get? S = some (seqOf #[] c2) := ⟨_, Heap.get?_update_self _ hS1 rfl⟩
  have k2 : ∀ b' o, b' ≠ S → hp1.get? b' = some o → (hp1.update S (Obj.mapSeq (fun _ => (#[] : Array Value)))).get? b' = some o := fun b' o hb e => (Heap.get?_update_other _ _ (Ne.symm hb)).trans e
  obtain ⟨F2, N2⟩ := led_upd F1 N1 hltS k2 hS2
  generalize hp1.update S (Obj.mapSeq (fun _ => (#[] : Array Value))) = hp2 at *
  refine wpAny_bind (wpAny_letGo ?_)
  unfold Builtin.List.listExtendWith
  have hSa : S ≠ a := fun e => hltS (a, instObj 732 da) (.head _) e.symm
  have I2 := inst_at (N2.get (.tail _ (.head _))) (N2.get (.tail _ (.tail _ (.head _))))
  refine wpAny_bind (I2.type.here ?_)
  have h1 : Builtin.List.listSameRef (.ref S) (.ref a) = false := by simp [Builtin.List.listSameRef, hSa]
  have h2 : (Value.ref 732 == Value.type "list") = false := rfl
  have h3 : (Value.ref 732 == Value.type "tuple") = false := rfl
  simp only [h1, h2, h3, Bool.or_false, Bool.false_eq_true, if_false]
  refine wpAny_bind (owit_iter (K := KK w.params) F2 X I2 (f := 722) (by k_is) (by k_is) ?_)
  refine (c_liter a).use F2 N2 X T hh (by show A.depth + 1 < _; omega) (by show A.units + 1 + 1 + 8 < _; omega) ?_
  rintro r h3 tk3 F3 N3 rfl
  have I3 := inst_at (N3.get (.tail _ (.head _))) (N3.get (.tail _ (.tail _ (.head _))))
  refine owit_it (K := KK w.params) F3 X I3 (g := .ref 729) (by k_is) ?_
  refine wpAny_bind (wpAny_holding ?_)
  unfold Builtin.List.listLengthHint
  refine wpAny_bind (wpAny_bind (I3.type.here ((looks_findIn (K := KK w.params) (X.keeps F3.keep) (name := Str.ofString "__len__") (r := none) (by k_is)).here ?_)))
  show wpAny _ _ (specialOf (Value.ref a) (Str.ofString "__length_hint__") >>= _) _ _ _
  refine wpAny_bind (wpAny_bind (I3.type.here ((looks_findIn (K := KK w.params) (X.keeps F3.keep) (name := Str.ofString "__length_hint__") (r := none) (by k_is)).here ?_)))
  refine wpAny_pure ?_
  show wpAny _ _ (rule "list.extend.makes-room" >>= fun _ => Builtin.List.listTouch (.ref S) >>= fun _ => again (.builtin "list.extend.loop" ⟨[.ref S, .ref a, .none], []⟩)) _ _ _
  refine wpAny_bind (wpAny_rule ?_)
  refine wpAny_bind ?_
  have hS3 := (N3 _ (.head _)).1
  show wpAny _ _ (updateSeq S (·.push .none) >>= fun _ => updateSeq S (·.pop)) _ _ _
  refine wpAny_bind (wpAny_updateSeq hS3 rfl ?_)
  obtain ⟨c4, hS4⟩ : ∃ c4, (h3.update S (Obj.mapSeq (·.push Value.none))).get? S = some (seqOf #[.none] c4) := ⟨_, Heap.get?_update_self (Obj.mapSeq (·.push Value.none)) hS3 rfl⟩
  have k4 : ∀ b' o, b' ≠ S → h3.get? b' = some o → (h3.update S (Obj.mapSeq (·.push Value.none))).get? b' = some o := fun b' o hb e => (Heap.get?_update_other _ _ (Ne.symm hb)).trans e
  obtain ⟨F4, N4⟩ := led_upd F3 N3 hltS k4 hS4
  generalize h3.update S (Obj.mapSeq (·.push Value.none)) = h4 at *
  refine wpAny_updateSeq (hz := by seq_fits) hS4 rfl ?_
  obtain ⟨c5, hS5⟩ : ∃ c5, (h4.update S (Obj.mapSeq (·.pop))).get? S = some (seqOf #[] c5) := ⟨_, Heap.get?_update_self (Obj.mapSeq (·.pop)) hS4 rfl⟩
  have k5 : ∀ b' o, b' ≠ S → h4.get? b' = some o → (h4.update S (Obj.mapSeq (·.pop))).get? b' = some o := fun b' o hb e => (Heap.get?_update_other _ _ (Ne.symm hb)).trans e
  obtain ⟨F5, N5⟩ := led_upd F4 N4 hltS k5 hS5
  generalize h4.update S (Obj.mapSeq (·.pop)) = h5 at *
  have hSn : S ∉ [a, da, b, db, pb, fs] := fun q => by
    obtain ⟨x, hx1, hx2⟩ := List.mem_map.mp (show S ∈ (lexL w.params τ a da b db pb fs n1 n2 t1 t2 t3 tn buf tb 0 tp (Md.val .sp ts) (.int 1 tl) (.str (Str.ofString "") tt) ++ [(pb, dqObj), (fs, dqObj)]).map (·.1) from q)
    exact hltS x hx1 hx2
  refine wpAny_pure ⟨plainId_quiet PySem.F.plain_extend_loop _, lex_loop (A := A.in1) (fa := fa) (name := name) (scope := scope) (cd := cd) τ hne4 hbl K hA hk Xb Tb X hh (by show A.depth + 14 < _; omega) (by show A.units + 1 + 300 < _; omega) hpn hSn .none hlex 0 1 tp ts tl tt #[] c5 _ _ rfl (Nat.zero_le _) (by decide) (by decide) (by show 0 + ws.length ≤ _; omega) F5 N5 ?_⟩
  intro h' tk' vs c' St hS' hvs
  have hmu : ∀ b' ∈ S :: lexA a da b db, g.get? b' = none := fun b' hb => by
    rcases List.mem_cons.mp hb with z | z
    · rw [z]; exact (N5 _ (.head _)).2.2
    · obtain ⟨x, hx1, hx2⟩ := List.mem_map.mp (show b' ∈ (lexL w.params τ a da b db pb fs n1 n2 t1 t2 t3 tn buf tb 0 tp (Md.val .sp ts) (.int 1 tl) (.str (Str.ofString "") tt)).map (·.1) from z)
      rw [← hx2]; exact (N5 x (.tail _ (List.mem_append_left _ hx1))).2.2
  obtain ⟨g', T', F', K'⟩ := turn_frame K F5 St hmu
  refine ⟨rfl, hQ S vs c' h' tk' g' T' K' F' (fun q hq => ?_) hvs⟩
  rcases List.mem_singleton.mp hq with rfl
  have e0 : (#[] : Array Value) ++ vs.toArray = vs.toArray := by simp
  rw [e0] at hS'
  exact ⟨hS', (N5 _ (.head _)).2.1, T'.none_ _ (N5 _ (.head _)).2.2⟩
theorem lexE_ws {P : Params} {τ : Nat → Tok} {b pb fs : Addr} {cm : Str} {ws ws' : Bool} {st ln tk : Value} {h : Int} {k : Value} {n : Nat} : (putL (Str.ofString "whitespace_split") h k (.bool ws') (lexE P τ b pb fs cm ws st ln tk), putN (Str.ofString "whitespace_split") (lexE P τ b pb fs cm ws st ln tk) n) = (lexE P τ b pb fs cm ws' st ln tk, n) := rfl
theorem lexE_cm {P : Params} {τ : Nat → Tok} {b pb fs : Addr} {cm cm' : Str} {t' : Tok} {ws : Bool} {st ln tk : Value} {h : Int} {k : Value} {n : Nat} : (putL (Str.ofString "commenters") h k (.str cm' t') (lexE P τ b pb fs cm ws st ln tk), putN (Str.ofString "commenters") (lexE P τ b pb fs cm ws st ln tk) n) = (lexE P (fun i => if i = 30 then t' else τ i) b pb fs cm' ws st ln tk, n) := rfl
theorem c_split (x : Str) (t : Tok) (ws : List Str) (hx : x.length ≤ 1000000) (hlex : Lexes .sp x.cps.toList ws) (hws : ws.length ≤ 1000000) :
    ConR w p loose mg mb 744 [.str x t] 26 400 (fun r ns => ∃ D vs k, r = .ref D ∧ (D, W.listOf vs.toArray k) ∈ ns ∧ StrsAre vs ws) := by
  refine' ConR.of_body [("s", .str x t), ("comments", .bool false), ("posix", .bool true)] ?ho ?hcd ?b1 ?b2 ?hb ?hl ?a1 ?a2 ?a3 ?a4 ?a5 ?h
  case ho => k_is
  case hcd => k_is
  case hb => exact fun s X => BindsTo.of_defaults rfl (X 737 _ rfl) rfl rfl rfl
  all_goals try exact rfl
  case a4 => omega
  rintro A₀ A base g outer L s Q hA K F N Xb Tb X T hh hd hu hret
  (repeat' ((fail_if_success (with_reducible show wpAny _ _ (setAttr _ _ _) _ _ _)); (fail_if_success (with_reducible show wpAny _ _ (exec (Stmt.For _ _ _ _ _) _) _ _ _)); (fail_if_success (with_reducible show wpAny _ _ (exec (Stmt.While _ _ _ _) _) _ _ _)); (first | (k_unfold; (try dsimp only)) | walk1 | (dsimp only; walk1))))
  show wpAny _ _ (call (Value.ref 732) [Value.str x t] [(Str.ofString "posix", .bool true)]) _ _ _
  refine call_cls (K := KK w.params) (fI := 656) F X N (by k_is) (by k_is) (by k_is) ?_
  intro a da h3 F3 N3 _ l2
  have hd1 : (A.under (.builtin "type.__call__" ⟨[.ref 732, .str x t], [(Str.ofString "posix", .bool true)]⟩)).depth ≤ A.depth + 1 := Nat.add_le_add_left (Nat.le_of_ble_eq_true (by kernel_rfl)) A.depth
  have hu1 : (A.under (.builtin "type.__call__" ⟨[.ref 732, .str x t], [(Str.ofString "posix", .bool true)]⟩)).units ≤ A.units + 1 := Nat.add_le_add_left (Nat.le_of_ble_eq_true (by kernel_rfl)) A.units
  refine (c_linit a da x t (Nat.ne_of_gt l2) hx).use (rest := []) F3 N3 X T hh (by omega) (by omega) (fun _ h => absurd h List.not_mem_nil) trivial ?_
  rintro r4 h4 tk4 ns4 F4 N4 _ ⟨rfl, τ, b, db, pb, fs, t1, t2, t3, tn, tb, tp, ts, tl, tt, hnd, rfl⟩
  refine ⟨rfl, ?_⟩
  rw [List.append_nil] at N4
  have N5 : News g L h4 [(a, instObj 732 da), (da, dictOf (lexE w.params τ b pb fs (Str.ofString "#") false (Md.val .sp ts) (.int 1 tl) (.str (Str.ofString "") tt)) 19), (b, instObj 597 db), (db, dictOf (sioD w.params t1 t2 t3 tn x tb 0 tp) 3), (pb, dqObj), (fs, dqObj)] := fun q hq => N4 q (by
    simp only [List.mem_cons, List.not_mem_nil, or_false] at hq ⊢
    rcases hq with h | h | h | h | h | h <;> simp [h])
  have hall : a ≠ da ∧ b ≠ da ∧ db ≠ da ∧ pb ≠ da ∧ fs ≠ da := by
    simp only [List.nodup_cons, List.mem_cons, List.not_mem_nil, or_false, not_or] at hnd
    exact ⟨hnd.1.1, fun e => hnd.2.1.1 e.symm, fun e => hnd.2.1.2.1 e.symm, fun e => hnd.2.1.2.2.1 e.symm, fun e => hnd.2.1.2.2.2 e.symm⟩
  clear F N N3 N4
  dsimp only
  (repeat' ((fail_if_success (with_reducible show wpAny _ _ (setAttr _ _ _) _ _ _)); (fail_if_success (with_reducible show wpAny _ _ (exec (Stmt.For _ _ _ _ _) _) _ _ _)); (fail_if_success (with_reducible show wpAny _ _ (exec (Stmt.While _ _ _ _) _) _ _ _)); (first | (k_unfold; (try dsimp only)) | walk1 | (dsimp only; walk1))))
  (with_reducible rename Fr _ _ _ _ => F6); (with_reducible rename News _ _ _ _ => N6)
  have U : ∀ {es es' : List DictEntry}, Upd da (dictOf es 19) (dictOf es' 19) [(a, instObj 732 da), (da, dictOf es 19), (b, instObj 597 db), (db, dictOf (sioD w.params t1 t2 t3 tn x tb 0 tp) 3), (pb, dqObj), (fs, dqObj)] [(a, instObj 732 da), (da, dictOf es' 19), (b, instObj 597 db), (db, dictOf (sioD w.params t1 t2 t3 tn x tb 0 tp) 3), (pb, dqObj), (fs, dqObj)] :=
    fun {es es'} => Upd.tail hall.1 (Upd.head (all_cons hall.2.1 (all_cons hall.2.2.1 (all_cons hall.2.2.2.1 (all_cons hall.2.2.2.2 (List.forall_mem_nil _))))))
  refine set_dict (K := KK w.params) F6 X N6 (inst_at (N6.get (.head _)) (N6.get (.tail _ (.head _)))) rfl (by k_is) (by k_is) (by k_is) (by k_is) rfl lexE_ws U (Nat.le_of_ble_eq_true rfl) fun h7 F7 N7 => ?_
  (repeat' ((fail_if_success (with_reducible show wpAny _ _ (setAttr _ _ _) _ _ _)); (fail_if_success (with_reducible show wpAny _ _ (exec (Stmt.For _ _ _ _ _) _) _ _ _)); (fail_if_success (with_reducible show wpAny _ _ (exec (Stmt.While _ _ _ _) _) _ _ _)); (first | (k_unfold; (try dsimp only)) | walk1 | (dsimp only; walk1))))
  (with_reducible rename Fr _ _ _ _ => F8); (with_reducible rename News _ _ _ _ => N8)
  refine set_dict (K := KK w.params) F8 X N8 (inst_at (N8.get (.head _)) (N8.get (.tail _ (.head _)))) rfl (by k_is) (by k_is) (by k_is) (by k_is) rfl lexE_cm U (Nat.le_of_ble_eq_true rfl) fun h9 F9 N9 => ?_
  (repeat' ((fail_if_success (with_reducible show wpAny _ _ (setAttr _ _ _) _ _ _)); (fail_if_success (with_reducible show wpAny _ _ (exec (Stmt.For _ _ _ _ _) _) _ _ _)); (fail_if_success (with_reducible show wpAny _ _ (exec (Stmt.While _ _ _ _) _) _ _ _)); (first | (k_unfold; (try dsimp only)) | walk1 | (dsimp only; walk1))))
  (with_reducible rename Fr _ _ _ _ => F10); (with_reducible rename News _ _ _ _ => N10)
  refine list_lex (fun i => if i = 30 then _ else τ i) (ts := ts) (tl := tl) (tt := tt) hnd hx K hA rfl Xb Tb X T hh (by omega) (by omega) hlex hws F10 N10 ?_
  intro D vs k h' tk' g' T' K' F' N' hvs
  exact hret _ _ _ _ _ g' T' F' N' ⟨D, vs, k, rfl, .head _, hvs⟩
end
section
/-- the sign of a kind; the three signs of a place -/
noncomputable def kSign (K : Nat) : Nat := [63, 112, 99, 63, 100, 63, 98, 63, 45, 63, 108, 63, 115, 63, 63, 63].getD K 63
noncomputable def trip (j f a : Nat) : List Nat := [if f / 4 % 2 = 1 then 114 else 45, if f / 2 % 2 = 1 then 119 else 45, [45, 120, 83, 115, 45, 120, 84, 116].getD (j / 2 * 4 + a * 2 + f % 2) 0]
noncomputable def sigL (n : Nat) : List Nat := kSign (n / 4096) :: (trip 0 (n / 64 % 8) (n / 2048 % 2) ++ trip 1 (n / 8 % 8) (n / 1024 % 2) ++ trip 2 (n % 8) (n / 512 % 2))
theorem item_kind : ∀ K : Fin 16, Txt.item "?pc?d?b?-?l?s???" ((K.1 : Nat) : Int) = ⟨#[kSign K.1]⟩ := by decide +kernel
theorem item_trip : ∀ (j : Fin 3) (f : Fin 8) (a : Fin 2), Txt.item "-r" (Int.fdiv ((f.1 : Nat) : Int) 4) ++ Txt.item "-w" (Int.fmod (Int.fdiv ((f.1 : Nat) : Int) 2) 2) ++ Txt.item "-xSs-xTt" (Int.fdiv ((j.1 : Nat) : Int) 2 * 4 + ((a.1 : Nat) : Int) * 2 + Int.fmod ((f.1 : Nat) : Int) 2) = ⟨(trip j.1 f.1 a.1).toArray⟩ := by decide +kernel
theorem fdiv_c (n d : Nat) : Int.fdiv (n : Int) (d : Int) = ((n / d : Nat) : Int) := by
  rw [Int.fdiv_eq_ediv_of_nonneg _ (Int.natCast_nonneg d)]; rfl
theorem fmod_c (n d : Nat) : Int.fmod (n : Int) (d : Int) = ((n % d : Nat) : Int) := by
  rw [Int.fmod_eq_emod_of_nonneg _ (Int.natCast_nonneg d)]; rfl
theorem k16 {n : Nat} (h : n < 65536) : n / 4096 < 16 := Nat.div_lt_of_lt_mul h
theorem sig_is {n : Nat} (h : n < 65536) : sigTo (n : Int) 3 = ⟨(sigL n).toArray⟩ := by
  have h0 : sigTo (n : Int) 0 = ⟨#[kSign (n / 4096)]⟩ := by
    show Txt.item _ (Int.fdiv (n : Int) ((4096 : Nat) : Int)) = _
    rw [fdiv_c]
    exact item_kind ⟨n / 4096, k16 h⟩
  have h1 : ∀ (j : Nat) (hj : j < 3) (p q : Nat), (8 : Int) ^ (2 - (j : Int)).toNat = (p : Nat) → (2 : Int) ^ (11 - (j : Int)).toNat = (q : Nat) → sig1 (n : Int) j = ⟨(trip j (n / p % 8) (n / q % 2)).toArray⟩ := by
    intro j hj p q hp hq
    unfold sig1
    rw [hp, hq]
    simp only [fdiv_c]
    have e8 : Int.fmod ((n / p : Nat) : Int) 8 = ((n / p % 8 : Nat) : Int) := fmod_c _ 8
    have e2 : Int.fmod ((n / q : Nat) : Int) 2 = ((n / q % 2 : Nat) : Int) := fmod_c _ 2
    rw [e8, e2]
    exact item_trip ⟨j, hj⟩ ⟨n / p % 8, Nat.mod_lt _ (by decide)⟩ ⟨n / q % 2, Nat.mod_lt _ (by decide)⟩
  have e : sigTo (n : Int) 3 = sigTo (n : Int) 0 ++ sig1 (n : Int) 0 ++ sig1 (n : Int) 1 ++ sig1 (n : Int) 2 := rfl
  rw [e, h0, h1 0 (by decide) 64 2048 (by decide) (by decide), h1 1 (by decide) 8 1024 (by decide) (by decide), h1 2 (by decide) 1 512 (by decide) (by decide)]
  show Str.mk (#[_] ++ _ ++ _ ++ _) = _
  unfold sigL
  rw [Nat.div_one]
  simp
theorem and_c (X b : Nat) : Builtin.bitAnd (X : Int) (b : Int) = ((X &&& b : Nat) : Int) := by
  unfold Builtin.bitAnd
  rw [decide_eq_true (Int.natCast_nonneg X), decide_eq_true (Int.natCast_nonneg b)]
  rfl
theorem bit_at (X i : Nat) : X &&& 2 ^ i = if X / 2 ^ i % 2 = 1 then 2 ^ i else 0 := by
  apply Nat.eq_of_testBit_eq
  intro j
  rw [Nat.testBit_and, Nat.testBit_two_pow]
  by_cases e : i = j
  · subst e
    rw [Nat.testBit_eq_decide_div_mod_eq]
    by_cases h : X / 2 ^ i % 2 = 1
    · rw [if_pos h, decide_eq_true h, Nat.testBit_two_pow]; simp
    · rw [if_neg h, decide_eq_false h]; simp
  · rw [decide_eq_false e, Bool.and_false]
    split
    · rw [Nat.testBit_two_pow, decide_eq_false e]
    · simp
/-- the mask of the kind -/
theorem bit_hi {n k i : Nat} (h : i < 16) : (n + 65536 * k) / 2 ^ i % 2 = n / 2 ^ i % 2 := by
  have e : 65536 = 2 ^ i * (2 * 2 ^ (15 - i)) := by
    rw [← Nat.pow_succ', ← Nat.pow_add, show i + (15 - i + 1) = 16 by rw [← Nat.add_assoc, Nat.add_sub_cancel' (Nat.le_of_lt_succ h)]]
  rw [e, Nat.mul_assoc, Nat.add_mul_div_left _ _ (Nat.two_pow_pos i), Nat.mul_assoc, Nat.add_mul_mod_self_left]
theorem oct_bits (x : Nat) : x % 8 / 4 % 2 = x / 4 % 2 ∧ x % 8 / 2 % 2 = x / 2 % 2 ∧ x % 8 % 2 = x % 2 :=
  ⟨by rw [show 8 = 4 * 2 from rfl, Nat.mod_mul_right_div_self, Nat.mod_mod], by rw [show 8 = 2 * 4 from rfl, Nat.mod_mul_right_div_self, Nat.mod_mod_of_dvd _ (by decide)], Nat.mod_mod_of_dvd _ (by decide)⟩
theorem div2 (n a b : Nat) : n / a / b % 2 = n / (a * b) % 2 := by rw [Nat.div_div_eq_div_mul]
theorem and_kind {n k : Nat} (h : n < 65536) : (n + 65536 * k) &&& 61440 = n / 4096 * 4096 := by
  have e : (61440 : Nat) = 2 ^ 12 ||| 2 ^ 13 ||| 2 ^ 14 ||| 2 ^ 15 := by decide
  rw [e, Nat.and_or_distrib_left, Nat.and_or_distrib_left, Nat.and_or_distrib_left, bit_at, bit_at, bit_at, bit_at]
  have a : (n + 65536 * k) / 2 ^ 12 % 2 = n / 4096 % 2 := bit_hi (by decide)
  have b : (n + 65536 * k) / 2 ^ 13 % 2 = n / 4096 / 2 % 2 := (bit_hi (by decide)).trans (div2 n 4096 2).symm
  have c : (n + 65536 * k) / 2 ^ 14 % 2 = n / 4096 / 4 % 2 := (bit_hi (by decide)).trans (div2 n 4096 4).symm
  have d : (n + 65536 * k) / 2 ^ 15 % 2 = n / 4096 / 8 % 2 := (bit_hi (by decide)).trans (div2 n 4096 8).symm
  rw [a, b, c, d]
  have key : ∀ K : Fin 16, ((((if K.1 % 2 = 1 then 2 ^ 12 else 0) ||| (if K.1 / 2 % 2 = 1 then 2 ^ 13 else 0)) ||| (if K.1 / 4 % 2 = 1 then 2 ^ 14 else 0)) ||| (if K.1 / 8 % 2 = 1 then 2 ^ 15 else 0)) = K.1 * 4096 := by decide
  exact key ⟨n / 4096, k16 h⟩
noncomputable def pickV (v : Int) : List (Int × Nat) → Nat
  | [] => 63
  | (b, c) :: r => if (v == b) = true then c else pickV v r
theorem pick_zero (x : Int) : ∀ l, fmPick 0 x l = pickV (Builtin.bitAnd x 61440) l
  | [] => rfl
  | (b, c) :: r => by rw [fmPick, pickV, pick_zero x r]; rfl
theorem kind_key : ∀ K : Fin 16, pickV ((K.1 * 4096 : Nat) : Int) [(40960, 108), (49152, 115), (32768, 45), (24576, 98), (16384, 100), (8192, 99), (4096, 112)] = kSign K.1 := by decide
theorem hit1 (X i : Nat) : (Builtin.bitAnd (X : Int) ((2 ^ i : Nat) : Int) == ((2 ^ i : Nat) : Int)) = decide (X / 2 ^ i % 2 = 1) := by
  rw [and_c, bit_at]
  by_cases h : X / 2 ^ i % 2 = 1
  · rw [if_pos h, decide_eq_true h]; simp
  · rw [if_neg h, decide_eq_false h]
    have h2 : (2 ^ i : Nat) ≠ 0 := Nat.pos_iff_ne_zero.mp (Nat.two_pow_pos i)
    simp only [beq_eq_false_iff_ne, ne_eq]
    intro e
    exact h2 (Int.ofNat.inj e).symm
theorem hit2 {X i j m : Nat} (hm : 2 ^ i ||| 2 ^ j = m) (h1 : 2 ^ i ≠ m) (h2 : 2 ^ j ≠ m) (h3 : 0 ≠ m) : (Builtin.bitAnd (X : Int) (m : Int) == (m : Int)) = (decide (X / 2 ^ i % 2 = 1) && decide (X / 2 ^ j % 2 = 1)) := by
  have e : X &&& m = (if X / 2 ^ i % 2 = 1 then 2 ^ i else 0) ||| (if X / 2 ^ j % 2 = 1 then 2 ^ j else 0) := by
    rw [← hm, Nat.and_or_distrib_left, bit_at, bit_at]
  rw [and_c, e]
  have key : ∀ z : Nat, z ≠ m → (((z : Nat) : Int) == (m : Int)) = false := fun z hz => by
    simp only [beq_eq_false_iff_ne, ne_eq]
    exact fun q => hz (Int.ofNat.inj q)
  by_cases a : X / 2 ^ i % 2 = 1
  · by_cases b : X / 2 ^ j % 2 = 1
    · rw [if_pos a, if_pos b, hm, decide_eq_true a, decide_eq_true b]; simp
    · rw [if_pos a, if_neg b, decide_eq_true a, decide_eq_false b, Nat.or_zero, key _ h1]; rfl
  · by_cases b : X / 2 ^ j % 2 = 1
    · rw [if_neg a, if_pos b, decide_eq_false a, decide_eq_true b, Nat.zero_or, key _ h2]; rfl
    · rw [if_neg a, if_neg b, decide_eq_false a, decide_eq_false b, Nat.zero_or, key _ h3]; rfl
theorem pick_one {X i k c : Nat} {b : Int} (hk : k ≠ 0) (hb : b = ((2 ^ i : Nat) : Int)) : fmPick k (X : Int) [(b, c)] = if X / 2 ^ i % 2 = 1 then c else 45 := by
  rw [fmPick, fmPick, fmHit, if_neg hk, if_neg hk, hb, hit1]
  simp only [decide_eq_true_eq]
theorem pick_three {X i j k c1 c2 c3 m : Nat} {b1 b2 b3 : Int} (hk : k ≠ 0) (e1 : b1 = (m : Int)) (e2 : b2 = ((2 ^ i : Nat) : Int)) (e3 : b3 = ((2 ^ j : Nat) : Int)) (hm : 2 ^ i ||| 2 ^ j = m) (h1 : 2 ^ i ≠ m) (h2 : 2 ^ j ≠ m) (h3 : 0 ≠ m) :
    fmPick k (X : Int) [(b1, c1), (b2, c2), (b3, c3)] = [45, c3, c2, c1].getD (X / 2 ^ i % 2 * 2 + X / 2 ^ j % 2) 0 := by
  rw [fmPick, fmPick, fmPick, fmPick, fmHit, fmHit, fmHit, if_neg hk, if_neg hk, if_neg hk, if_neg hk, e1, e2, e3, hit1, hit1, hit2 hm h1 h2 h3]
  have a : X / 2 ^ i % 2 < 2 := Nat.mod_lt _ (by decide)
  have b : X / 2 ^ j % 2 < 2 := Nat.mod_lt _ (by decide)
  revert a b
  generalize X / 2 ^ i % 2 = p
  generalize X / 2 ^ j % 2 = q
  intro a b
  match p, q, a, b with
  | 0, 0, _, _ => rfl
  | 0, 1, _, _ => rfl
  | 1, 0, _, _ => rfl
  | 1, 1, _, _ => rfl
theorem fm_is {n k : Nat} (h : n < 65536) : fmTo ((n : Int) + 65536 * (k : Int)) 10 = sigL n := by
  have hX : (n : Int) + 65536 * (k : Int) = ((n + 65536 * k : Nat) : Int) := by omega
  rw [hX]
  have e : ∀ x : Int, fmTo x 10 = [fmPick 0 x [(40960, 108), (49152, 115), (32768, 45), (24576, 98), (16384, 100), (8192, 99), (4096, 112)], fmPick 1 x [(256, 114)], fmPick 2 x [(128, 119)], fmPick 3 x [(2112, 115), (2048, 83), (64, 120)],
    fmPick 4 x [(32, 114)], fmPick 5 x [(16, 119)], fmPick 6 x [(1032, 115), (1024, 83), (8, 120)], fmPick 7 x [(4, 114)], fmPick 8 x [(2, 119)], fmPick 9 x [(513, 116), (512, 84), (1, 120)]] := fun x => rfl
  rw [e, pick_zero, show (61440 : Int) = ((61440 : Nat) : Int) from rfl, and_c, and_kind h, kind_key ⟨n / 4096, k16 h⟩,
    pick_one (i := 8) (b := 256) (by decide) rfl, pick_one (i := 7) (b := 128) (by decide) rfl, pick_three (i := 11) (j := 6) (m := 2112) (b1 := 2112) (b2 := 2048) (b3 := 64) (by decide) rfl rfl rfl (by decide) (by decide) (by decide) (by decide),
    pick_one (i := 5) (b := 32) (by decide) rfl, pick_one (i := 4) (b := 16) (by decide) rfl, pick_three (i := 10) (j := 3) (m := 1032) (b1 := 1032) (b2 := 1024) (b3 := 8) (by decide) rfl rfl rfl (by decide) (by decide) (by decide) (by decide),
    pick_one (i := 2) (b := 4) (by decide) rfl, pick_one (i := 1) (b := 2) (by decide) rfl, pick_three (i := 9) (j := 0) (m := 513) (b1 := 513) (b2 := 512) (b3 := 1) (by decide) rfl rfl rfl (by decide) (by decide) (by decide) (by decide)]
  have t : ∀ j f a, trip j f a = [if f / 4 % 2 = 1 then 114 else 45, if f / 2 % 2 = 1 then 119 else 45, [45, 120, 83, 115, 45, 120, 84, 116].getD (j / 2 * 4 + a * 2 + f % 2) 0] := fun _ _ _ => rfl
  unfold sigL
  rw [t, t, t]
  have a1 : (n + 65536 * k) / 2 ^ 8 % 2 = n / 64 % 8 / 4 % 2 := (bit_hi (by decide)).trans ((oct_bits (n / 64)).1.trans (div2 n 64 4)).symm
  have a2 : (n + 65536 * k) / 2 ^ 7 % 2 = n / 64 % 8 / 2 % 2 := (bit_hi (by decide)).trans ((oct_bits (n / 64)).2.1.trans (div2 n 64 2)).symm
  have a3 : (n + 65536 * k) / 2 ^ 6 % 2 = n / 64 % 8 % 2 := (bit_hi (by decide)).trans (oct_bits (n / 64)).2.2.symm
  have a4 : (n + 65536 * k) / 2 ^ 11 % 2 = n / 2048 % 2 := bit_hi (by decide)
  have b1 : (n + 65536 * k) / 2 ^ 5 % 2 = n / 8 % 8 / 4 % 2 := (bit_hi (by decide)).trans ((oct_bits (n / 8)).1.trans (div2 n 8 4)).symm
  have b2 : (n + 65536 * k) / 2 ^ 4 % 2 = n / 8 % 8 / 2 % 2 := (bit_hi (by decide)).trans ((oct_bits (n / 8)).2.1.trans (div2 n 8 2)).symm
  have b3 : (n + 65536 * k) / 2 ^ 3 % 2 = n / 8 % 8 % 2 := (bit_hi (by decide)).trans (oct_bits (n / 8)).2.2.symm
  have b4 : (n + 65536 * k) / 2 ^ 10 % 2 = n / 1024 % 2 := bit_hi (by decide)
  have c1 : (n + 65536 * k) / 2 ^ 2 % 2 = n % 8 / 4 % 2 := (bit_hi (by decide)).trans (oct_bits n).1.symm
  have c2 : (n + 65536 * k) / 2 ^ 1 % 2 = n % 8 / 2 % 2 := (bit_hi (by decide)).trans (oct_bits n).2.1.symm
  have c3 : (n + 65536 * k) / 2 ^ 0 % 2 = n % 8 % 2 := by rw [bit_hi (by decide), Nat.pow_zero, Nat.div_one, (oct_bits n).2.2]
  have c4 : (n + 65536 * k) / 2 ^ 9 % 2 = n / 512 % 2 := bit_hi (by decide)
  rw [a1, a2, a3, a4, b1, b2, b3, b4, c1, c2, c3, c4]
  have d : ∀ p q : Nat, p < 2 → q < 2 → ([45, 120, 83, 115, 45, 120, 84, 116] : List Nat).getD (0 / 2 * 4 + p * 2 + q) 0 = [45, 120, 83, 115].getD (p * 2 + q) 0 ∧ ([45, 120, 83, 115, 45, 120, 84, 116] : List Nat).getD (1 / 2 * 4 + p * 2 + q) 0 = [45, 120, 83, 115].getD (p * 2 + q) 0 ∧ ([45, 120, 83, 115, 45, 120, 84, 116] : List Nat).getD (2 / 2 * 4 + p * 2 + q) 0 = [45, 120, 84, 116].getD (p * 2 + q) 0 := by
    intro p q hp hq
    match p, q, hp, hq with
    | 0, 0, _, _ => decide
    | 0, 1, _, _ => decide
    | 1, 0, _, _ => decide
    | 1, 1, _, _ => decide
  rw [(d _ _ (Nat.mod_lt _ (by decide)) (Nat.mod_lt _ (by decide))).1, (d _ _ (Nat.mod_lt _ (by decide)) (Nat.mod_lt _ (by decide))).2.1, (d _ _ (Nat.mod_lt _ (by decide)) (Nat.mod_lt _ (by decide))).2.2]
  rfl
theorem item_at (l : List Nat) (i : Nat) (h : i < l.length) : Txt.item ⟨l.toArray⟩ (i : Int) = ⟨#[l[i]]⟩ := by
  unfold Txt.item Txt.charAt
  have hl : (⟨l.toArray⟩ : Str).length = l.length := by show l.toArray.size = _; rw [List.size_toArray]
  rw [hl]
  have e : seqIndex? (i : Int) l.length = some i := by
    unfold seqIndex?
    simp only [if_neg (Int.not_lt.mpr (Int.natCast_nonneg i)), decide_eq_true (Int.natCast_nonneg i), decide_eq_true (Int.ofNat_lt.mpr h), Bool.and_self, if_true, Int.toNat_natCast]
  rw [e]
  simp [h]
theorem sigL_len (n : Nat) : (sigL n).length = 10 := rfl
theorem unk_is {n : Nat} (h : n < 65536) : unk n = decide (kSign (n / 4096) = 63) := by
  unfold unk
  rw [sig_is h]
  have := item_at (sigL n) 0 (by rw [sigL_len]; decide)
  rw [show ((0 : Nat) : Int) = (0 : Int) from rfl] at this
  rw [this]
  have e : Str.ofString "?" = ⟨#[63]⟩ := by decide
  rw [e]
  show decide ((⟨#[kSign (n / 4096)]⟩ : Str) = ⟨#[63]⟩) = _
  congr 1
  simp
/-- what one sign tells of the number -/
noncomputable def numC (i c : Nat) : Int := (if ([45, 83, 84] : List Nat).contains c then 0 else Int.fdiv 256 (2 ^ (i : Int).toNat)) + (if ([115, 83, 116, 84] : List Nat).contains c then Int.fdiv 2048 (2 ^ ((i : Int).fdiv 3).toNat) else 0)
theorem num_step {l : List Nat} {i : Nat} (h : i + 1 < l.length) : numTo ⟨l.toArray⟩ (i + 1) = numTo ⟨l.toArray⟩ i + numC i l[i + 1] := by
  have e := item_at l (i + 1) h
  have e1 : ((i : Int) + 1) = ((i + 1 : Nat) : Int) := by omega
  rw [numTo, e1, e]
  have o1 := occ_one (Str.ofString "-ST") l[i + 1]
  have o2 := occ_one (Str.ofString "sStT") l[i + 1]
  have c1 : (Str.ofString "-ST").cps.contains l[i + 1] = ([45, 83, 84] : List Nat).contains l[i + 1] := by
    rw [show Str.ofString "-ST" = ⟨#[45, 83, 84]⟩ from by decide]; simp
  have c2 : (Str.ofString "sStT").cps.contains l[i + 1] = ([115, 83, 116, 84] : List Nat).contains l[i + 1] := by
    rw [show Str.ofString "sStT" = ⟨#[115, 83, 116, 84]⟩ from by decide]; simp
  rw [c1] at o1
  rw [c2] at o2
  unfold numC
  cases h1 : ([45, 83, 84] : List Nat).contains l[i + 1] <;> cases h2 : ([115, 83, 116, 84] : List Nat).contains l[i + 1] <;> rw [h1] at o1 <;> rw [h2] at o2 <;>
    simp only [Bool.not_eq_true', Bool.not_eq_false'] at o1 o2 <;> rw [o1, o2] <;> simp only [if_true, if_false, Bool.false_eq_true] <;> omega
theorem trip_num : ∀ (j : Fin 3) (f : Fin 8) (a : Fin 2), numC (3 * j.1) ((trip j.1 f.1 a.1).getD 0 0) + numC (3 * j.1 + 1) ((trip j.1 f.1 a.1).getD 1 0) + numC (3 * j.1 + 2) ((trip j.1 f.1 a.1).getD 2 0) = ((f.1 * 8 ^ (2 - j.1) + a.1 * 2 ^ (11 - j.1) : Nat) : Int) := by decide +kernel
theorem find_key : ∀ K : Fin 16, Txt.find "?pc?d?b?-?l?s" ⟨#[kSign K.1]⟩ = if kSign K.1 = 63 then 0 else (K.1 : Int) := by decide +kernel
theorem dm (n a b c : Nat) (h : c ∣ b) : n % (a * b) / a % c = n / a % c := by rw [Nat.mod_mul_right_div_self, Nat.mod_mod_of_dvd _ h]
theorem low_all : ((List.range 4096).all fun m => Nat.beq (m / 64 % 8 * 64 + m / 2048 % 2 * 2048 + (m / 8 % 8 * 8 + m / 1024 % 2 * 1024) + (m % 8 * 1 + m / 512 % 2 * 512)) m) = true := by decide +kernel
theorem low_key (m : Nat) (h : m < 4096) : m / 64 % 8 * 64 + m / 2048 % 2 * 2048 + (m / 8 % 8 * 8 + m / 1024 % 2 * 1024) + (m % 8 * 1 + m / 512 % 2 * 512) = m :=
  Nat.eq_of_beq_eq_true (List.all_eq_true.mp low_all m (List.mem_range.mpr h))
theorem low12 (a n : Nat) : ((a : Nat) : Int) + ((n / 64 % 8 * 64 + n / 2048 % 2 * 2048 : Nat) : Int) + ((n / 8 % 8 * 8 + n / 1024 % 2 * 1024 : Nat) : Int) + ((n % 8 * 1 + n / 512 % 2 * 512 : Nat) : Int) = ((a + n % 4096 : Nat) : Int) := by
  have k : n % 4096 / 64 % 8 * 64 + n % 4096 / 2048 % 2 * 2048 + (n % 4096 / 8 % 8 * 8 + n % 4096 / 1024 % 2 * 1024) + (n % 4096 % 8 * 1 + n % 4096 / 512 % 2 * 512) = n % 4096 := low_key (n % 4096) (Nat.mod_lt _ (by decide))
  rw [show n % 4096 / 64 % 8 = n / 64 % 8 from dm n 64 64 8 (by decide), show n % 4096 / 2048 % 2 = n / 2048 % 2 from dm n 2048 2 2 (by decide), show n % 4096 / 8 % 8 = n / 8 % 8 from dm n 8 512 8 (by decide),
    show n % 4096 / 1024 % 2 = n / 1024 % 2 from dm n 1024 4 2 (by decide), show n % 4096 / 512 % 2 = n / 512 % 2 from dm n 512 8 2 (by decide), Nat.mod_mod_of_dvd n (show 8 ∣ 4096 by decide)] at k
  rw [← Int.natCast_add, ← Int.natCast_add, ← Int.natCast_add, ← k, Nat.add_assoc a, Nat.add_assoc a]
theorem num_is {n : Nat} (h : n < 65536) : numTo ⟨(sigL n).toArray⟩ 9 = ((if unk n = true then n % 4096 else n : Nat) : Int) := by
  have hl := sigL_len n
  have i0 := item_at (sigL n) 0 (by rw [hl]; decide)
  rw [num_step (by rw [hl]; decide), num_step (by rw [hl]; decide), num_step (by rw [hl]; decide), num_step (by rw [hl]; decide), num_step (by rw [hl]; decide), num_step (by rw [hl]; decide), num_step (by rw [hl]; decide), num_step (by rw [hl]; decide), num_step (by rw [hl]; decide)]
  have z : numTo ⟨(sigL n).toArray⟩ 0 = (if kSign (n / 4096) = 63 then 0 else ((n / 4096 : Nat) : Int)) * 4096 := by
    have i0' : Txt.item ⟨(sigL n).toArray⟩ 0 = ⟨#[kSign (n / 4096)]⟩ := i0
    rw [numTo, i0', find_key ⟨n / 4096, k16 h⟩]
  have t0 : numC 0 (sigL n)[1] + numC 1 (sigL n)[2] + numC 2 (sigL n)[3] = ((n / 64 % 8 * 64 + n / 2048 % 2 * 2048 : Nat) : Int) := trip_num 0 ⟨n / 64 % 8, Nat.mod_lt _ (by decide)⟩ ⟨n / 2048 % 2, Nat.mod_lt _ (by decide)⟩
  have t1 : numC 3 (sigL n)[4] + numC 4 (sigL n)[5] + numC 5 (sigL n)[6] = ((n / 8 % 8 * 8 + n / 1024 % 2 * 1024 : Nat) : Int) := trip_num 1 ⟨n / 8 % 8, Nat.mod_lt _ (by decide)⟩ ⟨n / 1024 % 2, Nat.mod_lt _ (by decide)⟩
  have t2 : numC 6 (sigL n)[7] + numC 7 (sigL n)[8] + numC 8 (sigL n)[9] = ((n % 8 * 1 + n / 512 % 2 * 512 : Nat) : Int) := trip_num 2 ⟨n % 8, Nat.mod_lt _ (by decide)⟩ ⟨n / 512 % 2, Nat.mod_lt _ (by decide)⟩
  have g : ∀ a0 a1 a2 a3 a4 a5 a6 a7 a8 a9 s0 s1 s2 : Int, a1 + a2 + a3 = s0 → a4 + a5 + a6 = s1 → a7 + a8 + a9 = s2 → a0 + a1 + a2 + a3 + a4 + a5 + a6 + a7 + a8 + a9 = a0 + s0 + s1 + s2 := by
    intros; subst_vars; simp only [Int.add_assoc]
  refine Eq.trans (g _ _ _ _ _ _ _ _ _ _ _ _ _ t0 t1 t2) ?_
  rw [z, unk_is h]
  by_cases hk : kSign (n / 4096) = 63
  · rw [if_pos hk, decide_eq_true hk, if_pos rfl, Int.zero_mul]
    exact (low12 0 n).trans (by rw [Nat.zero_add])
  · rw [if_neg hk, decide_eq_false hk, if_neg (by decide)]
    have r := low12 (n / 4096 * 4096) n
    rw [Nat.mul_comm (n / 4096), Nat.div_add_mod] at r
    rw [Nat.mul_comm] at r
    exact r
theorem safe_big {c : Nat} (h : 256 ≤ c) : safeC c = false := by
  unfold safeC
  rw [decide_eq_false (by omega), Bool.false_and, Bool.false_or]
  cases e : Sre.isWord c with
  | false => rfl
  | true => exfalso; revert e; simp [Sre.isWord, Sre.isDigit]; omega
theorem join_cons2 (sep a b : Str) (r : List Str) : (Str.join sep (a :: b :: r)).cps.toList = a.cps.toList ++ (sep.cps.toList ++ (Str.join sep (b :: r)).cps.toList) := by
  show (a.cps ++ sep.cps ++ (Str.join sep (b :: r)).cps).toList = _
  simp
end
section
theorem lex_q1 : ∀ (l tok rest : List Nat) (q : Bool), ∃ q', lexRun .q1 q tok (escL l ++ 39 :: rest) = lexRun .wd q' (tok ++ l) rest ∧ q' = true
  | [], tok, rest, q => ⟨true, by
      show lexRun .q1 q tok (39 :: rest) = _
      rw [lexRun, if_pos rfl, List.append_nil], rfl⟩
  | c :: l, tok, rest, q => by
    by_cases h : c = 39
    · subst h
      obtain ⟨q', e, hq⟩ := lex_q1 l (tok ++ [39]) rest true
      refine ⟨q', ?_, hq⟩
      show lexRun .q1 q tok (39 :: 34 :: 39 :: 34 :: 39 :: (escL l ++ 39 :: rest)) = _
      rw [lexRun, if_pos rfl, lexRun, if_neg (by decide), if_neg (by decide), if_neg (by decide), if_pos rfl, lexRun, if_neg (by decide), if_neg (by decide), lexRun, if_pos rfl,
        lexRun, if_neg (by decide), if_neg (by decide), if_pos rfl, e, List.append_assoc]
      rfl
    · obtain ⟨q', e, hq⟩ := lex_q1 l (tok ++ [c]) rest true
      refine ⟨q', ?_, hq⟩
      have : escL (c :: l) = c :: escL l := by show escC c ++ escL l = _; rw [escC, if_neg h]; rfl
      rw [this]
      show lexRun .q1 q tok (c :: (escL l ++ 39 :: rest)) = _
      rw [lexRun, if_neg h, e, List.append_assoc]
      rfl
theorem lex_wd : ∀ (l tok rest : List Nat) (q : Bool), (∀ c ∈ l, badC c = false ∧ c ≠ 32 ∧ c ≠ 39 ∧ c ≠ 34) → lexRun .wd q tok (l ++ rest) = lexRun .wd q (tok ++ l) rest
  | [], tok, rest, q, _ => by rw [List.append_nil]; rfl
  | c :: l, tok, rest, q, h => by
    obtain ⟨h1, h2, h3, h4⟩ := h c (.head _)
    show lexRun .wd q tok (c :: (l ++ rest)) = _
    rw [lexRun, if_neg h2, if_neg (by rw [h1]; decide), if_neg h3, if_neg h4, lex_wd l _ rest q fun d hd => h d (.tail _ hd), List.append_assoc]
    rfl
theorem safe_lex : ∀ c, safeC c = true → badC c = false ∧ c ≠ 32 ∧ c ≠ 39 ∧ c ≠ 34 := by
  intro c h
  have hc : c < 256 := by
    apply Classical.byContradiction
    intro hn
    rw [safe_big (by omega)] at h; cases h
  have key : ∀ c : Fin 256, safeC c.1 = true → badC c.1 = false ∧ c.1 ≠ 32 ∧ c.1 ≠ 39 ∧ c.1 ≠ 34 := by decide +kernel
  exact key ⟨c, hc⟩ h
theorem quote_list (x : Str) : (quoteS x).cps.toList = if x.cps.toList = [] then [39, 39] else if allSafe x = true then x.cps.toList else 39 :: (escL x.cps.toList ++ [39]) := by
  have e1 : Str.ofString "''" = ⟨#[39, 39]⟩ := by decide
  have e2 : Str.ofString "'" = ⟨#[39]⟩ := by decide
  have hx : x.length = 0 ↔ x.cps.toList = [] := by
    show x.cps.size = 0 ↔ _
    rw [← Array.length_toList, List.length_eq_zero_iff]
  unfold quoteS
  by_cases h : x.cps.toList = []
  · rw [if_pos h, if_pos (hx.mpr h), e1]
  · rw [if_neg h, if_neg fun q => h (hx.mp q)]
    split
    · rfl
    · rw [replace_esc, e2]
      show (#[39] ++ (escL x.cps.toList).toArray ++ #[39]).toList = _
      simp
theorem lex_word (x : Str) (rest : List Nat) : ∃ q, ¬(x.cps.toList = [] ∧ q = false) ∧ lexRun .sp false [] ((quoteS x).cps.toList ++ rest) = lexRun .wd q x.cps.toList rest := by
  rw [quote_list]
  by_cases h : x.cps.toList = []
  · rw [if_pos h, h]
    refine ⟨true, fun q => (Bool.noConfusion q.2), ?_⟩
    show lexRun .sp false [] (39 :: 39 :: rest) = _
    rw [lexRun, if_neg (by decide), if_pos rfl, lexRun, if_pos rfl]
  · rw [if_neg h]
    by_cases hs : allSafe x = true
    · rw [if_pos hs]
      refine ⟨false, fun q => h q.1, ?_⟩
      have hall : ∀ c ∈ x.cps.toList, safeC c = true := fun c hc => by
        have := Array.all_eq_true_iff_forall_mem.mp hs c (Array.mem_toList_iff.mp hc)
        exact this
      cases e : x.cps.toList with
      | nil => exact absurd e h
      | cons c l =>
        rw [e] at hall
        obtain ⟨h1, h2, h3, h4⟩ := safe_lex c (hall c (.head _))
        show lexRun .sp false [] (c :: (l ++ rest)) = _
        rw [lexRun, if_neg (by rw [h1]; simp [h2]), if_neg h3, if_neg h4, lex_wd l [c] rest false fun d hd => safe_lex d (hall d (.tail _ hd))]
        rfl
    · rw [if_neg hs]
      obtain ⟨q', e, hq⟩ := lex_q1 x.cps.toList [] rest false
      refine ⟨q', fun z => (by rw [hq] at z; exact Bool.noConfusion z.2), ?_⟩
      show lexRun .sp false [] (39 :: ((escL x.cps.toList ++ [39]) ++ rest)) = _
      rw [lexRun, if_neg (by decide), if_pos rfl, List.append_assoc]
      exact e
theorem str_list (x : Str) : (⟨x.cps.toList.toArray⟩ : Str) = x := rfl
theorem lexes_line : ∀ ws : List Str, Lexes .sp (Str.join (Str.ofString " ") (ws.map quoteS)).cps.toList ws
  | [] => .done (l' := []) (e := true) rfl
  | [x] => by
    obtain ⟨q, hq, e⟩ := lex_word x []
    rw [List.append_nil] at e
    exact Lexes.more (tok := x.cps.toList) (e.trans rfl) hq (.done (l' := []) (e := true) rfl)
  | x :: y :: r => by
    obtain ⟨q, hq, e⟩ := lex_word x (32 :: (Str.join (Str.ofString " ") ((y :: r).map quoteS)).cps.toList)
    have e1 : (Str.ofString " ").cps.toList = [32] := by decide
    have hj : (Str.join (Str.ofString " ") ((x :: y :: r).map quoteS)).cps.toList = (quoteS x).cps.toList ++ 32 :: (Str.join (Str.ofString " ") ((y :: r).map quoteS)).cps.toList := by
      rw [List.map_cons, List.map_cons, join_cons2, e1]
      rfl
    rw [hj]
    refine Lexes.more (tok := x.cps.toList) (q := q) (e := false) (l' := (Str.join (Str.ofString " ") ((y :: r).map quoteS)).cps.toList) ?_ hq (lexes_line (y :: r))
    rw [e, lexRun, if_pos rfl, if_neg hq]
end
section
/-- a text as one quoting more writes it -/
noncomputable def esc (x : Str) : Str := ⟨(escL x.cps.toList).toArray⟩
theorem esc_app (a b : Str) : esc (a ++ b) = esc a ++ esc b := by
  show Str.mk (escL (a.cps ++ b.cps).toList).toArray = Str.mk ((escL a.cps.toList).toArray ++ (escL b.cps.toList).toArray)
  rw [Array.toList_append, escL_append]; simp
theorem esc_free {x : Str} (h : 39 ∉ x.cps.toList) : esc x = x := by unfold esc; rw [escL_free h]
theorem esc_deep (m : Str) : esc (deepS m) = deepS (esc m) := by
  unfold deepS
  simp only [esc_app]
  rw [esc_free (x := Str.ofString "\"") (by decide)]
theorem esc_mark : esc (Str.ofString "'") = deepS (Str.ofString "'") := by decide
theorem esc_joinS (sep : Str) (hs : 39 ∉ sep.cps.toList) : ∀ l : List Str, esc (Str.join sep l) = Str.join sep (l.map esc)
  | [] => rfl
  | [a] => rfl
  | a :: b :: r => by
    show esc (a ++ sep ++ Str.join sep (b :: r)) = esc a ++ sep ++ Str.join sep ((b :: r).map esc)
    rw [esc_app, esc_app, esc_free hs, esc_joinS sep hs (b :: r)]
theorem esc_barred (b : Bool) (m x : Str) : esc (barred b m x) = barred b (esc m) (esc x) := by
  cases b with
  | true => rw [barred_t, barred_t]
  | false => rw [barred_f, barred_f, esc_app, esc_app]
theorem esc_escX (d x : Str) : esc (escX d x) = escX (esc d) x := by
  unfold escX
  rw [esc_joinS _ (by decide), List.map_map]
  congr 1
  apply List.map_congr_left
  intro c _
  show esc (if c = 39 then d else sgn c) = if c = 39 then esc d else sgn c
  by_cases h : c = 39
  · rw [if_pos h, if_pos h]
  · rw [if_neg h, if_neg h]
    exact esc_free (by show 39 ∉ [c]; simp; omega)
theorem kSign_ne : ∀ K : Fin 16, kSign K.1 ≠ 39 := by decide
theorem trip_ne : ∀ (j : Fin 3) (f : Fin 8) (a : Fin 2), ∀ c ∈ trip j.1 f.1 a.1, c ≠ 39 ∧ safeC c = true := by decide +kernel
theorem sigL_tail {n : Nat} : ∀ c ∈ (sigL n).tail, c ≠ 39 ∧ safeC c = true := by
  intro c hc
  have e : (sigL n).tail = trip 0 (n / 64 % 8) (n / 2048 % 2) ++ trip 1 (n / 8 % 8) (n / 1024 % 2) ++ trip 2 (n % 8) (n / 512 % 2) := rfl
  rw [e] at hc
  rcases List.mem_append.mp hc with hc | hc
  · rcases List.mem_append.mp hc with hc | hc
    · exact trip_ne 0 ⟨n / 64 % 8, Nat.mod_lt _ (by decide)⟩ ⟨n / 2048 % 2, Nat.mod_lt _ (by decide)⟩ c hc
    · exact trip_ne 1 ⟨n / 8 % 8, Nat.mod_lt _ (by decide)⟩ ⟨n / 1024 % 2, Nat.mod_lt _ (by decide)⟩ c hc
  · exact trip_ne 2 ⟨n % 8, Nat.mod_lt _ (by decide)⟩ ⟨n / 512 % 2, Nat.mod_lt _ (by decide)⟩ c hc
theorem sigL_ne {n : Nat} (h : n < 65536) : 39 ∉ sigL n := by
  intro hc
  rcases List.mem_cons.mp (show 39 ∈ kSign (n / 4096) :: (sigL n).tail from hc) with e | hc
  · exact kSign_ne ⟨n / 4096, by omega⟩ e.symm
  · exact (sigL_tail _ hc).1 rfl
theorem esc_told : ∀ (t : Tr) (m : Str), t.ok → (toldW m t).map esc = toldW (esc m) t
  | .nil, _, _ => rfl
  | .num n r, m, h => by
    rw [toldW, toldW, List.map_cons, esc_told r m h.2, esc_barred]
    have : esc (sigTo (n : Int) 3) = sigTo (n : Int) 3 := esc_free (by rw [sig_is h.1]; exact sigL_ne h.1)
    rw [this]
  | .txt x r, m, h => by
    rw [toldW, toldW, List.map_cons, esc_told r m h.2, esc_barred, esc_escX, esc_deep]
  | .sub t r, m, h => by
    rw [toldW, toldW, List.map_cons, esc_told r m h.2, esc_barred, esc_joinS _ (by decide), esc_told t (deepS m) h.1.1, esc_deep]
/-- a tree as the law draws it -/
inductive Wf : Tr → Prop
  | nil : Wf .nil
  | dir {n : Nat} {t r : Tr} : n / 4096 = 4 → Wf t → Wf r → Wf (.num n (.sub t r))
  | lnk {n : Nat} {x : Str} {r : Tr} : n / 4096 = 10 → Wf r → Wf (.num n (.txt x r))
  | file {n : Nat} {r : Tr} : n / 4096 ≠ 4 → n / 4096 ≠ 10 → Wf r → Wf (.num n r)
theorem quote_eq (x : Str) : quoteS x = if x.cps.toList = [] then Str.ofString "''" else if allSafe x = true then x else Str.ofString "'" ++ esc x ++ Str.ofString "'" := by
  have hx : x.length = 0 ↔ x.cps.toList = [] := by
    show x.cps.size = 0 ↔ _
    rw [← Array.length_toList, List.length_eq_zero_iff]
  unfold quoteS
  by_cases h : x.cps.toList = []
  · rw [if_pos h, if_pos (hx.mpr h)]
  · rw [if_neg h, if_neg fun q => h (hx.mp q), replace_esc]
    rfl
theorem safe_all {x : Str} : allSafe x = true ↔ ∀ c ∈ x.cps.toList, safeC c = true := by
  unfold allSafe
  rw [Array.all_eq_true_iff_forall_mem]
  exact ⟨fun h c hc => h c (Array.mem_toList_iff.mp hc), fun h c hc => h c (Array.mem_toList_iff.mpr hc)⟩
theorem not_safe {x : Str} {c : Nat} (hc : c ∈ x.cps.toList) (h : safeC c = false) : ¬ allSafe x = true := fun q => by
  have := safe_all.mp q c hc
  rw [h] at this; cases this
theorem kind_safe : ∀ K : Fin 16, safeC (kSign K.1) = !decide (kSign K.1 = 63) := by decide +kernel
theorem kinds : ∀ K : Fin 16, K.1 ≠ 4 → K.1 ≠ 10 → ([1, 2, 6, 8, 12].contains K.1) = !decide (kSign K.1 = 63) := by decide +kernel
theorem sig_list {n : Nat} (h : n < 65536) : (sigTo (n : Int) 3).cps.toList = sigL n := by rw [sig_is h]
theorem sig_safe {n : Nat} (h : n < 65536) : allSafe (sigTo (n : Int) 3) = !unk n := by
  rw [unk_is h]
  cases q : decide (kSign (n / 4096) = 63) with
  | false =>
    refine safe_all.mpr fun c hc => ?_
    rw [sig_list h] at hc
    rcases List.mem_cons.mp (show c ∈ kSign (n / 4096) :: (sigL n).tail from hc) with e | hc
    · rw [e, kind_safe ⟨n / 4096, by omega⟩, q]; rfl
    · exact (sigL_tail c hc).2
  | true =>
    refine Bool.eq_false_iff.mpr (not_safe (c := kSign (n / 4096)) (by rw [sig_list h]; exact .head _) ?_)
    rw [kind_safe ⟨n / 4096, by omega⟩, q]; rfl
theorem word_num {n k : Nat} (h : n < 65536) : quoteS (fmS ((n : Int) + 65536 * (k : Int))) = barred (!unk n) (Str.ofString "'") (sigTo (n : Int) 3) := by
  have e : fmS ((n : Int) + 65536 * (k : Int)) = sigTo (n : Int) 3 := by
    show Str.mk (fmTo _ 10).toArray = _
    rw [fm_is h, sig_is h]
  rw [e, quote_eq, if_neg (by rw [sig_list h]; exact fun q => nomatch q), sig_safe h]
  cases q : unk n with
  | false => rw [Bool.not_false, if_pos rfl, barred_t]
  | true =>
    rw [Bool.not_true, if_neg (by decide), barred_f, esc_free (by rw [sig_list h]; exact sigL_ne h)]
theorem safe_txt (c : Nat) : safeTxt.cps.contains c = safeC c := by
  by_cases hc : c < 256
  · have key : ∀ c : Fin 256, safeTxt.cps.contains c.1 = safeC c.1 := by decide +kernel
    exact key ⟨c, hc⟩
  · rw [safe_big (by omega)]
    have all : ∀ d ∈ safeTxt.cps.toList, d < 256 := by decide
    cases q : safeTxt.cps.contains c with
    | false => rfl
    | true => exact absurd (all c (Array.mem_toList_iff.mpr (Array.contains_iff_mem.mp q))) hc
theorem bare_x {x : Str} (h : x.cps.toList ≠ []) : bareX x = allSafe x := by
  have hx : x ≠ Str.ofString "" := fun e => h (by rw [e]; decide)
  unfold bareX allSafe
  rw [decide_eq_true hx, Bool.true_and]
  congr 1
  funext c
  exact safe_txt c
theorem esc_x {x : Str} (h : x.length ≤ 1) : escX (deepS (Str.ofString "'")) x = esc x := by
  rcases one_cases h with rfl | ⟨c, rfl⟩
  · rfl
  · show (if c = 39 then deepS (Str.ofString "'") else sgn c) = esc ⟨#[c]⟩
    by_cases hc : c = 39
    · rw [if_pos hc, hc]; decide
    · rw [if_neg hc]
      exact (esc_free (by show 39 ∉ [c]; simp; omega)).symm
theorem word_txt {x : Str} (h : x.length ≤ 1) : quoteS x = barred (bareX x) (Str.ofString "'") (escX (deepS (Str.ofString "'")) x) := by
  rw [quote_eq, esc_x h]
  by_cases hx : x.cps.toList = []
  · rw [if_pos hx]
    have e : x = ⟨#[]⟩ := by
      obtain ⟨⟨l⟩⟩ := x
      have : l = [] := hx
      rw [this]
    rw [e]; decide
  · rw [if_neg hx, bare_x hx]
    cases q : allSafe x with
    | true =>
      rw [if_pos rfl, barred_t]
      exact (esc_free fun hc => by
        have := safe_all.mp q 39 hc
        rw [show safeC 39 = false from by decide +kernel] at this; cases this).symm
    | false => rw [if_neg (by decide), barred_f]
theorem one_head : ∀ {t : Tr}, t.len = 1 → Wf t → ∃ n, t = .num n .nil ∧ n / 4096 ≠ 4 ∧ n / 4096 ≠ 10
  | _, h, .nil => by cases h
  | _, h, .dir .. => by simp [Tr.len] at h
  | _, h, .lnk .. => by simp [Tr.len] at h
  | .num n .nil, _, .file h1 h2 _ => ⟨n, rfl, h1, h2⟩
  | .num n (.num ..), h, .file .. => by simp [Tr.len] at h
  | .num n (.txt ..), h, .file .. => by simp [Tr.len] at h
  | .num n (.sub ..), h, .file .. => by simp [Tr.len] at h
theorem two_space : ∀ {l : List Str}, 2 ≤ l.length → 32 ∈ (Str.join (Str.ofString " ") l).cps.toList
  | a :: b :: r, _ => by
    rw [join_cons2, show (Str.ofString " ").cps.toList = [32] from by decide]
    exact List.mem_append_right _ (.head _)
theorem toldW_len (m : Str) : ∀ t : Tr, (toldW m t).length = t.len
  | .nil => rfl
  | .num n r => congrArg (· + 1) (toldW_len m r)
  | .txt n r => congrArg (· + 1) (toldW_len m r)
  | .sub n r => congrArg (· + 1) (toldW_len m r)
theorem word_sub {t : Tr} (hw : Wf t) (hok : t.ok) (e : lineS t = toldS (Str.ofString "'") t) : quoteS (lineS t) = barred (bareT t) (Str.ofString "'") (Str.join (Str.ofString " ") (toldW (deepS (Str.ofString "'")) t)) := by
  have e2 : Str.join (Str.ofString " ") (toldW (deepS (Str.ofString "'")) t) = esc (lineS t) := by
    rw [e, toldS, esc_joinS _ (by decide), esc_told t _ hok, esc_mark]
  rw [e2, quote_eq]
  by_cases h0 : t.len = 0
  · have : t = .nil := by
      cases t with
      | nil => rfl
      | num n r => cases h0
      | txt n r => cases h0
      | sub n r => cases h0
    subst this
    decide
  · by_cases h1 : t.len = 1
    · obtain ⟨n, rfl, h4, h10⟩ := one_head h1 hw
      have hl : lineS (.num n .nil) = barred (!unk n) (Str.ofString "'") (sigTo (n : Int) 3) := by
        rw [e]; rfl
      have hn : n < 65536 := hok.1
      have hb : bareT (.num n .nil) = !unk n := by
        show [1, 2, 6, 8, 12].contains (n / 4096) = _
        rw [kinds ⟨n / 4096, by omega⟩ h4 h10, unk_is hn]
      rw [hb, hl]
      cases q : unk n with
      | false =>
        rw [Bool.not_false, barred_t, barred_t, if_neg (by rw [sig_list hn]; exact fun q => nomatch q), sig_safe hn, q, Bool.not_false, if_pos rfl, esc_free (by rw [sig_list hn]; exact sigL_ne hn)]
      | true =>
        rw [Bool.not_true, barred_f, barred_f]
        have hm : 39 ∈ (Str.ofString "'" ++ sigTo (n : Int) 3 ++ Str.ofString "'").cps.toList := by
          show 39 ∈ (#[39] ++ _ ++ #[39] : Array Nat).toList
          simp
        rw [if_neg (fun q => by rw [q] at hm; cases hm), if_neg (not_safe hm (by decide +kernel))]
    · have h32 : 32 ∈ (lineS t).cps.toList := by
        rw [e, toldS]
        exact two_space (by rw [toldW_len]; omega)
      rw [if_neg (fun q => by rw [q] at h32; cases h32), if_neg (not_safe h32 (by decide +kernel)), bareT_len h1, barred_f]
theorem words_told : ∀ {t : Tr}, Wf t → t.ok → ∀ k, (wordsT k t).map quoteS = toldW (Str.ofString "'") t
  | _, .nil, _, _ => rfl
  | _, .dir (n := n) (t := t) (r := r) hn ht hr, h, k => by
    have e : lineS t = toldS (Str.ofString "'") t := by
      show Str.join _ _ = Str.join _ _
      rw [words_told ht h.2.1.1 0]
    rw [wordsT, wordsT, toldW, toldW, List.map_cons, List.map_cons, word_num h.1, words_told hr h.2.2 (k + 1 + 1)]
    congr 2
    exact word_sub ht h.2.1.1 e
  | _, .lnk (n := n) (x := x) (r := r) hn hr, h, k => by
    rw [wordsT, wordsT, toldW, toldW, List.map_cons, List.map_cons, word_num h.1, words_told hr h.2.2 (k + 1 + 1), word_txt h.2.1.1]
  | _, .file (n := n) (r := r) _ _ hr, h, k => by
    rw [wordsT, toldW, List.map_cons, word_num h.1, words_told hr h.2 (k + 1)]
theorem line_told {t : Tr} (hw : Wf t) (hok : t.ok) : lineS t = toldS (Str.ofString "'") t := by
  show Str.join _ _ = Str.join _ _
  rw [words_told hw hok 0]
end
section
theorem strOk_iff {x : Str} : PyData.strOk x = true ↔ ∀ c ∈ x.cps.toList, c < 0x110000 := by
  unfold PyData.strOk
  rw [Array.all_eq_true_iff_forall_mem]
  exact ⟨fun h c hc => of_decide_eq_true (h c (Array.mem_toList_iff.mp hc)), fun h c hc => decide_eq_true (h c (Array.mem_toList_iff.mpr hc))⟩
theorem escL_mem {l : List Nat} {c : Nat} (h : c ∈ escL l) : c ∈ l ∨ c = 39 ∨ c = 34 := by
  obtain ⟨d, hd, hc⟩ := List.mem_flatMap.mp h
  unfold escC at hc
  split at hc
  · simp only [List.mem_cons, List.not_mem_nil, or_false] at hc
    omega
  · rw [List.mem_singleton.mp hc]; exact .inl hd
theorem quote_ok {x : Str} (h : PyData.strOk x = true) : PyData.strOk (quoteS x) = true := by
  rw [strOk_iff] at h ⊢
  rw [quote_list]
  intro c hc
  split at hc
  · simp only [List.mem_cons, List.not_mem_nil, or_false] at hc; omega
  · split at hc
    · exact h c hc
    · rcases List.mem_cons.mp hc with rfl | hc
      · decide
      · rcases List.mem_append.mp hc with hc | hc
        · rcases escL_mem hc with hc | hc | hc
          · exact h c hc
          · omega
          · omega
        · rw [List.mem_singleton.mp hc]; decide
theorem join_okS {sep : Str} (hs : PyData.strOk sep = true) : ∀ {l : List Str}, (∀ x ∈ l, PyData.strOk x = true) → PyData.strOk (Str.join sep l) = true
  | [], _ => strOk_iff.mpr fun c hc => nomatch (show c ∈ ([] : List Nat) from hc)
  | [a], h => h a (.head _)
  | a :: b :: r, h => by
    rw [strOk_iff]
    intro c hc
    rw [join_cons2] at hc
    rcases List.mem_append.mp hc with hc | hc
    · exact strOk_iff.mp (h a (.head _)) c hc
    · rcases List.mem_append.mp hc with hc | hc
      · exact strOk_iff.mp hs c hc
      · exact strOk_iff.mp (join_okS hs fun x hx => h x (.tail _ hx)) c hc
theorem fm_ok {n k : Nat} (h : n < 65536) : PyData.strOk (fmS ((n : Int) + 65536 * (k : Int))) = true := by
  rw [strOk_iff]
  intro c hc
  have e : (fmS ((n : Int) + 65536 * (k : Int))).cps.toList = sigL n := fm_is h
  rw [e] at hc
  rcases List.mem_cons.mp (show c ∈ kSign (n / 4096) :: (sigL n).tail from hc) with e | hc
  · have key : ∀ K : Fin 16, kSign K.1 < 0x110000 := by decide
    rw [e]; exact key ⟨n / 4096, by omega⟩
  · have := (sigL_tail c hc).2
    apply Classical.byContradiction
    intro hn
    rw [safe_big (by omega)] at this; cases this
theorem words_ok : ∀ (t : Tr) (k : Nat), t.ok → ∀ x ∈ wordsT k t, PyData.strOk x = true
  | .nil, _, _, _, h => nomatch h
  | .num n r, k, h, x, hx => by
    rcases List.mem_cons.mp (show x ∈ fmS ((n : Int) + 65536 * (k : Int)) :: wordsT (k + 1) r from hx) with rfl | hx
    · exact fm_ok h.1
    · exact words_ok r _ h.2 x hx
  | .txt y r, k, h, x, hx => by
    rcases List.mem_cons.mp (show x ∈ y :: wordsT (k + 1) r from hx) with rfl | hx
    · exact h.1.2
    · exact words_ok r _ h.2 x hx
  | .sub t r, k, h, x, hx => by
    rcases List.mem_cons.mp (show x ∈ Str.join (Str.ofString " ") ((wordsT 0 t).map quoteS) :: wordsT (k + 1) r from hx) with rfl | hx
    · refine join_okS (by decide +kernel) fun y hy => ?_
      obtain ⟨z, hz, rfl⟩ := List.mem_map.mp hy
      exact quote_ok (words_ok t 0 h.1.1 z hz)
    · exact words_ok r _ h.2 x hx
theorem reads_strs {h : Heap} : ∀ {vs : List Value} {xs : List Str}, StrsAre vs xs → ReadsAll h vs (xs.map PyData.str) []
  | _, _, .nil => .nil
  | _, _, .cons _ _ t => readsAll_cons_val (.str _ _) (reads_strs t)
theorem strs_lay : ∀ {xs : List Str}, (∀ x ∈ xs, PyData.strOk x = true) → PyData.canLayAll0 (xs.map PyData.str) = true
  | [], _ => rfl
  | x :: xs, h => by
    show (PyData.strOk x && PyData.canLayAll0 (xs.map PyData.str)) = true
    rw [h x (.head _), strs_lay fun y hy => h y (.tail _ hy)]; rfl
theorem strs_depth : ∀ xs : List Str, PyData.depthAll (xs.map PyData.str) = 0
  | [] => rfl
  | x :: xs => by
    show max (PyData.depth (.str x)) (PyData.depthAll (xs.map PyData.str)) = 0
    rw [strs_depth xs]; rfl
theorem shaped_strs {xs : List Str} (h : ∀ x ∈ xs, PyData.strOk x = true) : SeqAt.shaped (PyData.list (xs.map PyData.str)) = true := by
  unfold SeqAt.shaped
  have h1 : (PyData.list (xs.map PyData.str)).canLay0 = true := strs_lay h
  have h2 : (PyData.list (xs.map PyData.str)).depth = 1 := by
    show PyData.depthAll (xs.map PyData.str) + 1 = 1
    rw [strs_depth]
  rw [h1, h2]; rfl
/-- a tree as data -/
noncomputable def dataT : Tr → List PyData
  | .nil => []
  | .num n r => .int n :: dataT r
  | .txt x r => .str x :: dataT r
  | .sub t r => .list (dataT t) :: dataT r
theorem data_lay : ∀ {t : Tr}, t.ok → PyData.canLayAll0 (dataT t) = true
  | .nil, _ => rfl
  | .num n r, h => by
    show (true && PyData.canLayAll0 (dataT r)) = true
    rw [data_lay h.2]; rfl
  | .txt x r, h => by
    show (PyData.strOk x && PyData.canLayAll0 (dataT r)) = true
    rw [data_lay h.2, h.1.2]; rfl
  | .sub t r, h => by
    show (PyData.canLayAll0 (dataT t) && PyData.canLayAll0 (dataT r)) = true
    rw [data_lay h.1.1, data_lay h.2]; rfl
theorem data_depth : ∀ t : Tr, PyData.depthAll (dataT t) = t.dep
  | .nil => rfl
  | .num n r => by
    show max 0 (PyData.depthAll (dataT r)) = r.dep
    rw [data_depth r]; exact Nat.zero_max _
  | .txt x r => by
    show max 0 (PyData.depthAll (dataT r)) = r.dep
    rw [data_depth r]; exact Nat.zero_max _
  | .sub t r => by
    show max (PyData.depthAll (dataT t) + 1) (PyData.depthAll (dataT r)) = max (t.dep + 1) r.dep
    rw [data_depth r, data_depth t]
theorem shaped_tree {t : Tr} (h : t.ok) (hd : t.dep ≤ 60) : SeqAt.shaped (PyData.list (dataT t)) = true := by
  unfold SeqAt.shaped
  have h1 : (PyData.list (dataT t)).canLay0 = true := data_lay h
  have h2 : (PyData.list (dataT t)).depth = t.dep + 1 := by
    show PyData.depthAll (dataT t) + 1 = _
    rw [data_depth]
  rw [h1, h2, decide_eq_true (by omega)]; rfl
theorem reads_tree {h : Heap} : ∀ {t : Tr} {vs : List Value}, Vals (inHeap h) t vs → ∃ as, ReadsAll h vs (dataT t) as
  | .nil, _, e => by cases e; exact ⟨_, .nil⟩
  | .num n r, _, ⟨t, vs', e, q⟩ => by
    subst e
    obtain ⟨as, ha⟩ := reads_tree q
    exact ⟨_, .cons (.int _ _) ha⟩
  | .txt x r, _, ⟨t, vs', e, q⟩ => by
    subst e
    obtain ⟨as, ha⟩ := reads_tree q
    exact ⟨_, .cons (.str _ _) ha⟩
  | .sub t r, _, ⟨a, vs', ws, e, hl, q, q'⟩ => by
    subst e
    obtain ⟨as, ha⟩ := reads_tree q
    obtain ⟨bs, hb⟩ := reads_tree q'
    obtain ⟨o, ho, hc, n, hd⟩ := hl
    exact ⟨_, .cons (.list ho hc hd (by simpa using ha)) hb⟩
end
section
theorem Wf.app {a b : Tr} (ha : Wf a) (hb : Wf b) : Wf (a.app b) := by
  induction ha with
  | nil => exact hb
  | dir h ht hr _ ih => exact .dir h ht ih
  | lnk h hr ih => exact .lnk h ih
  | file h1 h2 hr ih => exact .file h1 h2 ih
theorem Wf.hd {t : Tr} (h : Wf t) : t.hd := by cases h <;> trivial
/-- an open directory: its number stands last -/
noncomputable def Opn (P : Tr) : Prop := ∃ Q n, P = Q.app (.num n .nil) ∧ n / 4096 = 4 ∧ Wf Q
theorem Opn.shut {P T : Tr} (h : Opn P) (hT : Wf T) : Wf (P.app (.sub T .nil)) := by
  obtain ⟨Q, n, rfl, hn, hQ⟩ := h
  rw [Tr.app_assoc]
  exact hQ.app (.dir hn hT .nil)
theorem tcl_all : ∀ (Ps : List Tr) (T : Tr) (B : Nat), B ≤ 1000 → T.ok → Wf T → T.len ≤ B → (∀ P ∈ Ps, Opn P ∧ P.ok ∧ P.len + 1 ≤ B) → (tcl T Ps).ok ∧ Wf (tcl T Ps) ∧ (tcl T Ps).len ≤ B
  | [], T, B, _, h1, h2, h3, _ => ⟨h1, h2, h3⟩
  | P :: Ps, T, B, hB, h1, h2, h3, h4 => by
    obtain ⟨p1, p2, p3⟩ := h4 P (.head _)
    refine tcl_all Ps (P.app (.sub T .nil)) B hB (Tr.ok_app.mpr ⟨p2, ⟨h1, by omega, h2.hd⟩, trivial⟩) (p1.shut h2) ?_ fun X hX => h4 X (.tail _ hX)
    rw [Tr.len_app]
    exact p3
theorem tg_ok (R : Nat) : (tgOf ((R : Nat) : Int)).length ≤ 1 ∧ PyData.strOk (tgOf ((R : Nat) : Int)) = true := by
  unfold tgOf
  split
  · rename_i h
    have h' : R < 16 := by omega
    have key : ∀ i : Fin 16, (tgSigns.getD i.1 Str.empty).length ≤ 1 ∧ PyData.strOk (tgSigns.getD i.1 Str.empty) = true := by decide +kernel
    exact key ⟨R, h'⟩
  · refine ⟨Nat.le_refl _, strOk_iff.mpr fun c hc => ?_⟩
    have e : (R : Int).fmod 55296 = ((R % 55296 : Nat) : Int) := by rw [Int.fmod_eq_emod_of_nonneg _ (by decide)]; rfl
    rw [List.mem_singleton.mp (show c ∈ [((R : Int).fmod 55296).toNat] from hc), e]
    have : R % 55296 < 55296 := Nat.mod_lt _ (by decide)
    show R % 55296 < 1114112
    omega
theorem kd_le {K : Nat} (h : K < 21) : kdOf K ≤ 15 := by
  unfold kdOf
  split
  · split <;> decide
  · omega
noncomputable def TInv (S : Tr × List Tr) (i : Nat) : Prop := S.1.ok ∧ Wf S.1 ∧ S.1.len ≤ 2 * i ∧ ∀ P ∈ S.2, Opn P ∧ P.ok ∧ P.len ≤ 2 * i
/-- what a number adds -/
noncomputable def adds (R K : Nat) (k : Nat) : Tr := if K = 20 then .nil else if kdOf K = 10 then .num (kdOf K * 4096 + R % 4096) (.txt (tgOf ((R / 4096 : Nat) : Int)) .nil) else if kdOf K = 4 then .num (kdOf K * 4096 + R % 4096) (.sub .nil .nil) else .num (kdOf K * 4096 + R % 4096) .nil
theorem tstep_adds (S : Tr × List Tr) (R K : Nat) : tcl (tstep S R K).1 (tstep S R K).2 = tcl (S.1.app (adds R K S.2.length)) S.2 := by
  obtain ⟨T, Ps⟩ := S
  unfold tstep adds
  by_cases hK : K = 20
  · rw [if_pos hK, if_pos hK]
    cases Ps with
    | nil => show T = T.app .nil; rw [Tr.app_nil]
    | cons P Ps => show tcl (P.app (.sub T .nil)) Ps = tcl (T.app .nil) (P :: Ps); rw [Tr.app_nil]; rfl
  · rw [if_neg hK, if_neg hK]
    dsimp only
    by_cases h10 : kdOf K = 10
    · rw [if_pos h10, if_pos h10, Tr.app_assoc]; rfl
    · rw [if_neg h10, if_neg h10]
      by_cases h4 : kdOf K = 4
      · rw [if_pos h4, if_pos h4]
        split
        · show tcl ((T.app _).app (.sub .nil .nil)) Ps = _
          rw [Tr.app_assoc]; rfl
        · rw [Tr.app_assoc]; rfl
      · rw [if_neg h4, if_neg h4]
theorem tinv_step {S : Tr × List Tr} {i R K : Nat} (hi : i ≤ 100) (hK : K < 21) (h : TInv S i) : TInv (tstep S R K) (i + 1) := by
  obtain ⟨T, Ps⟩ := S
  obtain ⟨h1, h2, h3, h4⟩ := h
  have h4' : ∀ P ∈ Ps, Opn P ∧ P.ok ∧ P.len ≤ 2 * (i + 1) := fun P hP => ⟨(h4 P hP).1, (h4 P hP).2.1, Nat.le_trans (h4 P hP).2.2 (by omega)⟩
  have hk := kd_le hK
  have hn : kdOf K * 4096 + R % 4096 < 65536 := by omega
  have hd : (kdOf K * 4096 + R % 4096) / 4096 = kdOf K := by omega
  dsimp only at h1 h2 h3 h4
  unfold tstep
  by_cases hK : K = 20
  · rw [if_pos hK]
    cases Ps with
    | nil => exact ⟨h1, h2, by show T.len ≤ _; omega, fun _ h => nomatch h⟩
    | cons P Ps =>
      obtain ⟨p1, p2, p3⟩ := h4 P (.head _)
      refine ⟨Tr.ok_app.mpr ⟨p2, ⟨h1, by omega, h2.hd⟩, trivial⟩, p1.shut h2, ?_, fun X hX => h4' X (.tail _ hX)⟩
      show (P.app _).len ≤ _
      rw [Tr.len_app]
      show P.len + 1 ≤ _
      omega
  · rw [if_neg hK]
    dsimp only
    have tg := tg_ok (R / 4096)
    by_cases h10 : kdOf K = 10
    · rw [if_pos h10, Tr.app_assoc]
      refine ⟨Tr.ok_app.mpr ⟨h1, hn, tg, trivial⟩, h2.app (.lnk (hd.trans h10) .nil), ?_, h4'⟩
      show (T.app _).len ≤ _
      rw [Tr.len_app]
      show T.len + 2 ≤ _
      omega
    · rw [if_neg h10]
      by_cases hk4 : kdOf K = 4
      · rw [if_pos hk4]
        split
        · refine ⟨trivial, .nil, Nat.zero_le _, fun P hP => ?_⟩
          rcases List.mem_cons.mp hP with rfl | hP
          · refine ⟨⟨T, _, rfl, hd.trans hk4, h2⟩, Tr.ok_app.mpr ⟨h1, hn, trivial⟩, ?_⟩
            rw [Tr.len_app]
            show T.len + 1 ≤ _
            omega
          · exact h4' P hP
        · rw [Tr.app_assoc]
          refine ⟨Tr.ok_app.mpr ⟨h1, hn, ⟨trivial, by decide, trivial⟩, trivial⟩, h2.app (.dir (hd.trans hk4) .nil .nil), ?_, h4'⟩
          show (T.app _).len ≤ _
          rw [Tr.len_app]
          show T.len + 2 ≤ _
          omega
      · rw [if_neg hk4]
        refine ⟨Tr.ok_app.mpr ⟨h1, hn, trivial⟩, h2.app (.file (by rw [hd]; exact hk4) (by rw [hd]; exact h10) .nil), ?_, h4'⟩
        show (T.app _).len ≤ _
        rw [Tr.len_app]
        show T.len + 1 ≤ _
        omega
noncomputable def mIn (M : Nat) : Nat → Nat
  | 0 => M
  | k + 1 => 3 * mIn M k + 2
theorem lenB_tcl (M : Nat) : ∀ Ps : List Tr, ∃ c, ∀ T, lenB M (tcl T Ps) = c + lenB (mIn M Ps.length) T
  | [] => ⟨0, fun T => (Nat.zero_add _).symm⟩
  | P :: Ps => by
    obtain ⟨c, h⟩ := lenB_tcl M Ps
    refine ⟨c + lenB (mIn M Ps.length) P + 2 * mIn M Ps.length + 1, fun T => ?_⟩
    rw [tcl, h, lenB_app]
    show c + (lenB _ P + (2 * mIn M Ps.length + lenB (3 * mIn M Ps.length + 2) T + 1 + 0)) = _ + lenB (3 * mIn M Ps.length + 2) T
    omega
theorem lnB_tcl : ∀ Ps : List Tr, ∃ c, ∀ T, lnB (tcl T Ps) = c + 5 ^ Ps.length * lnB T
  | [] => ⟨0, fun T => by show lnB T = 0 + 1 * lnB T; omega⟩
  | P :: Ps => by
    obtain ⟨c, h⟩ := lnB_tcl Ps
    refine ⟨c + 5 ^ Ps.length * lnB P + 5 ^ Ps.length * 3, fun T => ?_⟩
    rw [tcl, h, lnB_app]
    show c + 5 ^ Ps.length * (lnB P + (5 * lnB T + 3 + 0)) = _ + 5 ^ (Ps.length + 1) * lnB T
    rw [Nat.pow_succ, Nat.mul_add, Nat.add_zero, Nat.mul_add, Nat.mul_assoc]
    omega
theorem dep_tcl : ∀ Ps : List Tr, ∃ c, ∀ T, (tcl T Ps).dep = max c (T.dep + Ps.length)
  | [] => ⟨0, fun T => (Nat.zero_max _).symm⟩
  | P :: Ps => by
    obtain ⟨c, h⟩ := dep_tcl Ps
    refine ⟨max c (P.dep + Ps.length), fun T => ?_⟩
    rw [tcl, h, Tr.dep_app]
    show max c (max P.dep (max (T.dep + 1) 0) + Ps.length) = max (max c (P.dep + Ps.length)) (T.dep + (Ps.length + 1))
    rw [Nat.max_eq_left (Nat.zero_le _), ← Nat.add_max_add_right, Nat.max_assoc, Nat.add_right_comm, Nat.add_assoc]
theorem adds_all (R K k M : Nat) : lenB M (adds R K k) ≤ 7 * M + 14 ∧ lnB (adds R K k) ≤ 61 ∧ (adds R K k).dep ≤ 1 := by
  unfold adds
  split
  · exact ⟨Nat.zero_le _, Nat.zero_le _, Nat.zero_le _⟩
  · split
    · simp only [lenB, lnB, Tr.dep]; omega
    · split
      · simp only [lenB, lnB, Tr.dep]; omega
      · simp only [lenB, lnB, Tr.dep]; omega
theorem mIn_le {k : Nat} (h : k ≤ 2) : mIn 1 k ≤ 17 ∧ 5 ^ k ≤ 25 := by
  match k, h with
  | 0, _ => decide
  | 1, _ => decide
  | 2, _ => decide
theorem trun_all : ∀ (l : List Int) (S : Tr × List Tr) (i : Nat), i + l.length ≤ 100 → S.2.length ≤ 2 → TInv S i →
    TInv (trun S l) (i + l.length) ∧ (trun S l).2.length ≤ 2 ∧ lenB 1 (tcl (trun S l).1 (trun S l).2) ≤ lenB 1 (tcl S.1 S.2) + 133 * l.length ∧ lnB (tcl (trun S l).1 (trun S l).2) ≤ lnB (tcl S.1 S.2) + 1525 * l.length ∧ (tcl (trun S l).1 (trun S l).2).dep ≤ max (tcl S.1 S.2).dep 3
  | [], S, i, _, h2, h => ⟨h, h2, Nat.le_refl _, Nat.le_refl _, Nat.le_max_left _ _⟩
  | x :: l, S, i, hi, h2, h => by
    have hi' : i + 1 + l.length ≤ 100 := by simp only [List.length_cons] at hi; omega
    obtain ⟨a1, a2, a3, a4, a5⟩ := trun_all l (tstep S (rOf x) (kOf x)) (i + 1) hi' (tstep_len S _ _ h2) (tinv_step (by omega) (k_lt' x) h)
    have e := tstep_adds S (rOf x) (kOf x)
    rw [e] at a3 a4 a5
    obtain ⟨b1, b2⟩ := mIn_le h2
    obtain ⟨u1, u2, u3⟩ := adds_all (rOf x) (kOf x) S.2.length (mIn 1 S.2.length)
    obtain ⟨c, hc⟩ := lenB_tcl 1 S.2
    obtain ⟨c', hc'⟩ := lnB_tcl S.2
    obtain ⟨c'', hc''⟩ := dep_tcl S.2
    rw [hc, lenB_app] at a3
    rw [hc', lnB_app, Nat.mul_add] at a4
    rw [hc'', Tr.dep_app] at a5
    rw [hc, hc', hc'']
    have m1 : 5 ^ S.2.length * lnB (adds (rOf x) (kOf x) S.2.length) ≤ 25 * 61 := Nat.mul_le_mul b2 u2
    refine ⟨?_, a2, ?_, ?_, ?_⟩
    · rw [List.length_cons, show i + (l.length + 1) = i + 1 + l.length by omega]; exact a1
    · rw [List.length_cons]; exact Nat.le_trans a3 (by omega)
    · rw [List.length_cons]; exact Nat.le_trans a4 (by omega)
    · exact Nat.le_trans a5 (by omega)
theorem tree_all (l : List Int) (h : l.length ≤ 7) : Wf (treeT l) ∧ (treeT l).ok ∧ (treeT l).len ≤ 1000 ∧ (treeT l).dep < 4 ∧ lnB (treeT l) ≤ 100000 ∧ lenB 1 (treeT l) ≤ 1000000 := by
  obtain ⟨⟨a1, a2, a3, a4⟩, _, b1, b2, b3⟩ := trun_all l (.nil, []) 0 (by omega) (by decide) ⟨trivial, .nil, Nat.le_refl _, fun _ h => nomatch h⟩
  obtain ⟨c1, c2, c3⟩ := tcl_all (trun (.nil, []) l).2 (trun (.nil, []) l).1 100 (by decide) a1 a2 (by omega) fun P hP => ⟨(a4 P hP).1, (a4 P hP).2.1, by have := (a4 P hP).2.2; omega⟩
  have z1 : lenB 1 (tcl Tr.nil []) = 0 := rfl
  have z2 : lnB (tcl Tr.nil []) = 0 := rfl
  have z3 : (tcl Tr.nil []).dep = 0 := rfl
  rw [z1] at b1
  rw [z2] at b2
  rw [z3] at b3
  unfold treeT
  exact ⟨c2, c1, by omega, by omega, by omega, by omega⟩
theorem knownT_ok : ∀ {t : Tr}, t.ok → (knownT t).ok ∧ (knownT t).dep = t.dep ∧ (knownT t).len = t.len ∧ (t.hd → (knownT t).hd)
  | .nil, _ => ⟨trivial, rfl, rfl, id⟩
  | .num n r, h => by
    obtain ⟨h1, h2, h3, h4⟩ := knownT_ok h.2
    refine ⟨⟨?_, h1⟩, h2, congrArg (· + 1) h3, fun _ => trivial⟩
    have := h.1
    split
    · omega
    · exact this
  | .txt x r, h => by
    obtain ⟨h1, h2, h3, h4⟩ := knownT_ok h.2
    exact ⟨⟨h.1, h1⟩, h2, congrArg (· + 1) h3, id⟩
  | .sub t r, h => by
    obtain ⟨h1, h2, h3, h4⟩ := knownT_ok h.2
    obtain ⟨k1, k2, k3, k4⟩ := knownT_ok h.1.1
    exact ⟨⟨⟨k1, by rw [k3]; exact h.1.2.1, k4 h.1.2.2⟩, h1⟩, by show max ((knownT t).dep + 1) (knownT r).dep = max (t.dep + 1) r.dep; rw [h2, k2], congrArg (· + 1) h3, id⟩
end
section
section
variable {prog : Program} {w : World} {A A₀ : Around} {Q : Flow → Shared → Prop} {s : Shared} {env : Env} {base g : Heap} {outer : List Env} {L : Addr}
/-- what a turn of a while must leave, where calls within raise -/
noncomputable def WPostR (A₀ : Around) (base : Heap) (outer : List Env) (g : Heap) (L : Addr) (J : Nat → (Str → Option Value) → List (Addr × Obj) → Prop) (n : Nat) (s : Shared) (Q : Flow → Shared → Prop) (f : Flow) (s₃ : Shared) : Prop :=
  match f with
  | .ret v => Q (.ret v) s₃
  | .brk => Q .next s₃
  | _ => ∃ h' tk m' news' n' g', s₃ = { s with heap := h', toks := tk } ∧ KtsTurn (fsOf outer) g g' ∧ Below A₀ base outer g' ∧ Fr g' L h' m' ∧ News g' L h' news' ∧ n' < n ∧ J n' m' news'
theorem WPostR.next {J : Nat → (Str → Option Value) → List (Addr × Obj) → Prop} {n n' tk : Nat} {g' h' : Heap} {m' : Str → Option Value} {news' : List (Addr × Obj)} (T : KtsTurn (fsOf outer) g g') (K : Below A₀ base outer g') (F : Fr g' L h' m') (N : News g' L h' news') (hn : n' < n) (hJ : J n' m' news') : WPostR A₀ base outer g L J n s Q .next { s with heap := h', toks := tk } := ⟨h', tk, m', news', n', g', rfl, T, K, F, N, hn, hJ⟩
/-- what a statement leaves that goes on to the next, where calls within raise -/
noncomputable def EndR (A₀ : Around) (base : Heap) (outer : List Env) (g : Heap) (L : Addr) (J : (Str → Option Value) → List (Addr × Obj) → Prop) (s : Shared) (fl : Flow) (s' : Shared) : Prop :=
  fl = .next ∧ ∃ h' tk' m' news' g', s' = { s with heap := h', toks := tk' } ∧ KtsTurn (fsOf outer) g g' ∧ Below A₀ base outer g' ∧ Fr g' L h' m' ∧ News g' L h' news' ∧ J m' news'
theorem EndR.intro {J : (Str → Option Value) → List (Addr × Obj) → Prop} {h' g' : Heap} {tk' : Nat} {m' : Str → Option Value} {news' : List (Addr × Obj)} (T : KtsTurn (fsOf outer) g g') (K : Below A₀ base outer g') (F : Fr g' L h' m') (N : News g' L h' news') (hJ : J m' news') : EndR A₀ base outer g L J s .next { s with heap := h', toks := tk' } := ⟨rfl, h', tk', m', news', g', rfl, T, K, F, N, hJ⟩
theorem while_ruleR {test : Expr} {body : List Stmt} {pos : Pos} {m : Str → Option Value} {news : List (Addr × Obj)} (J : Nat → (Str → Option Value) → List (Addr × Obj) → Prop) (n₀ : Nat) (K : Below A₀ base outer g)
    (F : Fr g L s.heap m) (N : News g L s.heap news) (hJ : J n₀ m news)
    (turn : ∀ n g₁ m₁ news₁ h₁ tk₁, KtsTurn (fsOf outer) g g₁ → Below A₀ base outer g₁ → Fr g₁ L h₁ m₁ → News g₁ L h₁ news₁ → J n m₁ news₁ →
      wpAny (model prog w) A (isTrue test env (eval test env)) (fun b s₂ =>
        if b = true then wpAny (model prog w) A (execs body env) (WPostR A₀ base outer g₁ L J n s Q) (fun _ _ => False) s₂ else Q .next s₂) (fun _ _ => False) { s with heap := h₁, toks := tk₁ }) :
    wpAny (model prog w) A (exec (.While test body [] pos) env) Q (fun _ _ => False) s := by
  refine wpAny_While (codeAny_whileLoop (fun n s' => ∃ h₁ tk₁ m₁ news₁ g₁, s' = { s with heap := h₁, toks := tk₁ } ∧ KtsTurn (fsOf outer) g g₁ ∧ Below A₀ base outer g₁ ∧ Fr g₁ L h₁ m₁ ∧ News g₁ L h₁ news₁ ∧ J n m₁ news₁) ?_ n₀ ⟨s.heap, s.toks, m, news, g, rfl, KtsTurn.refl, K, F, N, hJ⟩)
  rintro n s' ⟨h₁, tk₁, m₁, news₁, g₁, rfl, T₁, K₁, F₁, N₁, J₁⟩
  refine wpAny_mono (turn n g₁ m₁ news₁ h₁ tk₁ T₁ K₁ F₁ N₁ J₁) (fun b s₂ h₂ => ?_) fun _ _ e => e.elim
  have fin : ∀ s₃, (∃ h' tk m' news' n' g', s₃ = { s with heap := h', toks := tk } ∧ KtsTurn (fsOf outer) g₁ g' ∧ Below A₀ base outer g' ∧ Fr g' L h' m' ∧ News g' L h' news' ∧ n' < n ∧ J n' m' news') →
      ∃ m, m < n ∧ ∃ h₁ tk₁ m₁ news₁ g₁, s₃ = { s with heap := h₁, toks := tk₁ } ∧ KtsTurn (fsOf outer) g g₁ ∧ Below A₀ base outer g₁ ∧ Fr g₁ L h₁ m₁ ∧ News g₁ L h₁ news₁ ∧ J m m₁ news₁ := by
    rintro s₃ ⟨h', tk, m', news', n', g', rfl, T', K', F', N', hn, J'⟩
    exact ⟨n', hn, h', tk, m', news', g', rfl, T₁.trans T', K', F', N', J'⟩
  cases b with
  | false =>
    simp only [Bool.false_eq_true, if_false] at h₂ ⊢
    exact wpAny_execs_nil h₂
  | true =>
    simp only [if_true] at h₂ ⊢
    refine wpAny_mono h₂ (fun f s₃ h₃ => ?_) fun _ _ e => e.elim
    cases f with
    | ret v => exact h₃
    | brk => exact h₃
    | cont => exact fin s₃ h₃
    | next => exact fin s₃ h₃
end
end
section
variable {w : World} {p : Program} {loose : List Str} {mg mb : Str → Option Value}
local macro_rules | `(tactic| walk_at "exec If") => `(tactic| refine wpAny_If ?_)
theorem item_nn {A : Around} {E : Value → Shared → Prop} {s : Shared} {value slice : Expr} {l : Addr} {vs : Array Value} {x : Value} {k : Int} {u : Tok} {Q : Value → Shared → Prop} (hl : s.heap.IsList l vs) (h0 : 0 ≤ k) (h1 : k < 1000000) (hx : vs[k.toNat]? = some x) (h : Q x s)
    (hs : subscripted slice false (.ref l) (.int k u) = operate [.ref l, .int k u] (getItem (.ref l) (.int k u)) := by with_unfolding_all rfl) :
    wpAny (model PySem.Challenge.rw_mr0361_01.prog w) A (subscriptTail value slice (.ref l) (.int k u)) Q E s :=
  tail_any hl.typeIs slot_list_getitem.lookup (wpAny_getItem_list hl h0 (by omega) hx h) hs
theorem weird_at (t0 t1 t2 t3 t4 t5 t6 t7 t8 : Tok) : ∀ i : Nat, i < 9 → ∃ (kk : Nat) (tk : Tok), ([.int 0 t0, .int 3 t1, .int 5 t2, .int 7 t3, .int 9 t4, .int 11 t5, .int 13 t6, .int 14 t7, .int 15 t8] : List Value).toArray[i]? = some (.int (kk : Nat) tk) ∧ kk < 16 ∧ kk ≠ 4 ∧ kk ≠ 10
  | 0, _ => ⟨0, t0, rfl, by decide, by decide, by decide⟩
  | 1, _ => ⟨3, t1, rfl, by decide, by decide, by decide⟩
  | 2, _ => ⟨5, t2, rfl, by decide, by decide, by decide⟩
  | 3, _ => ⟨7, t3, rfl, by decide, by decide, by decide⟩
  | 4, _ => ⟨9, t4, rfl, by decide, by decide, by decide⟩
  | 5, _ => ⟨11, t5, rfl, by decide, by decide, by decide⟩
  | 6, _ => ⟨13, t6, rfl, by decide, by decide, by decide⟩
  | 7, _ => ⟨14, t7, rfl, by decide, by decide, by decide⟩
  | 8, _ => ⟨15, t8, rfl, by decide, by decide, by decide⟩
  | _ + 9, h => absurd h (by omega)
theorem unk_zero {n : Nat} (h : n < 65536) (hu : unk n = false) : 4096 ≤ n := by
  rw [unk_is h] at hu
  have : n / 4096 ≠ 0 := fun e => by rw [e] at hu; revert hu; decide
  omega
theorem unk_kind {n : Nat} (h : n < 65536) (hu : unk n = true) : n / 4096 ≠ 4 ∧ n / 4096 ≠ 10 := by
  rw [unk_is h] at hu
  exact ⟨fun e => by rw [e] at hu; revert hu; decide, fun e => by rw [e] at hu; revert hu; decide⟩
/-- what the number is behind the first test -/
noncomputable def numF (n0 : Nat) (z : Int) : Prop := ∃ y : Nat, z = y ∧ y < 65536 ∧ (y / 4096 = 4 ↔ n0 / 4096 = 4) ∧ (y / 4096 = 10 ↔ n0 / 4096 = 10)
/-- what the loop of _law_read keeps -/
noncomputable def readJ (t : Tr) (n : Nat) (m : Str → Option Value) (news : List (Addr × Obj)) : Prop :=
  ∃ Tr Wd vs k ws k2 extra, m "tree" = some (.ref Tr) ∧ m "words" = some (.ref Wd) ∧ news = (Tr, W.listOf vs k) :: (Wd, W.listOf ws k2) :: extra ∧ (∀ q ∈ (Wd, W.listOf ws k2) :: extra, q.1 ≠ Tr) ∧
    ∃ done rem : Mine.Tr, ∃ j : Nat, t = done.app rem ∧ Wf rem ∧ rem.ok ∧ StrsAre ws.toList (wordsT j rem) ∧ j = done.len ∧ Vals (inLed extra) (knownT done) vs.toList ∧ n = rem.len ∧ vs.size = done.len
theorem slice_from (its : Array Value) {x : Int} (h : 0 ≤ x) : (slicePick its (some x) none none).toList = its.toList.drop x.toNat := by
  have e : sliceBounds (some x) none none its.size = (((min x.toNat its.size : Nat) : Int), ((its.size : Nat) : Int), 1) := by
    simp only [sliceBounds, Option.getD_none, show (1 : Int) > 0 by decide, if_true, if_neg (show ¬ (x < 0) by omega)]
    congr 1
    omega
  rw [kmk_pick_nat _ e]
  show (its.toList.drop (min x.toNat its.size)).take (its.size - min x.toNat its.size) = _
  rw [← Array.length_toList, kmk_drop_min, List.take_of_length_le (by rw [List.length_drop]; omega)]
theorem read_fin {A₀ : Around} {base g g' h' : Heap} {outer : List Env} {L Tr1 Wn : Addr} {t done rem : Tr} {n tk' : Nat} {s : Shared} {Q : Flow → Shared → Prop} {m' : Str → Option Value} {vs ws : Array Value} {k k4 : Nat} {extra : List (Addr × Obj)} (T : KtsTurn (fsOf outer) g g') (K : Below A₀ base outer g') (F : Fr g' L h' m') (N : News g' L h' ((Wn, W.listOf ws k4) :: (Tr1, W.listOf vs k) :: extra)) (hnd : ∀ q ∈ extra, q.1 ≠ Tr1) (hW : ∀ q ∈ (Tr1, W.listOf vs k) :: extra, q.1 < Wn)
    (hm1 : m' "tree" = some (.ref Tr1)) (hm2 : m' "words" = some (.ref Wn)) (ht : t = done.app rem) (hw : Wf rem) (hok : rem.ok) (hws : StrsAre ws.toList (wordsT done.len rem)) (hd : Vals (inLed extra) (knownT done) vs.toList) (hn : rem.len < n) (hv : vs.size = done.len) :
    WPostR A₀ base outer g L (readJ t) n s Q .next ⟨h', s.gens, s.drawn, tk', s.os⟩ := by
  refine WPostR.next T K F (news' := (Tr1, W.listOf vs k) :: (Wn, W.listOf ws k4) :: extra) (fun q hq => N q ?_) hn ⟨Tr1, Wn, vs, k, ws, k4, extra, hm1, hm2, rfl, fun q hq => ?_, done, rem, done.len, ht, hw, hok, hws, rfl, hd, rfl, hv⟩
  · rcases List.mem_cons.mp hq with rfl | hq
    · exact .tail _ (.head _)
    · rcases List.mem_cons.mp hq with rfl | hq
      · exact .head _
      · exact .tail _ (.tail _ hq)
  · rcases List.mem_cons.mp hq with rfl | hq
    · exact Nat.ne_of_gt (hW _ (.head _))
    · exact hnd q hq
theorem c_read : ∀ (n : Nat) (t : Tr), t.dep < n → Wf t → t.ok → t.len ≤ 1000 → lnB t ≤ 1000000 → ∀ tk, ConR w p loose mg mb 867 [.str (lineS t) tk] (n + 30) (100 * n + 500) (fun r ns => ∃ D vs k, r = .ref D ∧ (D, W.listOf vs k) ∈ ns ∧ Vals (inLed ns) (knownT t) vs.toList) := by
  intro n
  induction n with
  | zero => exact fun t h => absurd h (Nat.not_lt_zero _)
  | succ n ih =>
  intro t hdep hwf hok hlen hB tk
  refine' ConR.of_body [("line", .str (lineS t) tk)] ?ho ?hcd ?b1 ?b2 ?hb ?hl ?a1 ?a2 ?a3 ?a4 ?a5 ?h
  case ho => k_is
  case hcd => k_is
  case hb => exact fun s X => BindsTo.of_eq rfl
  all_goals try exact rfl
  case a4 => omega
  rintro A₀ A base g outer L s Q hA K F N Xb Tb X T hh hd hu hret
  have hll := lineS_len hok
  (repeat' ((fail_if_success (with_reducible show wpAny _ _ (newList (_ :: _)) _ _ _)); (fail_if_success (with_reducible show wpAny _ _ (exec (Stmt.While _ _ _ _) _) _ _ _)); (fail_if_success (with_reducible show wpAny _ _ (exec (Stmt.If _ _ _ _) _) _ _ _)); (fail_if_success (with_reducible show wpAny _ _ (call (Value.ref _) _) _ _ _)); (fail_if_success (with_reducible show wpAny _ _ (call (Value.builtin "len") _) _ _ _)); (fail_if_success (with_reducible show wpAny _ _ (compareOp _ (Value.ref _) (Value.ref _)) _ _ _)); (fail_if_success (with_reducible show wpAny _ _ (subscriptTail _ _ (Value.ref _) _) _ _ _)); (first | (k_unfold; (try dsimp only)) | walk1 | (dsimp only; walk1))))
  refine (c_split (lineS t) tk (wordsT 0 t) (by omega) (lexes_line (wordsT 0 t)) (by rw [wordsT_len]; omega)).use K hA rfl F N Xb Tb hh (by omega) (by omega) ?_
  rintro r h1 tk1 ns g1 T1 K1 F1 N1 hap1 X1 Tp1 ⟨Wd, ws0, k2, rfl, hmem, hws0⟩
  have N2 : News g1 L h1 [(Wd, W.listOf ws0.toArray k2)] := fun q hq => by
    rcases List.mem_singleton.mp hq with rfl
    exact N1 _ (List.mem_append_left _ hmem)
  clear F N N1 X T
  (repeat' ((fail_if_success (with_reducible show wpAny _ _ (newList (_ :: _)) _ _ _)); (fail_if_success (with_reducible show wpAny _ _ (exec (Stmt.While _ _ _ _) _) _ _ _)); (fail_if_success (with_reducible show wpAny _ _ (exec (Stmt.If _ _ _ _) _) _ _ _)); (fail_if_success (with_reducible show wpAny _ _ (call (Value.ref _) _) _ _ _)); (fail_if_success (with_reducible show wpAny _ _ (call (Value.builtin "len") _) _ _ _)); (fail_if_success (with_reducible show wpAny _ _ (compareOp _ (Value.ref _) (Value.ref _)) _ _ _)); (fail_if_success (with_reducible show wpAny _ _ (subscriptTail _ _ (Value.ref _) _) _ _ _)); (first | (k_unfold; (try dsimp only)) | walk1 | (dsimp only; walk1))))
  rename_i Tr0 _ l1 _ _ F3 N3
  have hTW : Tr0 ≠ Wd := Nat.ne_of_gt l1
  refine wpAny_mono (Q := EndR A₀ base outer g1 L (readJ t 0) s) (while_ruleR (readJ t) t.len K1 F3 N3 ⟨Tr0, Wd, #[], _, ws0.toArray, k2, [], rfl, rfl, rfl, (fun q hq => by rcases List.mem_singleton.mp hq with rfl; exact hTW.symm), .nil, t, 0, rfl, hwf, hok, hws0, rfl, rfl, rfl, rfl⟩ ?_) ?_ (fun _ _ e => e.elim)
  · rintro j g2 m₁ news₁ h₁ tk₁ T2 K2 F4 N4 ⟨Tr1, Wd1, vs, k, ws, k3, extra, hm1, hm2, rfl, hnd, done, rem, j', rfl, hwr, hokr, hws, rfl, hdone, rfl, hvs⟩
    clear F3 N3 hret
    have X2 := Xb.keeps K2.stays
    have Tp2 := Tb.keeps K2.stays
    have hTn := hnd
    have hwok := words_ok rem done.len hokr
    have hlr : (done.app rem).len = done.len + rem.len := Tr.len_app _ _
    have hvsl : vs.size ≤ sizeLine := by rw [sizeLine_eq]; omega
    (repeat' ((fail_if_success (with_reducible show wpAny _ _ (newList (_ :: _)) _ _ _)); (fail_if_success (with_reducible show wpAny _ _ (exec (Stmt.While _ _ _ _) _) _ _ _)); (fail_if_success (with_reducible show wpAny _ _ (exec (Stmt.If _ _ _ _) _) _ _ _)); (fail_if_success (with_reducible show wpAny _ _ (call (Value.ref _) _) _ _ _)); (fail_if_success (with_reducible show wpAny _ _ (call (Value.builtin "len") _) _ _ _)); (fail_if_success (with_reducible show wpAny _ _ (compareOp _ (Value.ref _) (Value.ref _)) _ _ _)); (fail_if_success (with_reducible show wpAny _ _ (subscriptTail _ _ (Value.ref _) _) _ _ _)); (first | (k_unfold; (try dsimp only)) | walk1 | (dsimp only; walk1))))
    (with_reducible rename Fr _ _ _ _ => F5); (with_reducible rename News _ _ _ _ => N5)
    refine ne_dataH (reads_list_at (N5.get (.tail _ (.tail _ (.head _)))) rfl rfl (reads_strs hws)) (reads_list_at (N5.get (.head _)) rfl rfl .nil) (shaped_strs hwok) rfl (by omega) ?_
    replace N5 := news_tail N5
    cases rem with
    | nil =>
      dsimp only [wordsT, List.map_nil, PyData.eqv, PyData.eqvAll, Bool.not_true]
      (repeat' ((fail_if_success (with_reducible show wpAny _ _ (newList (_ :: _)) _ _ _)); (fail_if_success (with_reducible show wpAny _ _ (exec (Stmt.While _ _ _ _) _) _ _ _)); (fail_if_success (with_reducible show wpAny _ _ (exec (Stmt.If _ _ _ _) _) _ _ _)); (fail_if_success (with_reducible show wpAny _ _ (call (Value.ref _) _) _ _ _)); (fail_if_success (with_reducible show wpAny _ _ (call (Value.builtin "len") _) _ _ _)); (fail_if_success (with_reducible show wpAny _ _ (compareOp _ (Value.ref _) (Value.ref _)) _ _ _)); (fail_if_success (with_reducible show wpAny _ _ (subscriptTail _ _ (Value.ref _) _) _ _ _)); (first | (k_unfold; (try dsimp only)) | walk1 | (dsimp only; walk1))))
      (with_reducible rename Fr _ _ _ _ => F6); (with_reducible rename News _ _ _ _ => N6)
      exact EndR.intro T2 K2 F6 N6 ⟨Tr1, Wd1, vs, k, ws, k3, extra, hm1, hm2, rfl, hnd, done, .nil, done.len, rfl, hwr, hokr, hws, rfl, hdone, rfl, hvs⟩
    | txt x r => cases hwr
    | sub x r => cases hwr
    | num n0 r =>
      have hn0 : n0 < 65536 := hokr.1
      have hlr1 : (Tr.num n0 r).len = r.len + 1 := rfl
      have e9 : (!PyData.eqv (PyData.list (List.map PyData.str (wordsT done.len (Tr.num n0 r)))) (PyData.list [])) = true := by simp [wordsT, PyData.eqv, PyData.eqvAll]
      rw [e9]
      dsimp only [wordsT] at hws
      obtain ⟨tw, ws1, hwe, hws1⟩ : ∃ tw ws1, ws.toList = .str (fmS ((n0 : Int) + 65536 * (done.len : Int))) tw :: ws1 ∧ StrsAre ws1 (wordsT (done.len + 1) r) := by
        generalize hwl : ws.toList = wl at hws
        cases hws with
        | cons _ tw h8 => exact ⟨tw, _, rfl, h8⟩
      have hw0 : ws[0]? = some (.str (fmS ((n0 : Int) + 65536 * (done.len : Int))) tw) := by rw [← Array.getElem?_toList, hwe]; rfl
      (repeat' ((fail_if_success (with_reducible show wpAny _ _ (newList (_ :: _)) _ _ _)); (fail_if_success (with_reducible show wpAny _ _ (exec (Stmt.While _ _ _ _) _) _ _ _)); (fail_if_success (with_reducible show wpAny _ _ (exec (Stmt.If _ _ _ _) _) _ _ _)); (fail_if_success (with_reducible show wpAny _ _ (call (Value.ref _) _) _ _ _)); (fail_if_success (with_reducible show wpAny _ _ (call (Value.builtin "len") _) _ _ _)); (fail_if_success (with_reducible show wpAny _ _ (compareOp _ (Value.ref _) (Value.ref _)) _ _ _)); (fail_if_success (with_reducible show wpAny _ _ (subscriptTail _ _ (Value.ref _) _) _ _ _)); (first | (k_unfold; (try dsimp only)) | walk1 | (dsimp only; walk1))))
      refine item_nn (N5.isList (.tail _ (.head _))) (by decide) (by decide) hw0 ?_
      (repeat' ((fail_if_success (with_reducible show wpAny _ _ (newList (_ :: _)) _ _ _)); (fail_if_success (with_reducible show wpAny _ _ (exec (Stmt.While _ _ _ _) _) _ _ _)); (fail_if_success (with_reducible show wpAny _ _ (exec (Stmt.If _ _ _ _) _) _ _ _)); (fail_if_success (with_reducible show wpAny _ _ (call (Value.ref _) _) _ _ _)); (fail_if_success (with_reducible show wpAny _ _ (call (Value.builtin "len") _) _ _ _)); (fail_if_success (with_reducible show wpAny _ _ (compareOp _ (Value.ref _) (Value.ref _)) _ _ _)); (fail_if_success (with_reducible show wpAny _ _ (subscriptTail _ _ (Value.ref _) _) _ _ _)); (first | (k_unfold; (try dsimp only)) | walk1 | (dsimp only; walk1))))
      refine (c_number _ tw (fmS_len _)).use F5 N5 X2 Tp2 hh (by omega) (by omega) ?_
      rintro r6 h6 tk6 F6 N6 ⟨t6, rfl⟩
      have hnum : numTo (fmS ((n0 : Int) + 65536 * (done.len : Int))) 9 = ((if unk n0 = true then n0 % 4096 else n0 : Nat) : Int) := by
        have e : fmS ((n0 : Int) + 65536 * (done.len : Int)) = ⟨(sigL n0).toArray⟩ := congrArg (fun l => Str.mk (List.toArray l)) (fm_is hn0)
        rw [e, num_is hn0]
      rw [hnum]
      generalize hy0 : (if unk n0 = true then n0 % 4096 else n0 : Nat) = y0
      (repeat' ((fail_if_success (with_reducible show wpAny _ _ (newList (_ :: _)) _ _ _)); (fail_if_success (with_reducible show wpAny _ _ (exec (Stmt.While _ _ _ _) _) _ _ _)); (fail_if_success (with_reducible show wpAny _ _ (exec (Stmt.If _ _ _ _) _) _ _ _)); (fail_if_success (with_reducible show wpAny _ _ (call (Value.ref _) _) _ _ _)); (fail_if_success (with_reducible show wpAny _ _ (call (Value.builtin "len") _) _ _ _)); (fail_if_success (with_reducible show wpAny _ _ (compareOp _ (Value.ref _) (Value.ref _)) _ _ _)); (fail_if_success (with_reducible show wpAny _ _ (subscriptTail _ _ (Value.ref _) _) _ _ _)); (first | (k_unfold; (try dsimp only)) | walk1 | (dsimp only; walk1))))
      (with_reducible rename Fr _ _ _ _ => F7); (with_reducible rename News _ _ _ _ => N7); (with_reducible rename Tok => t7)
      have hwsl : ws.size = r.len + 1 := by
        rw [← Array.length_toList, hws.length]
        show (wordsT (done.len + 1) r).length + 1 = _
        rw [wordsT_len]
      refine wpAny_mono (Q := EndR A₀ base outer g2 L (fun m' news' => m' "tree" = some (.ref Tr1) ∧ m' "words" = some (.ref Wd1) ∧ news' = (Tr1, W.listOf (vs.push (Value.int (y0 : Nat) t7)) (k + 1)) :: (Wd1, W.listOf ws k3) :: extra ∧ ∃ z tz, m' "number" = some (.int z tz) ∧ numF n0 z) s) (E := fun _ _ => False) ?_ ?_ (fun _ _ e => e.elim)
      · refine wpAny_If ?_
        (repeat' ((fail_if_success (with_reducible show wpAny _ _ (newList (_ :: _)) _ _ _)); (fail_if_success (with_reducible show wpAny _ _ (exec (Stmt.While _ _ _ _) _) _ _ _)); (fail_if_success (with_reducible show wpAny _ _ (exec (Stmt.If _ _ _ _) _) _ _ _)); (fail_if_success (with_reducible show wpAny _ _ (call (Value.ref _) _) _ _ _)); (fail_if_success (with_reducible show wpAny _ _ (call (Value.builtin "len") _) _ _ _)); (fail_if_success (with_reducible show wpAny _ _ (compareOp _ (Value.ref _) (Value.ref _)) _ _ _)); (fail_if_success (with_reducible show wpAny _ _ (subscriptTail _ _ (Value.ref _) _) _ _ _)); (first | (k_unfold; (try dsimp only)) | walk1 | (dsimp only; walk1))))
        · have hlt0 : (y0 : Int) < 4096 := by with_reducible assumption
          refine newList_K F7 N7 ?_ (Nat.le_of_ble_eq_true rfl)
          intro lw h8 F8 N8 hlw
          (repeat' ((fail_if_success (with_reducible show wpAny _ _ (newList (_ :: _)) _ _ _)); (fail_if_success (with_reducible show wpAny _ _ (exec (Stmt.While _ _ _ _) _) _ _ _)); (fail_if_success (with_reducible show wpAny _ _ (exec (Stmt.If _ _ _ _) _) _ _ _)); (fail_if_success (with_reducible show wpAny _ _ (call (Value.ref _) _) _ _ _)); (fail_if_success (with_reducible show wpAny _ _ (call (Value.builtin "len") _) _ _ _)); (fail_if_success (with_reducible show wpAny _ _ (compareOp _ (Value.ref _) (Value.ref _)) _ _ _)); (fail_if_success (with_reducible show wpAny _ _ (subscriptTail _ _ (Value.ref _) _) _ _ _)); (first | (k_unfold; (try dsimp only)) | walk1 | (dsimp only; walk1))))
          refine len_led N8 (.tail _ (.tail _ (.head _))) (by omega) ?_
          intro t8 k8
          (repeat' ((fail_if_success (with_reducible show wpAny _ _ (newList (_ :: _)) _ _ _)); (fail_if_success (with_reducible show wpAny _ _ (exec (Stmt.While _ _ _ _) _) _ _ _)); (fail_if_success (with_reducible show wpAny _ _ (exec (Stmt.If _ _ _ _) _) _ _ _)); (fail_if_success (with_reducible show wpAny _ _ (call (Value.ref _) _) _ _ _)); (fail_if_success (with_reducible show wpAny _ _ (call (Value.builtin "len") _) _ _ _)); (fail_if_success (with_reducible show wpAny _ _ (compareOp _ (Value.ref _) (Value.ref _)) _ _ _)); (fail_if_success (with_reducible show wpAny _ _ (subscriptTail _ _ (Value.ref _) _) _ _ _)); (first | (k_unfold; (try dsimp only)) | walk1 | (dsimp only; walk1))))
          obtain ⟨kk, tkk, hkk, hk1, hk2, hk3⟩ := weird_at _ _ _ _ _ _ _ _ _ (((ws.size : Nat) : Int).fmod 9).toNat (by rw [show (9 : Int) = ((9 : Nat) : Int) from rfl, fmod_c]; exact Nat.mod_lt _ (by decide))
          refine item_nn (N8.isList (.head _)) (by rw [show (9 : Int) = ((9 : Nat) : Int) from rfl, fmod_c]; omega) (by rw [show (9 : Int) = ((9 : Nat) : Int) from rfl, fmod_c]; omega) hkk ?_
          (repeat' ((fail_if_success (with_reducible show wpAny _ _ (newList (_ :: _)) _ _ _)); (fail_if_success (with_reducible show wpAny _ _ (exec (Stmt.While _ _ _ _) _) _ _ _)); (fail_if_success (with_reducible show wpAny _ _ (exec (Stmt.If _ _ _ _) _) _ _ _)); (fail_if_success (with_reducible show wpAny _ _ (call (Value.ref _) _) _ _ _)); (fail_if_success (with_reducible show wpAny _ _ (call (Value.builtin "len") _) _ _ _)); (fail_if_success (with_reducible show wpAny _ _ (compareOp _ (Value.ref _) (Value.ref _)) _ _ _)); (fail_if_success (with_reducible show wpAny _ _ (subscriptTail _ _ (Value.ref _) _) _ _ _)); (first | (k_unfold; (try dsimp only)) | walk1 | (dsimp only; walk1))))
          (with_reducible rename Fr _ _ _ _ => F9); (with_reducible rename News _ _ _ _ => N9)
          refine EndR.intro KtsTurn.refl K2 F9 (news_tail N9) ⟨by (conv => lhs; whnf); with_reducible assumption, by (conv => lhs; whnf); with_reducible assumption, rfl, _, _, rfl, y0 + kk * 4096, by omega, by omega, ?_⟩
          have hun : unk n0 = true := by
            cases hu9 : unk n0 with
            | true => rfl
            | false =>
              have h9 := unk_zero hn0 hu9
              rw [hu9, if_neg (by decide)] at hy0
              omega
          have hk9 := unk_kind hn0 hun
          rw [hun, if_pos rfl] at hy0
          have e9 : (y0 + kk * 4096) / 4096 = kk := by omega
          rw [e9]
          exact ⟨⟨fun e => absurd e hk2, fun e => absurd e hk9.1⟩, ⟨fun e => absurd e hk3, fun e => absurd e hk9.2⟩⟩
        · have hge0 : ¬ (y0 : Int) < 4096 := by with_reducible assumption
          refine EndR.intro KtsTurn.refl K2 F7 N7 ⟨by (conv => lhs; whnf); with_reducible assumption, by (conv => lhs; whnf); with_reducible assumption, rfl, _, _, rfl, y0, rfl, ?_⟩
          have hun : unk n0 = false := by
            cases hu9 : unk n0 with
            | false => rfl
            | true => rw [hu9, if_pos rfl] at hy0; omega
          rw [hun, if_neg (by decide)] at hy0
          subst hy0
          exact ⟨hn0, Iff.rfl, Iff.rfl⟩
      · rintro _ _ ⟨rfl, h', tk', m', news', g', rfl, T3, K3, F8, N8, hm3, hm4, rfl, z, tz, hm5, y, rfl, hy, hy4, hy10⟩
        clear X2 Tp2 hm1 hm2
        have X3 := Xb.keeps K3.stays
        have Tp3 := Tb.keeps K3.stays
        have hb : Builtin.bitAnd ((y : Int) + 65536 * (ws.size : Int)) 61440 = ((y / 4096 * 4096 : Nat) : Int) := by
          rw [show (y : Int) + 65536 * (ws.size : Int) = ((y + 65536 * ws.size : Nat) : Int) from by omega, show (61440 : Int) = ((61440 : Nat) : Int) from rfl, and_c, and_kind hy]
        dsimp only
        (repeat' ((fail_if_success (with_reducible show wpAny _ _ (newList (_ :: _)) _ _ _)); (fail_if_success (with_reducible show wpAny _ _ (exec (Stmt.While _ _ _ _) _) _ _ _)); (fail_if_success (with_reducible show wpAny _ _ (exec (Stmt.If _ _ _ _) _) _ _ _)); (fail_if_success (with_reducible show wpAny _ _ (call (Value.ref _) _) _ _ _)); (fail_if_success (with_reducible show wpAny _ _ (call (Value.builtin "len") _) _ _ _)); (fail_if_success (with_reducible show wpAny _ _ (compareOp _ (Value.ref _) (Value.ref _)) _ _ _)); (fail_if_success (with_reducible show wpAny _ _ (subscriptTail _ _ (Value.ref _) _) _ _ _)); (first | (k_unfold; (try dsimp only)) | walk1 | (dsimp only; walk1))))
        refine len_led N8 (.tail _ (.head _)) (by omega) ?_
        intro t8 k8
        (repeat' ((fail_if_success (with_reducible show wpAny _ _ (newList (_ :: _)) _ _ _)); (fail_if_success (with_reducible show wpAny _ _ (exec (Stmt.While _ _ _ _) _) _ _ _)); (fail_if_success (with_reducible show wpAny _ _ (exec (Stmt.If _ _ _ _) _) _ _ _)); (fail_if_success (with_reducible show wpAny _ _ (call (Value.ref _) _) _ _ _)); (fail_if_success (with_reducible show wpAny _ _ (call (Value.builtin "len") _) _ _ _)); (fail_if_success (with_reducible show wpAny _ _ (compareOp _ (Value.ref _) (Value.ref _)) _ _ _)); (fail_if_success (with_reducible show wpAny _ _ (subscriptTail _ _ (Value.ref _) _) _ _ _)); (first | (k_unfold; (try dsimp only)) | walk1 | (dsimp only; walk1))))
        refine wpAny_If ?_
        (repeat' ((fail_if_success (with_reducible show wpAny _ _ (newList (_ :: _)) _ _ _)); (fail_if_success (with_reducible show wpAny _ _ (exec (Stmt.While _ _ _ _) _) _ _ _)); (fail_if_success (with_reducible show wpAny _ _ (exec (Stmt.If _ _ _ _) _) _ _ _)); (fail_if_success (with_reducible show wpAny _ _ (call (Value.ref _) _) _ _ _)); (fail_if_success (with_reducible show wpAny _ _ (call (Value.builtin "len") _) _ _ _)); (fail_if_success (with_reducible show wpAny _ _ (compareOp _ (Value.ref _) (Value.ref _)) _ _ _)); (fail_if_success (with_reducible show wpAny _ _ (subscriptTail _ _ (Value.ref _) _) _ _ _)); (first | (k_unfold; (try dsimp only)) | walk1 | (dsimp only; walk1))))
        (with_reducible rename Fr _ _ _ _ => F9); (with_reducible rename News _ _ _ _ => N9)
        refine (c_isdir _ _).use F9 N9 X3 Tp3 hh (by omega) (by omega) ?_
        rintro r10 h10 tk10 F10 N10 rfl
        rw [hb]
        cases hwr with
        | dir hn4 ht1 hr1 =>
          have e9 : decide (((y / 4096 * 4096 : Nat) : Int) = 16384) = true := decide_eq_true (by have := hy4.mpr hn4; omega)
          rw [e9]
          rename_i t1 r1 _
          obtain ⟨tx, ws2, hwe2, hws2⟩ : ∃ tx ws2, ws1 = .str (lineS t1) tx :: ws2 ∧ StrsAre ws2 (wordsT (done.len + 1 + 1) r1) := by
            cases hws1 with
            | cons _ tx h8 => exact ⟨tx, _, rfl, h8⟩
          have hw1 : ws[1]? = some (.str (lineS t1) tx) := by rw [← Array.getElem?_toList, hwe, hwe2]; rfl
          (repeat' ((fail_if_success (with_reducible show wpAny _ _ (newList (_ :: _)) _ _ _)); (fail_if_success (with_reducible show wpAny _ _ (exec (Stmt.While _ _ _ _) _) _ _ _)); (fail_if_success (with_reducible show wpAny _ _ (exec (Stmt.If _ _ _ _) _) _ _ _)); (fail_if_success (with_reducible show wpAny _ _ (call (Value.ref _) _) _ _ _)); (fail_if_success (with_reducible show wpAny _ _ (call (Value.builtin "len") _) _ _ _)); (fail_if_success (with_reducible show wpAny _ _ (compareOp _ (Value.ref _) (Value.ref _)) _ _ _)); (fail_if_success (with_reducible show wpAny _ _ (subscriptTail _ _ (Value.ref _) _) _ _ _)); (first | (k_unfold; (try dsimp only)) | walk1 | (dsimp only; walk1))))
          refine item_nn (N10.isList (.tail _ (.head _))) (by decide) (by decide) hw1 ?_
          have hvsl2 : (vs.push (Value.int (y0 : Nat) t7)).size ≤ sizeLine := by rw [Array.size_push, sizeLine_eq]; omega
          have hdep1 : t1.dep < n := by
            rw [Tr.dep_app] at hdep
            simp only [Tr.dep] at hdep
            exact depn hdep
          have hB1 : lnB t1 ≤ 1000000 := by
            rw [lnB_app] at hB
            simp only [lnB] at hB
            omega
          (repeat' ((fail_if_success (with_reducible show wpAny _ _ (newList (_ :: _)) _ _ _)); (fail_if_success (with_reducible show wpAny _ _ (exec (Stmt.While _ _ _ _) _) _ _ _)); (fail_if_success (with_reducible show wpAny _ _ (exec (Stmt.If _ _ _ _) _) _ _ _)); (fail_if_success (with_reducible show wpAny _ _ (call (Value.ref _) _) _ _ _)); (fail_if_success (with_reducible show wpAny _ _ (call (Value.builtin "len") _) _ _ _)); (fail_if_success (with_reducible show wpAny _ _ (compareOp _ (Value.ref _) (Value.ref _)) _ _ _)); (fail_if_success (with_reducible show wpAny _ _ (subscriptTail _ _ (Value.ref _) _) _ _ _)); (first | (k_unfold; (try dsimp only)) | walk1 | (dsimp only; walk1))))
          refine (ih t1 hdep1 ht1 hokr.2.1.1 hokr.2.1.2.1 hB1 tx).use K3 hA rfl F10 N10 Xb Tb hh (by omega) (by omega) ?_
          rintro r11 h11 tk11 ns9 g4 T4 K4 F11 N11 hap X4 Tp4 ⟨D1, vs1, k1, rfl, hmem9, hv1⟩
          have N12 : News g4 L h11 ((Tr1, W.listOf (vs.push (Value.int (y0 : Nat) t7)) (k + 1)) :: (Wd1, W.listOf ws k3) :: (ns9 ++ extra)) := fun q hq => N11 q (by
            rcases List.mem_cons.mp hq with rfl | hq
            · exact List.mem_append_right _ (.head _)
            · rcases List.mem_cons.mp hq with rfl | hq
              · exact List.mem_append_right _ (.tail _ (.head _))
              · rcases List.mem_append.mp hq with hq | hq
                · exact List.mem_append_left _ hq
                · exact List.mem_append_right _ (.tail _ (.tail _ hq)))
          have hTn2 : ∀ q ∈ (Wd1, W.listOf ws k3) :: (ns9 ++ extra), q.1 ≠ Tr1 := fun q hq => by
            rcases List.mem_cons.mp hq with rfl | hq
            · exact hTn _ (.head _)
            · rcases List.mem_append.mp hq with hq | hq
              · exact hap q hq _ (.head _)
              · exact hTn q (.tail _ hq)
          clear N11 X3 Tp3 F10 N10
          (repeat' ((fail_if_success (with_reducible show wpAny _ _ (newList (_ :: _)) _ _ _)); (fail_if_success (with_reducible show wpAny _ _ (exec (Stmt.While _ _ _ _) _) _ _ _)); (fail_if_success (with_reducible show wpAny _ _ (exec (Stmt.If _ _ _ _) _) _ _ _)); (fail_if_success (with_reducible show wpAny _ _ (call (Value.ref _) _) _ _ _)); (fail_if_success (with_reducible show wpAny _ _ (call (Value.builtin "len") _) _ _ _)); (fail_if_success (with_reducible show wpAny _ _ (compareOp _ (Value.ref _) (Value.ref _)) _ _ _)); (fail_if_success (with_reducible show wpAny _ _ (subscriptTail _ _ (Value.ref _) _) _ _ _)); (first | (k_unfold; (try dsimp only)) | walk1 | (dsimp only; walk1))))
          (with_reducible rename Fr _ _ _ _ => F12); (with_reducible rename News _ _ _ _ => N13)
          refine kmk_slice_lit (lo := some 2) (hi := none) F12 N13 (N13.isList (.tail _ (.head _))) (IsPart.int _ _) IsPart.none (slice_from ws (by decide)) ?_ (by with_unfolding_all rfl) (by intro _; with_unfolding_all rfl) (by rw [sizeLine_eq]; omega)
          intro D h13 F13 N14 l13
          (repeat' ((fail_if_success (with_reducible show wpAny _ _ (newList (_ :: _)) _ _ _)); (fail_if_success (with_reducible show wpAny _ _ (exec (Stmt.While _ _ _ _) _) _ _ _)); (fail_if_success (with_reducible show wpAny _ _ (exec (Stmt.If _ _ _ _) _) _ _ _)); (fail_if_success (with_reducible show wpAny _ _ (call (Value.ref _) _) _ _ _)); (fail_if_success (with_reducible show wpAny _ _ (call (Value.builtin "len") _) _ _ _)); (fail_if_success (with_reducible show wpAny _ _ (compareOp _ (Value.ref _) (Value.ref _)) _ _ _)); (fail_if_success (with_reducible show wpAny _ _ (subscriptTail _ _ (Value.ref _) _) _ _ _)); (first | (k_unfold; (try dsimp only)) | walk1 | (dsimp only; walk1))))
          (with_reducible rename Fr _ _ _ _ => F15); (with_reducible rename News _ _ _ _ => N15)
          refine read_fin (done := done.app (.num n0 (.sub t1 .nil))) (rem := r1) (T3.trans T4) K4 F15 N15 hTn2 l13 (by (conv => lhs; whnf); with_reducible assumption) rfl (by rw [Tr.app_assoc]; rfl) hr1 hokr.2.2 ?_ ?_ ?_ ?_
          · have e : (done.app (.num n0 (.sub t1 .nil))).len = done.len + 1 + 1 := by rw [Tr.len_app]; rfl
            rw [e, hwe, hwe2]
            exact hws2
          · rw [knownT_app, Array.toList_push, Array.toList_push, List.append_assoc]
            refine (hdone.mono fun a ws ⟨n, m⟩ => ⟨n, .tail _ (List.mem_append_right _ m)⟩).app ⟨t7, _, ?_, D1, _, vs1.toList, rfl, ⟨k1, .tail _ (List.mem_append_left _ hmem9)⟩, hv1.mono fun a ws ⟨n, m⟩ => ⟨n, .tail _ (List.mem_append_left _ m)⟩, rfl⟩
            rw [hy0]; rfl
          · show r1.len < r1.len + 1 + 1; omega
          · rw [Array.size_push, Array.size_push, hvs, Tr.len_app]; rfl
        | lnk hn10 hr1 =>
          have e9 : decide (((y / 4096 * 4096 : Nat) : Int) = 16384) = false := decide_eq_false (by have := hy10.mpr hn10; omega)
          rw [e9]
          (repeat' ((fail_if_success (with_reducible show wpAny _ _ (newList (_ :: _)) _ _ _)); (fail_if_success (with_reducible show wpAny _ _ (exec (Stmt.While _ _ _ _) _) _ _ _)); (fail_if_success (with_reducible show wpAny _ _ (exec (Stmt.If _ _ _ _) _) _ _ _)); (fail_if_success (with_reducible show wpAny _ _ (call (Value.ref _) _) _ _ _)); (fail_if_success (with_reducible show wpAny _ _ (call (Value.builtin "len") _) _ _ _)); (fail_if_success (with_reducible show wpAny _ _ (compareOp _ (Value.ref _) (Value.ref _)) _ _ _)); (fail_if_success (with_reducible show wpAny _ _ (subscriptTail _ _ (Value.ref _) _) _ _ _)); (first | (k_unfold; (try dsimp only)) | walk1 | (dsimp only; walk1))))
          refine wpAny_If ?_
          (repeat' ((fail_if_success (with_reducible show wpAny _ _ (newList (_ :: _)) _ _ _)); (fail_if_success (with_reducible show wpAny _ _ (exec (Stmt.While _ _ _ _) _) _ _ _)); (fail_if_success (with_reducible show wpAny _ _ (exec (Stmt.If _ _ _ _) _) _ _ _)); (fail_if_success (with_reducible show wpAny _ _ (call (Value.ref _) _) _ _ _)); (fail_if_success (with_reducible show wpAny _ _ (call (Value.builtin "len") _) _ _ _)); (fail_if_success (with_reducible show wpAny _ _ (compareOp _ (Value.ref _) (Value.ref _)) _ _ _)); (fail_if_success (with_reducible show wpAny _ _ (subscriptTail _ _ (Value.ref _) _) _ _ _)); (first | (k_unfold; (try dsimp only)) | walk1 | (dsimp only; walk1))))
          refine (c_islnk _ _).use F10 N10 X3 Tp3 hh (by omega) (by omega) ?_
          rintro r11 h11 tk11 F11 N11 rfl
          rw [hb]
          have e10 : decide (((y / 4096 * 4096 : Nat) : Int) = 40960) = true := decide_eq_true (by have := hy10.mpr hn10; omega)
          rw [e10]
          rename_i x1 r1 _
          obtain ⟨tx, ws2, hwe2, hws2⟩ : ∃ tx ws2, ws1 = .str x1 tx :: ws2 ∧ StrsAre ws2 (wordsT (done.len + 1 + 1) r1) := by
            cases hws1 with
            | cons _ tx h8 => exact ⟨tx, _, rfl, h8⟩
          have hw1 : ws[1]? = some (.str x1 tx) := by rw [← Array.getElem?_toList, hwe, hwe2]; rfl
          (repeat' ((fail_if_success (with_reducible show wpAny _ _ (newList (_ :: _)) _ _ _)); (fail_if_success (with_reducible show wpAny _ _ (exec (Stmt.While _ _ _ _) _) _ _ _)); (fail_if_success (with_reducible show wpAny _ _ (exec (Stmt.If _ _ _ _) _) _ _ _)); (fail_if_success (with_reducible show wpAny _ _ (call (Value.ref _) _) _ _ _)); (fail_if_success (with_reducible show wpAny _ _ (call (Value.builtin "len") _) _ _ _)); (fail_if_success (with_reducible show wpAny _ _ (compareOp _ (Value.ref _) (Value.ref _)) _ _ _)); (fail_if_success (with_reducible show wpAny _ _ (subscriptTail _ _ (Value.ref _) _) _ _ _)); (first | (k_unfold; (try dsimp only)) | walk1 | (dsimp only; walk1))))
          refine item_nn (N11.isList (.tail _ (.head _))) (by decide) (by decide) hw1 ?_
          have hvsl2 : (vs.push (Value.int (y0 : Nat) t7)).size ≤ sizeLine := by rw [Array.size_push, sizeLine_eq]; omega
          (repeat' ((fail_if_success (with_reducible show wpAny _ _ (newList (_ :: _)) _ _ _)); (fail_if_success (with_reducible show wpAny _ _ (exec (Stmt.While _ _ _ _) _) _ _ _)); (fail_if_success (with_reducible show wpAny _ _ (exec (Stmt.If _ _ _ _) _) _ _ _)); (fail_if_success (with_reducible show wpAny _ _ (call (Value.ref _) _) _ _ _)); (fail_if_success (with_reducible show wpAny _ _ (call (Value.builtin "len") _) _ _ _)); (fail_if_success (with_reducible show wpAny _ _ (compareOp _ (Value.ref _) (Value.ref _)) _ _ _)); (fail_if_success (with_reducible show wpAny _ _ (subscriptTail _ _ (Value.ref _) _) _ _ _)); (first | (k_unfold; (try dsimp only)) | walk1 | (dsimp only; walk1))))
          (with_reducible rename Fr _ _ _ _ => F12); (with_reducible rename News _ _ _ _ => N12)
          refine kmk_slice_lit (lo := some 2) (hi := none) F12 N12 (N12.isList (.tail _ (.head _))) (IsPart.int _ _) IsPart.none (slice_from ws (by decide)) ?_ (by with_unfolding_all rfl) (by intro _; with_unfolding_all rfl) (by rw [sizeLine_eq]; omega)
          intro D h13 F13 N13 l13
          (repeat' ((fail_if_success (with_reducible show wpAny _ _ (newList (_ :: _)) _ _ _)); (fail_if_success (with_reducible show wpAny _ _ (exec (Stmt.While _ _ _ _) _) _ _ _)); (fail_if_success (with_reducible show wpAny _ _ (exec (Stmt.If _ _ _ _) _) _ _ _)); (fail_if_success (with_reducible show wpAny _ _ (call (Value.ref _) _) _ _ _)); (fail_if_success (with_reducible show wpAny _ _ (call (Value.builtin "len") _) _ _ _)); (fail_if_success (with_reducible show wpAny _ _ (compareOp _ (Value.ref _) (Value.ref _)) _ _ _)); (fail_if_success (with_reducible show wpAny _ _ (subscriptTail _ _ (Value.ref _) _) _ _ _)); (first | (k_unfold; (try dsimp only)) | walk1 | (dsimp only; walk1))))
          (with_reducible rename Fr _ _ _ _ => F14); (with_reducible rename News _ _ _ _ => N14)
          refine read_fin (done := done.app (.num n0 (.txt x1 .nil))) (rem := r1) T3 K3 F14 N14 hnd l13 (by (conv => lhs; whnf); with_reducible assumption) rfl (by rw [Tr.app_assoc]; rfl) hr1 hokr.2.2 ?_ ?_ ?_ ?_
          · have e : (done.app (.num n0 (.txt x1 .nil))).len = done.len + 1 + 1 := by rw [Tr.len_app]; rfl
            rw [e, hwe, hwe2]
            exact hws2
          · rw [knownT_app, Array.toList_push, Array.toList_push, List.append_assoc]
            refine (hdone.mono fun a ws ⟨n, m⟩ => ⟨n, .tail _ m⟩).app ⟨t7, _, ?_, tx, _, rfl, rfl⟩
            rw [hy0]; rfl
          · show r1.len < r1.len + 1 + 1; omega
          · rw [Array.size_push, Array.size_push, hvs, Tr.len_app]; rfl
        | file hn4 hn10 hr1 =>
          have e9 : decide (((y / 4096 * 4096 : Nat) : Int) = 16384) = false := decide_eq_false (by have := fun e => hn4 (hy4.mp e); omega)
          rw [e9]
          (repeat' ((fail_if_success (with_reducible show wpAny _ _ (newList (_ :: _)) _ _ _)); (fail_if_success (with_reducible show wpAny _ _ (exec (Stmt.While _ _ _ _) _) _ _ _)); (fail_if_success (with_reducible show wpAny _ _ (exec (Stmt.If _ _ _ _) _) _ _ _)); (fail_if_success (with_reducible show wpAny _ _ (call (Value.ref _) _) _ _ _)); (fail_if_success (with_reducible show wpAny _ _ (call (Value.builtin "len") _) _ _ _)); (fail_if_success (with_reducible show wpAny _ _ (compareOp _ (Value.ref _) (Value.ref _)) _ _ _)); (fail_if_success (with_reducible show wpAny _ _ (subscriptTail _ _ (Value.ref _) _) _ _ _)); (first | (k_unfold; (try dsimp only)) | walk1 | (dsimp only; walk1))))
          refine wpAny_If ?_
          (repeat' ((fail_if_success (with_reducible show wpAny _ _ (newList (_ :: _)) _ _ _)); (fail_if_success (with_reducible show wpAny _ _ (exec (Stmt.While _ _ _ _) _) _ _ _)); (fail_if_success (with_reducible show wpAny _ _ (exec (Stmt.If _ _ _ _) _) _ _ _)); (fail_if_success (with_reducible show wpAny _ _ (call (Value.ref _) _) _ _ _)); (fail_if_success (with_reducible show wpAny _ _ (call (Value.builtin "len") _) _ _ _)); (fail_if_success (with_reducible show wpAny _ _ (compareOp _ (Value.ref _) (Value.ref _)) _ _ _)); (fail_if_success (with_reducible show wpAny _ _ (subscriptTail _ _ (Value.ref _) _) _ _ _)); (first | (k_unfold; (try dsimp only)) | walk1 | (dsimp only; walk1))))
          refine (c_islnk _ _).use F10 N10 X3 Tp3 hh (by omega) (by omega) ?_
          rintro r11 h11 tk11 F11 N11 rfl
          rw [hb]
          have e10 : decide (((y / 4096 * 4096 : Nat) : Int) = 40960) = false := decide_eq_false (by have := fun e => hn10 (hy10.mp e); omega)
          rw [e10]
          (repeat' ((fail_if_success (with_reducible show wpAny _ _ (newList (_ :: _)) _ _ _)); (fail_if_success (with_reducible show wpAny _ _ (exec (Stmt.While _ _ _ _) _) _ _ _)); (fail_if_success (with_reducible show wpAny _ _ (exec (Stmt.If _ _ _ _) _) _ _ _)); (fail_if_success (with_reducible show wpAny _ _ (call (Value.ref _) _) _ _ _)); (fail_if_success (with_reducible show wpAny _ _ (call (Value.builtin "len") _) _ _ _)); (fail_if_success (with_reducible show wpAny _ _ (compareOp _ (Value.ref _) (Value.ref _)) _ _ _)); (fail_if_success (with_reducible show wpAny _ _ (subscriptTail _ _ (Value.ref _) _) _ _ _)); (first | (k_unfold; (try dsimp only)) | walk1 | (dsimp only; walk1))))
          (with_reducible rename Fr _ _ _ _ => F12); (with_reducible rename News _ _ _ _ => N12)
          refine kmk_slice_lit (lo := some 1) (hi := none) F12 N12 (N12.isList (.tail _ (.head _))) (IsPart.int _ _) IsPart.none (slice_from ws (by decide)) ?_ (by with_unfolding_all rfl) (by intro _; with_unfolding_all rfl) (by rw [sizeLine_eq]; omega)
          intro D h13 F13 N13 l13
          (repeat' ((fail_if_success (with_reducible show wpAny _ _ (newList (_ :: _)) _ _ _)); (fail_if_success (with_reducible show wpAny _ _ (exec (Stmt.While _ _ _ _) _) _ _ _)); (fail_if_success (with_reducible show wpAny _ _ (exec (Stmt.If _ _ _ _) _) _ _ _)); (fail_if_success (with_reducible show wpAny _ _ (call (Value.ref _) _) _ _ _)); (fail_if_success (with_reducible show wpAny _ _ (call (Value.builtin "len") _) _ _ _)); (fail_if_success (with_reducible show wpAny _ _ (compareOp _ (Value.ref _) (Value.ref _)) _ _ _)); (fail_if_success (with_reducible show wpAny _ _ (subscriptTail _ _ (Value.ref _) _) _ _ _)); (first | (k_unfold; (try dsimp only)) | walk1 | (dsimp only; walk1))))
          (with_reducible rename Fr _ _ _ _ => F14); (with_reducible rename News _ _ _ _ => N14)
          refine read_fin (done := done.app (.num n0 .nil)) (rem := r) T3 K3 F14 N14 hnd l13 (by (conv => lhs; whnf); with_reducible assumption) rfl (by rw [Tr.app_assoc]; rfl) hr1 hokr.2 ?_ ?_ ?_ ?_
          · have e : (done.app (.num n0 .nil)).len = done.len + 1 := by rw [Tr.len_app]; rfl
            rw [e, hwe]
            exact hws1
          · rw [knownT_app, Array.toList_push]
            refine (hdone.mono fun a ws ⟨n, m⟩ => ⟨n, .tail _ m⟩).app ⟨t7, _, ?_, rfl⟩
            rw [hy0]
          · show r.len < r.len + 1; omega
          · rw [Array.size_push, hvs, Tr.len_app]; rfl
  · rintro _ _ ⟨rfl, h', tk', m', news', g', rfl, T2, K2, F4, N4, ⟨Tr1, Wd1, vs, k, ws, k3, extra, hm1, hm2, rfl, hnd, done, rem, j', rfl, hwr, hokr, hws, rfl, hdone, hz, hvs⟩⟩
    have hrem : rem = .nil := by
      cases rem with
      | nil => rfl
      | num n r => cases hz
      | txt n r => cases hz
      | sub n r => cases hz
    subst hrem
    rw [Tr.app_nil] at hret
    have X2 := Xb.keeps K2.stays
    have Tp2 := Tb.keeps K2.stays
    dsimp only
    (repeat' ((fail_if_success (with_reducible show wpAny _ _ (newList (_ :: _)) _ _ _)); (fail_if_success (with_reducible show wpAny _ _ (exec (Stmt.While _ _ _ _) _) _ _ _)); (fail_if_success (with_reducible show wpAny _ _ (exec (Stmt.If _ _ _ _) _) _ _ _)); (fail_if_success (with_reducible show wpAny _ _ (call (Value.ref _) _) _ _ _)); (fail_if_success (with_reducible show wpAny _ _ (call (Value.builtin "len") _) _ _ _)); (fail_if_success (with_reducible show wpAny _ _ (compareOp _ (Value.ref _) (Value.ref _)) _ _ _)); (fail_if_success (with_reducible show wpAny _ _ (subscriptTail _ _ (Value.ref _) _) _ _ _)); (first | (k_unfold; (try dsimp only)) | walk1 | (dsimp only; walk1))))
    exact hret _ _ _ _ _ g' (T1.trans T2) F4 N4 ⟨Tr1, vs, k, rfl, .head _, hdone.mono fun a ws ⟨n, m⟩ => ⟨n, .tail _ (.tail _ m)⟩⟩
end
section
variable {w : World} {p : Program} {loose : List Str} {mg mb : Str → Option Value}
local macro_rules | `(tactic| walk_at "exec If") => `(tactic| refine wpAny_If ?_)
theorem slice_upto (its : Array Value) : (slicePick its none (some 4) none).toList = its.toList.take 4 := by
  have e : sliceBounds none (some 4) none its.size = (((0 : Nat) : Int), ((min 4 its.size : Nat) : Int), 1) := by
    simp only [sliceBounds, Option.getD_none, show (1 : Int) > 0 by decide, if_true, if_neg (show ¬ ((4 : Int) < 0) by decide)]
    congr 1
    congr 1
    omega
  rw [kmk_pick_nat _ e]
  show (its.toList.drop 0).take (min 4 its.size - 0) = _
  rw [List.drop_zero, Nat.sub_zero, ← Array.length_toList, kmk_take_min]
/-- the numbers that the law takes -/
noncomputable abbrev nums (ns0 : List Int) : List Int := [21109, 64882, 96757] ++ ns0.take 4
theorem law_body {s : Shared} {Q E : Value → Shared → Prop} {H : Heap} {o : Obj} {ax : Addr} {vs0 : List Value} {ns0 : List Int} (hH : H.StaysIn s.heap) (hHo : ∀ b o, s.heap.get? b = some o → b ≠ 746 → H.get? b = some o) (X : (KK w.params).In H) (T : TopRead p loose mg mb H) (BM : ∃ bm ob, BMod H mainGlobals mg bm ob)
    (h746 : H.get? 746 = none) (h746' : s.heap.get? 746 = some o) (ht : TabOk o) (hb : AllBare s.gens) (hl : H.IsList ax vs0.toArray) (hi : IntsAre vs0 ns0) (hn : ns0.length ≤ 63)
    (hQ : ∀ h' tk' gs' dr' o', (∀ b o, s.heap.get? b = some o → b ≠ 746 → h'.get? b = some o) → h'.get? 746 = some o' → TabOk o' → AllBare gs' → Q (.bool true) ⟨h', gs', dr', tk', s.os⟩) :
    wpAny (model PySem.Challenge.rw_mr0361_01.prog w) callerA (call (.ref 881) [.ref ax]) Q E s := by
  refine' call_body (news := [(746, o)]) [("script", .ref ax)] hH X T ?hN (by decide) ?ho ?hcd ?b1 ?b2 ?hb ?hl ?a1 ?a2 ?a3 ?a5 ?h
  case hN => exact fun q hq => by rcases List.mem_singleton.mp hq with rfl; exact ⟨h746', h746⟩
  case ho => k_is
  case hcd => k_is
  case hb => exact fun s X => BindsTo.of_eq rfl
  all_goals try exact rfl
  intro g L h₁ st hg F N Xg Tg hlt
  have Kg : Below callerA g [] g := below_caller g
  obtain ⟨bm, ob, BM⟩ := BM
  have BMg := BM.keeps st
  have hlg := stays_list st hl
  have hd0 : ∀ (env : Env) (k : Nat), k ≤ 100 → (callerA.deeper env).depth + k < recursionLimit := fun env k hk => Nat.lt_of_le_of_lt (Nat.add_le_add_left hk _) (show (callerA.deeper env).depth + 100 < recursionLimit from Nat.le_of_ble_eq_true (by kernel_rfl))
  have hu0 : ∀ (env : Env) (k : Nat), k ≤ 2000 → (callerA.deeper env).units + k < cLine := fun env k hk => Nat.lt_of_le_of_lt (Nat.add_le_add_left hk _) (show (callerA.deeper env).units + 2000 < cLine from Nat.le_of_ble_eq_true (by kernel_rfl))
  have hs0 : vs0.toArray.size ≤ sizeLine := by rw [sizeLine_eq, List.size_toArray, hi.length]; omega
  (repeat' ((fail_if_success (with_reducible show wpAny _ _ (call (Value.ref _) _) _ _ _)); (fail_if_success (with_reducible show wpAny _ _ (compareOp _ (Value.ref _) (Value.ref _)) _ _ _)); (fail_if_success (with_reducible show wpAny _ _ (compareOp _ (Value.str _ _) (Value.str _ _)) _ _ _)); (fail_if_success (with_reducible show wpAny _ _ (binaryOp _ (Value.ref _) _) _ _ _)); (fail_if_success (with_reducible show wpAny _ _ (newList (_ :: _)) _ _ _)); (fail_if_success (with_reducible show wpAny _ _ (subscriptTail _ _ (Value.ref _) _) _ _ _)); (first | (k_unfold; (try dsimp only)) | walk1 | (dsimp only; walk1))))
  refine newList_K F N ?_ (Nat.le_of_ble_eq_true rfl)
  intro l1 h1 F1 N1 hl1
  (repeat' ((fail_if_success (with_reducible show wpAny _ _ (call (Value.ref _) _) _ _ _)); (fail_if_success (with_reducible show wpAny _ _ (compareOp _ (Value.ref _) (Value.ref _)) _ _ _)); (fail_if_success (with_reducible show wpAny _ _ (compareOp _ (Value.str _ _) (Value.str _ _)) _ _ _)); (fail_if_success (with_reducible show wpAny _ _ (binaryOp _ (Value.ref _) _) _ _ _)); (fail_if_success (with_reducible show wpAny _ _ (newList (_ :: _)) _ _ _)); (fail_if_success (with_reducible show wpAny _ _ (subscriptTail _ _ (Value.ref _) _) _ _ _)); (first | (k_unfold; (try dsimp only)) | walk1 | (dsimp only; walk1))))
  refine kmk_slice_lit (lo := none) (hi := some 4) F1 N1 (stays_list F1.keep hlg) IsPart.none (IsPart.int _ _) (slice_upto vs0.toArray) ?_ (by with_unfolding_all rfl) (by intro _; with_unfolding_all rfl) hs0
  intro l2 h2 F2 N2 hl2
  (repeat' ((fail_if_success (with_reducible show wpAny _ _ (call (Value.ref _) _) _ _ _)); (fail_if_success (with_reducible show wpAny _ _ (compareOp _ (Value.ref _) (Value.ref _)) _ _ _)); (fail_if_success (with_reducible show wpAny _ _ (compareOp _ (Value.str _ _) (Value.str _ _)) _ _ _)); (fail_if_success (with_reducible show wpAny _ _ (binaryOp _ (Value.ref _) _) _ _ _)); (fail_if_success (with_reducible show wpAny _ _ (newList (_ :: _)) _ _ _)); (fail_if_success (with_reducible show wpAny _ _ (subscriptTail _ _ (Value.ref _) _) _ _ _)); (first | (k_unfold; (try dsimp only)) | walk1 | (dsimp only; walk1))))
  refine kmk_add_lit F2 N2 (N2.isList (.tail _ (.head _))) (N2.isList (.head _)) rfl ?_ (by rw [sizeLine_eq]; simp; omega)
  intro l3 h3 F3 N3 hl3
  (repeat' ((fail_if_success (with_reducible show wpAny _ _ (call (Value.ref _) _) _ _ _)); (fail_if_success (with_reducible show wpAny _ _ (compareOp _ (Value.ref _) (Value.ref _)) _ _ _)); (fail_if_success (with_reducible show wpAny _ _ (compareOp _ (Value.str _ _) (Value.str _ _)) _ _ _)); (fail_if_success (with_reducible show wpAny _ _ (binaryOp _ (Value.ref _) _) _ _ _)); (fail_if_success (with_reducible show wpAny _ _ (newList (_ :: _)) _ _ _)); (fail_if_success (with_reducible show wpAny _ _ (subscriptTail _ _ (Value.ref _) _) _ _ _)); (first | (k_unfold; (try dsimp only)) | walk1 | (dsimp only; walk1))))
  refine (c_tree (nums ns0) (by simp [nums]; omega) l3).use (rest := _) F3 N3 Xg Tg rfl (hd0 _ _ (by decide)) (hu0 _ _ (by decide)) (fun _ _ _ h => absurd h List.not_mem_nil) ⟨_, N3.isList (.head _), ?_⟩ ?_
  · exact .cons _ _ (.cons _ _ (.cons _ _ (hi.take 4)))
  rintro r4 h4 tk4 ns4 F4 N4 hap4 ⟨D, ws4, k4, rfl, hm4, hv4⟩
  obtain ⟨hwf, hok, hlen, hdep, hlnB, hlenB⟩ := tree_all (nums ns0) (by simp [nums]; omega)
  generalize treeT (nums ns0) = t at *
  have N5 : News g L h4 ((746, o) :: ns4) := fun q hq => N4 q (by
    rcases List.mem_cons.mp hq with rfl | hq
    · exact List.mem_append_right _ (.tail _ (.tail _ (.tail _ (.head _))))
    · exact List.mem_append_left _ hq)
  have hap5 : ∀ q ∈ ns4, q.1 ≠ 746 := fun q hq => hap4 q hq (746, o) (.tail _ (.tail _ (.tail _ (.head _))))
  clear N4 hap4
  (repeat' ((fail_if_success (with_reducible show wpAny _ _ (call (Value.ref _) _) _ _ _)); (fail_if_success (with_reducible show wpAny _ _ (compareOp _ (Value.ref _) (Value.ref _)) _ _ _)); (fail_if_success (with_reducible show wpAny _ _ (compareOp _ (Value.str _ _) (Value.str _ _)) _ _ _)); (fail_if_success (with_reducible show wpAny _ _ (binaryOp _ (Value.ref _) _) _ _ _)); (fail_if_success (with_reducible show wpAny _ _ (newList (_ :: _)) _ _ _)); (fail_if_success (with_reducible show wpAny _ _ (subscriptTail _ _ (Value.ref _) _) _ _ _)); (first | (k_unfold; (try dsimp only)) | walk1 | (dsimp only; walk1))))
  (with_reducible rename Fr _ _ _ _ => F6); (with_reducible rename News _ _ _ _ => N6)
  have hin : ∀ (hh : Heap) (q : Addr × Obj), News g L hh ((746, o) :: ns4) → q ∈ ns4 → (hideAll hh [746]).get? q.1 = some q.2 := fun hh q N hq => hideAll_get _ (N q (.tail _ hq)).1 (fun z => hap5 q hq (List.mem_singleton.mp z))
  refine (c_line 4 t hdep hok hlen hlnB D).use (rest := ns4) F6 N6 ht hb ⟨bm, ob, BMg⟩ Xg Tg rfl (hd0 _ _ (by decide)) (hu0 _ _ (by decide)) hap5 ⟨ws4, ⟨_, hin _ _ N6 hm4, rfl, k4, rfl⟩, hv4.mono fun a ws ⟨n, m⟩ => ⟨_, hin _ _ N6 m, rfl, n, rfl⟩⟩ ?_
  rintro r7 h7 tk7 gs7 dr7 o7 F7 N7 ht7 hb7 ⟨tr7, rfl⟩
  (repeat' ((fail_if_success (with_reducible show wpAny _ _ (call (Value.ref _) _) _ _ _)); (fail_if_success (with_reducible show wpAny _ _ (compareOp _ (Value.ref _) (Value.ref _)) _ _ _)); (fail_if_success (with_reducible show wpAny _ _ (compareOp _ (Value.str _ _) (Value.str _ _)) _ _ _)); (fail_if_success (with_reducible show wpAny _ _ (binaryOp _ (Value.ref _) _) _ _ _)); (fail_if_success (with_reducible show wpAny _ _ (newList (_ :: _)) _ _ _)); (fail_if_success (with_reducible show wpAny _ _ (subscriptTail _ _ (Value.ref _) _) _ _ _)); (first | (k_unfold; (try dsimp only)) | walk1 | (dsimp only; walk1))))
  (with_reducible rename Fr _ _ _ _ => F8); (with_reducible rename News _ _ _ _ => N8)
  refine (c_told 4 t (Str.ofString "'") 1 hdep hok hlen (by decide) (by decide) hlenB D _).use (rest := (746, o7) :: ns4) F8 N8 Xg Tg rfl (hd0 _ _ (by decide)) (hu0 _ _ (by decide)) (fun _ _ _ h => absurd h List.not_mem_nil) ⟨ws4, ⟨_, (N8 _ (.tail _ hm4)).1, rfl, k4, rfl⟩, hv4.mono fun a ws ⟨n, m⟩ => ⟨_, (N8 _ (.tail _ m)).1, rfl, n, rfl⟩⟩ ?_
  rintro r9 h9 tk9 ns9 F9 N9 hap9 ⟨tr9, rfl⟩
  replace N9 := N9.right
  refine eq_lit (b := true) (by rw [line_told hwf hok]; exact beq_self_eq_true _) ?_
  (repeat' ((fail_if_success (with_reducible show wpAny _ _ (call (Value.ref _) _) _ _ _)); (fail_if_success (with_reducible show wpAny _ _ (compareOp _ (Value.ref _) (Value.ref _)) _ _ _)); (fail_if_success (with_reducible show wpAny _ _ (compareOp _ (Value.str _ _) (Value.str _ _)) _ _ _)); (fail_if_success (with_reducible show wpAny _ _ (binaryOp _ (Value.ref _) _) _ _ _)); (fail_if_success (with_reducible show wpAny _ _ (newList (_ :: _)) _ _ _)); (fail_if_success (with_reducible show wpAny _ _ (subscriptTail _ _ (Value.ref _) _) _ _ _)); (first | (k_unfold; (try dsimp only)) | walk1 | (dsimp only; walk1))))
  (with_reducible rename Fr _ _ _ _ => F10); (with_reducible rename News _ _ _ _ => N10)
  refine (c_read 4 t hdep hwf hok hlen (by omega) _).use Kg (Around.frames_deeper Kg.stack) rfl F10 N10 Xg Tg rfl (hd0 _ _ (by decide)) (hu0 _ _ (by decide)) ?_
  rintro r11 h11 tk11 ns11 g11 T11 K11 F11 N11 hap11 X11 Tp11 ⟨D2, vs11, k11, rfl, hm11, hv11⟩
  (repeat' ((fail_if_success (with_reducible show wpAny _ _ (call (Value.ref _) _) _ _ _)); (fail_if_success (with_reducible show wpAny _ _ (compareOp _ (Value.ref _) (Value.ref _)) _ _ _)); (fail_if_success (with_reducible show wpAny _ _ (compareOp _ (Value.str _ _) (Value.str _ _)) _ _ _)); (fail_if_success (with_reducible show wpAny _ _ (binaryOp _ (Value.ref _) _) _ _ _)); (fail_if_success (with_reducible show wpAny _ _ (newList (_ :: _)) _ _ _)); (fail_if_success (with_reducible show wpAny _ _ (subscriptTail _ _ (Value.ref _) _) _ _ _)); (first | (k_unfold; (try dsimp only)) | walk1 | (dsimp only; walk1))))
  (with_reducible rename Fr _ _ _ _ => F12); (with_reducible rename News _ _ _ _ => N12)
  refine (c_known 4 t hdep hok hlen D).use (rest := ns11 ++ ((746, o7) :: ns4)) F12 N12 X11 Tp11 rfl (hd0 _ _ (by decide)) (hu0 _ _ (by decide)) (fun _ _ _ h => absurd h List.not_mem_nil) ⟨ws4, ⟨_, (N12 _ (List.mem_append_right _ (.tail _ hm4))).1, rfl, k4, rfl⟩, hv4.mono fun a ws ⟨n, m⟩ => ⟨_, (N12 _ (List.mem_append_right _ (.tail _ m))).1, rfl, n, rfl⟩⟩ ?_
  rintro r13 h13 tk13 ns13 F13 N13 hap13 ⟨D3, ws13, k13, rfl, hm13, hv13⟩
  have hko := knownT_ok hok
  obtain ⟨as1, ra1⟩ := reads_tree (h := h13) (hv11.mono fun a ws ⟨n, m⟩ => ⟨_, (N13 _ (List.mem_append_right _ (List.mem_append_left _ m))).1, rfl, n, rfl⟩)
  obtain ⟨as2, ra2⟩ := reads_tree (h := h13) (hv13.mono fun a ws ⟨n, m⟩ => ⟨_, (N13 _ (List.mem_append_left _ m)).1, rfl, n, rfl⟩)
  refine eq_dataH (reads_list_at (N13 _ (List.mem_append_right _ (List.mem_append_left _ hm11))).1 rfl rfl ra1) (reads_list_at (N13 _ (List.mem_append_left _ hm13)).1 rfl rfl (by simpa using ra2)) (shaped_tree hko.1 (by rw [hko.2.1]; omega)) (shaped_tree hko.1 (by rw [hko.2.1]; omega)) (hu0 _ 64 (by decide)) ?_
  rw [SeqAt.eqv_refl _ (show (PyData.list (dataT (knownT t))).canLay0 = true from data_lay hko.1)]
  refine hQ h13 tk13 gs7 dr7 o7 (fun b o9 e nm => ?_) (N13 _ (List.mem_append_right _ (List.mem_append_right _ (.head _)))).1 ht7 hb7
  have e1 := hg b o9 e (fun z => nm (List.mem_singleton.mp z))
  exact F13.keep _ _ (T11.other _ _ e1 (fun z => nomatch z))
end
section
noncomputable def KKh (P : Params) : Frag := (nat_lit 746, ⟨.none, none, .fields #[], #[]⟩) :: KK P
noncomputable def kAsh : List Addr := 746 :: kAs
theorem walkAll (q : Program) (loose : List Str) (XP : (Str → Option Value) → Heap → Prop) (d : DefRec) (kwd : List (Str × Expr)) (hdn : d.name = Str.ofString "law") : WalkO q loose XP (InK KKh) PySem.Challenge.rw_mr0361_01.row.toRowW d kwd (fun f vs => PySem.call f vs) := by
  intro w s₀ s₁ mg mb G Y fa o pm cd doc dV kV ho hd hcd hD hmg hg args vals as hpre hlay hrd hwl hlo
  have KX : (KKh w.params).In s₁.heap := Y
  refine Ground.open G ?_
  intro T B D TE TW
  obtain ⟨bm, ob, BM⟩ := bmod_of_top T
  have mg881 : mg (Str.ofString "law") = some (.ref 881) := mg_of (K := KKh w.params) KX T.g rfl
  rw [hdn, mg881] at hmg
  have hfa : fa = 881 := by
    have h9 := Option.some.inj hmg
    injection h9 with h9
    exact h9.symm
  subst hfa
  have h746' : s₁.heap.get? 746 = some ⟨.none, none, .fields #[], #[]⟩ := KX 746 _ rfl
  have hno : (KK w.params).lookup 746 = none := rfl
  have Xs : (KK w.params).In s₁.heap := fun b o e => KX b o (by
    by_cases hb : b = 746
    · rw [hb, hno] at e; cases e
    · show (List.lookup b ((746, _) :: KK w.params)) = some o
      rw [List.lookup_cons, beq_false_of_ne hb]
      exact e)
  have toH : ∀ b o, s₁.heap.get? b = some o → b ≠ 746 → (hideAll s₁.heap [746]).get? b = some o := fun b o e nb => hideAll_get _ e (fun z => nb (List.mem_singleton.mp z))
  have XH : (KK w.params).In (hideAll s₁.heap [746]) := fun b o e => toH b o (Xs b o e) (fun hb => by rw [hb, hno] at e; cases e)
  have TH : TopRead q (looseW q loose) mg mb (hideAll s₁.heap [746]) := by
    obtain ⟨mc, hns, hmc⟩ := T.nolimit
    exact ⟨T.g.at' fun o e => toH _ _ e (by decide), T.b.at' fun o e => toH _ _ e (by decide), ⟨mc, hns.at' (fun o e => toH _ _ e (by decide)), hmc⟩, T.builtins, T.free⟩
  have hbm : bm ≠ 746 := fun e => by
    have h9 := BM.obj
    rw [e, h746'] at h9
    have h8 := BM.data
    rw [← Option.some.inj h9] at h8
    cases h8
  have BMH : BMod (hideAll s₁.heap [746]) mainGlobals mg bm ob := ⟨BM.ns.at' fun o e => toH _ _ e (by decide), BM.name, BM.ne, toH _ _ BM.obj hbm, BM.cls, BM.dict, BM.data⟩
  wrow_args hpre hlay hrd hwl hlo
  (with_reducible rename Heap.IsList _ _ _ => hL); (with_reducible rename IntsAre _ _ => hI); (with_reducible rename ¬ _ < _ => hc9)
  rename_i ns0 _ _ _ _ _ _ _ ax vs0 _ _ _ _ _ _
  have hax : ax ≠ 746 := fun e => by
    obtain ⟨o9, h9, hc, _⟩ := hL
    rw [e, h746'] at h9
    rw [← Option.some.inj h9] at hc
    cases hc
  have hLH : (hideAll s₁.heap [746]).IsList ax vs0.toArray := by
    obtain ⟨o9, h9, r9⟩ := hL
    exact ⟨o9, toH _ _ h9 hax, r9⟩
  refine law_body (H := hideAll s₁.heap [746]) (hide_in _ _) toH XH TH ⟨bm, ob, BMH⟩ (hideAll_none _ (.head _)) h746' ⟨#[], rfl, trivial, .inl rfl⟩ (AllBare.of_eq hg) hLH hI (by omega) ?_
  intro h' tk' gs' dr' o' hk ho' ht' hb'
  refine ⟨.inl ⟨.bool true, .bool true, [], rfl, fun cls => rfl, .bool true, ?post, unshared_nil⟩, ⟨fun b o9 e => ?_, fun b o9 e => ?_⟩, rfl, hb'⟩
  case post => first | with_unfolding_all rfl | kernel_rfl | decide | trace_state
  · by_cases hb9 : b = 746
    · subst hb9
      rw [h746'] at e
      cases e
      obtain ⟨ps, rfl, _⟩ := ht'
      exact .inr (.inl ⟨⟨750, _, _, Xs 750 _ rfl, rfl, rfl, rfl⟩, rfl, #[], ps, rfl, by simpa using ho'⟩)
    · exact .inl (hk _ _ e hb9)
  · by_cases hb9 : b = 746
    · exact ⟨o', hb9 ▸ ho'⟩
    · exact ⟨o9, hk _ _ e hb9⟩
end
theorem hd.tw10012880186880212623 : True := .intro
theorem hd.tw10024716035694756283 : True := .intro
theorem hd.tw10026777125879992224 : True := .intro
theorem hd.tw10030107230732127627 : True := .intro
theorem hd.tw100483095206116625 : True := .intro
theorem hd.tw1005483496087919985 : True := .intro
theorem hd.tw10102539355485613405 : True := .intro
theorem hd.tw10111801491309104144 : True := .intro
theorem hd.tw1011335219593555734 : True := .intro
theorem hd.tw10117440562283002822 : True := .intro
theorem hd.tw1013155817946168525 : True := .intro
theorem hd.tw10170382586518783626 : True := .intro
theorem hd.tw10172710858053320305 : True := .intro
theorem hd.tw10195207025132199040 : True := .intro
theorem hd.tw10200926772931222457 : True := .intro
theorem hd.tw102014493982917126 : True := .intro
theorem hd.tw10210669037155785340 : True := .intro
theorem hd.tw10216474801634566288 : True := .intro
theorem hd.tw10224846074564989696 : True := .intro
theorem hd.tw10229805826793662693 : True := .intro
theorem hd.tw10246146449241189800 : True := .intro
theorem hd.tw1025053825329563448 : True := .intro
theorem hd.tw10258225898301398825 : True := .intro
theorem hd.tw10258999931320997221 : True := .intro
theorem hd.tw10264135568141901301 : True := .intro
theorem hd.tw10273187271170590260 : True := .intro
theorem hd.tw10283529075043463162 : True := .intro
theorem hd.tw10286656452748174568 : True := .intro
theorem hd.tw10292235466723388172 : True := .intro
theorem hd.tw10314088207596747050 : True := .intro
theorem hd.tw10331275065770859567 : True := .intro
theorem hd.tw1033889070964956483 : True := .intro
theorem hd.tw10365702040365258594 : True := .intro
theorem hd.tw10376703724636587151 : True := .intro
theorem hd.tw10403243965636340961 : True := .intro
theorem hd.tw10404513684093684653 : True := .intro
theorem hd.tw10424393626065333798 : True := .intro
theorem hd.tw1043307727769730188 : True := .intro
theorem hd.tw10450363280022070651 : True := .intro
theorem hd.tw10465514089279642386 : True := .intro
theorem hd.tw10491609206876299696 : True := .intro
theorem hd.tw10507497572311344420 : True := .intro
theorem hd.tw1051681510052472703 : True := .intro
theorem hd.tw10525666975642140466 : True := .intro
theorem hd.tw10531373872144210542 : True := .intro
theorem hd.tw10543509907540572799 : True := .intro
theorem hd.tw10558106933452604415 : True := .intro
theorem hd.tw10583446816852156582 : True := .intro
theorem hd.tw10585609294911261024 : True := .intro
theorem hd.tw10595968288072337780 : True := .intro
theorem hd.tw10601615944963115059 : True := .intro
theorem hd.tw10603584201595350602 : True := .intro
theorem hd.tw10604169790165778682 : True := .intro
theorem hd.tw10613586106871329381 : True := .intro
theorem hd.tw10614716105012338702 : True := .intro
theorem hd.tw10643592516055977328 : True := .intro
theorem hd.tw10654345511274693656 : True := .intro
theorem hd.tw10678649693572172417 : True := .intro
theorem hd.tw10737458330869947321 : True := .intro
theorem hd.tw10743916045514856203 : True := .intro
theorem hd.tw10752148897807903841 : True := .intro
theorem hd.tw10763509664835889504 : True := .intro
theorem hd.tw10778257442750969130 : True := .intro
theorem hd.tw10781468475247234061 : True := .intro
theorem hd.tw10784824025267889561 : True := .intro
theorem hd.tw10788059911547816233 : True := .intro
theorem hd.tw10792051664901133789 : True := .intro
theorem hd.tw10806950440038215891 : True := .intro
theorem hd.tw10819331528351526247 : True := .intro
theorem hd.tw10834780440838970164 : True := .intro
theorem hd.tw10835030195340973342 : True := .intro
theorem hd.tw10841399608879689956 : True := .intro
theorem hd.tw10844753989422098599 : True := .intro
theorem hd.tw10845626234925267891 : True := .intro
theorem hd.tw10847404155465417027 : True := .intro
theorem hd.tw10860895700388868024 : True := .intro
theorem hd.tw10879034167726328663 : True := .intro
theorem hd.tw10904933031377857372 : True := .intro
theorem hd.tw10905181550472923540 : True := .intro
theorem hd.tw10905682514733158466 : True := .intro
theorem hd.tw10919297434634762262 : True := .intro
theorem hd.tw10933677585905718993 : True := .intro
theorem hd.tw10947331860392259696 : True := .intro
theorem hd.tw10949625832625181284 : True := .intro
theorem hd.tw10955317050725887447 : True := .intro
theorem hd.tw1097998534492414930 : True := .intro
theorem hd.tw11011131195910976488 : True := .intro
theorem hd.tw11024222330075796079 : True := .intro
theorem hd.tw11032806212648032379 : True := .intro
theorem hd.tw11034497122203965937 : True := .intro
theorem hd.tw11052946933831473538 : True := .intro
theorem hd.tw11109741339103130912 : True := .intro
theorem hd.tw11115866451450875312 : True := .intro
theorem hd.tw11126320352707459272 : True := .intro
theorem hd.tw11128854368766332075 : True := .intro
theorem hd.tw11136197038861592535 : True := .intro
theorem hd.tw11151547217846952531 : True := .intro
theorem hd.tw11162318198679636149 : True := .intro
theorem hd.tw11180023125335031430 : True := .intro
theorem hd.tw1118553966540926140 : True := .intro
theorem hd.tw11213053971927718326 : True := .intro
theorem hd.tw11224897151958998736 : True := .intro
theorem hd.tw11232374478483605306 : True := .intro
theorem hd.tw11248203148988284874 : True := .intro
theorem hd.tw11249132867342737325 : True := .intro
theorem hd.tw11251137523995926341 : True := .intro
theorem hd.tw11256106856564762260 : True := .intro
theorem hd.tw11283319371284918911 : True := .intro
theorem hd.tw1129884963351977449 : True := .intro
theorem hd.tw11319892378374348655 : True := .intro
theorem hd.tw11364443708160879001 : True := .intro
theorem hd.tw11375277706881905925 : True := .intro
theorem hd.tw11389486352061984695 : True := .intro
theorem hd.tw11399449904127653305 : True := .intro
theorem hd.tw11402939732021071671 : True := .intro
theorem hd.tw11415386828835887437 : True := .intro
theorem hd.tw11465210709893060100 : True := .intro
theorem hd.tw1147470481896660410 : True := .intro
theorem hd.tw11507959949525687343 : True := .intro
theorem hd.tw11551083187376567056 : True := .intro
theorem hd.tw11587034568685482758 : True := .intro
theorem hd.tw11595982170579460384 : True := .intro
theorem hd.tw11613959477542969444 : True := .intro
theorem hd.tw11623594800819314181 : True := .intro
theorem hd.tw11629707937479629763 : True := .intro
theorem hd.tw11631947586910100387 : True := .intro
theorem hd.tw11632984921778587759 : True := .intro
theorem hd.tw11636924220087485885 : True := .intro
theorem hd.tw11652457597714270106 : True := .intro
theorem hd.tw11660266114150955751 : True := .intro
theorem hd.tw11663481321943121269 : True := .intro
theorem hd.tw11713075325732132258 : True := .intro
theorem hd.tw11729958736954745289 : True := .intro
theorem hd.tw11749099774412794130 : True := .intro
theorem hd.tw11754176132448286083 : True := .intro
theorem hd.tw11775305588321162381 : True := .intro
theorem hd.tw11801993109049149486 : True := .intro
theorem hd.tw1184127607605381967 : True := .intro
theorem hd.tw11841407262063887625 : True := .intro
theorem hd.tw11845739042510646663 : True := .intro
theorem hd.tw11852641145169952659 : True := .intro
theorem hd.tw11893437276241958245 : True := .intro
theorem hd.tw11898664097942606779 : True := .intro
theorem hd.tw11905163887095721015 : True := .intro
theorem hd.tw11912922877643110818 : True := .intro
theorem hd.tw11942693397608355085 : True := .intro
theorem hd.tw1194904439430580092 : True := .intro
theorem hd.tw11953376511379268794 : True := .intro
theorem hd.tw11968265576560266318 : True := .intro
theorem hd.tw1197925565968671727 : True := .intro
theorem hd.tw11980337997380408332 : True := .intro
theorem hd.tw12023040214023829324 : True := .intro
theorem hd.tw12050417470231563642 : True := .intro
theorem hd.tw12058812876911547015 : True := .intro
theorem hd.tw12070654863422294720 : True := .intro
theorem hd.tw1208734638264122097 : True := .intro
theorem hd.tw12092154237167983948 : True := .intro
theorem hd.tw12112201142124510154 : True := .intro
theorem hd.tw12113243949977362033 : True := .intro
theorem hd.tw12127338746724423809 : True := .intro
theorem hd.tw12131494931117144662 : True := .intro
theorem hd.tw12173100003817136821 : True := .intro
theorem hd.tw12201216968780110852 : True := .intro
theorem hd.tw12211380539166087753 : True := .intro
theorem hd.tw1222794163293265305 : True := .intro
theorem hd.tw12232750017996463310 : True := .intro
theorem hd.tw12239354291974867115 : True := .intro
theorem hd.tw12254263087357419629 : True := .intro
theorem hd.tw12268275109542032366 : True := .intro
theorem hd.tw12331051067403766639 : True := .intro
theorem hd.tw12337632362937886050 : True := .intro
theorem hd.tw12350410155528471161 : True := .intro
theorem hd.tw12364972598781006883 : True := .intro
theorem hd.tw12394076208661396346 : True := .intro
theorem hd.tw12399718760709695909 : True := .intro
theorem hd.tw1241404454085649124 : True := .intro
theorem hd.tw12414669353804360901 : True := .intro
theorem hd.tw12418435599462062936 : True := .intro
theorem hd.tw12422910364396171709 : True := .intro
theorem hd.tw12459740579856956213 : True := .intro
theorem hd.tw1247026723315081023 : True := .intro
theorem hd.tw12480425521718506038 : True := .intro
theorem hd.tw12487091752034442420 : True := .intro
theorem hd.tw12487502673411948298 : True := .intro
theorem hd.tw12487542160262675636 : True := .intro
theorem hd.tw12521463284412890351 : True := .intro
theorem hd.tw1256466517863071783 : True := .intro
theorem hd.tw12565835363266740329 : True := .intro
theorem hd.tw12588582704262371052 : True := .intro
theorem hd.tw12590977762386282803 : True := .intro
theorem hd.tw12591134339009171964 : True := .intro
theorem hd.tw12598724348716800887 : True := .intro
theorem hd.tw12602439190401603521 : True := .intro
theorem hd.tw12611767792052310623 : True := .intro
theorem hd.tw12614811148066621264 : True := .intro
theorem hd.tw12617484926136758311 : True := .intro
theorem hd.tw12629531694177875297 : True := .intro
theorem hd.tw12629568148972539762 : True := .intro
theorem hd.tw12631932088317031055 : True := .intro
theorem hd.tw12642813592246648485 : True := .intro
theorem hd.tw12647368939536790636 : True := .intro
theorem hd.tw12669576375859063689 : True := .intro
theorem hd.tw12676414471582705871 : True := .intro
theorem hd.tw12685813987229840507 : True := .intro
theorem hd.tw12704988097186499811 : True := .intro
theorem hd.tw12715402060735579648 : True := .intro
theorem hd.tw12744807935193187038 : True := .intro
theorem hd.tw12747056698307629718 : True := .intro
theorem hd.tw12769127236821124696 : True := .intro
theorem hd.tw12778418089203562962 : True := .intro
theorem hd.tw12832683148521936107 : True := .intro
theorem hd.tw128412058910260475 : True := .intro
theorem hd.tw12861998865439983172 : True := .intro
theorem hd.tw12870888531099404533 : True := .intro
theorem hd.tw12872897951434832890 : True := .intro
theorem hd.tw1287958475656056414 : True := .intro
theorem hd.tw12899037345604142648 : True := .intro
theorem hd.tw12900700647772717614 : True := .intro
theorem hd.tw12901994302517312135 : True := .intro
theorem hd.tw12936449754285732098 : True := .intro
theorem hd.tw12940713784782232206 : True := .intro
theorem hd.tw12952509933414984302 : True := .intro
theorem hd.tw12976082216212581069 : True := .intro
theorem hd.tw12976186185376257304 : True := .intro
theorem hd.tw12994019391074448376 : True := .intro
theorem hd.tw12995909851351757392 : True := .intro
theorem hd.tw13001811119718631651 : True := .intro
theorem hd.tw13011413612017729677 : True := .intro
theorem hd.tw13025047050765560322 : True := .intro
theorem hd.tw13038990169509382042 : True := .intro
theorem hd.tw13051953538815563581 : True := .intro
theorem hd.tw13064122474441708322 : True := .intro
theorem hd.tw13092906067662860646 : True := .intro
theorem hd.tw13096558090100123544 : True := .intro
theorem hd.tw13122850982685727845 : True := .intro
theorem hd.tw13129650132239662433 : True := .intro
theorem hd.tw13132618709999183898 : True := .intro
theorem hd.tw13155211650623716127 : True := .intro
theorem hd.tw13160604113216922460 : True := .intro
theorem hd.tw13164601040044201813 : True := .intro
theorem hd.tw13171141561276507362 : True := .intro
theorem hd.tw13172843250190940813 : True := .intro
theorem hd.tw13181700845877081190 : True := .intro
theorem hd.tw13206406409579783871 : True := .intro
theorem hd.tw13217225542625558698 : True := .intro
theorem hd.tw13217827037086042188 : True := .intro
theorem hd.tw13218659294841961345 : True := .intro
theorem hd.tw13220430256171166289 : True := .intro
theorem hd.tw13239904802401495117 : True := .intro
theorem hd.tw13255428261173160881 : True := .intro
theorem hd.tw13280443560766958183 : True := .intro
theorem hd.tw13289513938125300765 : True := .intro
theorem hd.tw13293453174229064190 : True := .intro
theorem hd.tw1331086792558400476 : True := .intro
theorem hd.tw1331487369976884630 : True := .intro
theorem hd.tw13315533130655954831 : True := .intro
theorem hd.tw13321331477185743149 : True := .intro
theorem hd.tw13322179722446271537 : True := .intro
theorem hd.tw13330244855972007585 : True := .intro
theorem hd.tw13342606739435360313 : True := .intro
theorem hd.tw13347369733751428629 : True := .intro
theorem hd.tw1335065189686863947 : True := .intro
theorem hd.tw13363553139645760527 : True := .intro
theorem hd.tw13365295217650922812 : True := .intro
theorem hd.tw13368278939475635651 : True := .intro
theorem hd.tw13372043803930879067 : True := .intro
theorem hd.tw13409441903868389331 : True := .intro
theorem hd.tw13431754692932380062 : True := .intro
theorem hd.tw13458954166980676860 : True := .intro
theorem hd.tw13466754112058979494 : True := .intro
theorem hd.tw13468300074154594103 : True := .intro
theorem hd.tw13474097485772985973 : True := .intro
theorem hd.tw13475242022060392486 : True := .intro
theorem hd.tw13478424178397462001 : True := .intro
theorem hd.tw13531707123254989501 : True := .intro
theorem hd.tw13532847315355080253 : True := .intro
theorem hd.tw13562760996464443880 : True := .intro
theorem hd.tw13566260322249332789 : True := .intro
theorem hd.tw13574768056931433239 : True := .intro
theorem hd.tw1359830224848277088 : True := .intro
theorem hd.tw13606922415975196911 : True := .intro
theorem hd.tw13609717118414637909 : True := .intro
theorem hd.tw13624431586668435662 : True := .intro
theorem hd.tw13628142620392400109 : True := .intro
theorem hd.tw13638418597567726942 : True := .intro
theorem hd.tw13642289790063256904 : True := .intro
theorem hd.tw13671756088133313087 : True := .intro
theorem hd.tw13747817723492736564 : True := .intro
theorem hd.tw137786328141462057 : True := .intro
theorem hd.tw13783031573616600631 : True := .intro
theorem hd.tw13790719812936386609 : True := .intro
theorem hd.tw1379335367625716243 : True := .intro
theorem hd.tw13828106393651249627 : True := .intro
theorem hd.tw1382963296337349011 : True := .intro
theorem hd.tw13840357560478945406 : True := .intro
theorem hd.tw1386097877827089520 : True := .intro
theorem hd.tw13866372431405929976 : True := .intro
theorem hd.tw1387947217392218043 : True := .intro
theorem hd.tw13893168526513508166 : True := .intro
theorem hd.tw13903934854276604550 : True := .intro
theorem hd.tw13919464512627920130 : True := .intro
theorem hd.tw13927848278213783679 : True := .intro
theorem hd.tw13929354066492186541 : True := .intro
theorem hd.tw13931416462566266981 : True := .intro
theorem hd.tw13937860266046166849 : True := .intro
theorem hd.tw13944508082162953488 : True := .intro
theorem hd.tw14006173549557618073 : True := .intro
theorem hd.tw14031261019411111474 : True := .intro
theorem hd.tw14060154772996877548 : True := .intro
theorem hd.tw14060237666301923597 : True := .intro
theorem hd.tw14078009766183191694 : True := .intro
theorem hd.tw1409312971732116557 : True := .intro
theorem hd.tw14103535550066685397 : True := .intro
theorem hd.tw14106227501169856981 : True := .intro
theorem hd.tw14120982254508448379 : True := .intro
theorem hd.tw1413172679324656950 : True := .intro
theorem hd.tw14135609715661531928 : True := .intro
theorem hd.tw14137390275340422267 : True := .intro
theorem hd.tw14157391046456589319 : True := .intro
theorem hd.tw14168552714766633299 : True := .intro
theorem hd.tw14176624398918483544 : True := .intro
theorem hd.tw14205177575709318024 : True := .intro
theorem hd.tw14246236162039180721 : True := .intro
theorem hd.tw1425423193147277237 : True := .intro
theorem hd.tw14294344414604881677 : True := .intro
theorem hd.tw14328484209623677503 : True := .intro
theorem hd.tw14333710738500927179 : True := .intro
theorem hd.tw14353793391729792155 : True := .intro
theorem hd.tw14365634280432432986 : True := .intro
theorem hd.tw1439246655266547700 : True := .intro
theorem hd.tw14400467628812073631 : True := .intro
theorem hd.tw1442979259482581688 : True := .intro
theorem hd.tw14438451200097066615 : True := .intro
theorem hd.tw14439243815434019604 : True := .intro
theorem hd.tw14440960662653809013 : True := .intro
theorem hd.tw14444963742821833902 : True := .intro
theorem hd.tw14446474709323646786 : True := .intro
theorem hd.tw14454528878903484812 : True := .intro
theorem hd.tw14457593812595234344 : True := .intro
theorem hd.tw14462709497994964445 : True := .intro
theorem hd.tw14478148883734587675 : True := .intro
theorem hd.tw1448358952932078338 : True := .intro
theorem hd.tw14492701947808656938 : True := .intro
theorem hd.tw1452849714261714991 : True := .intro
theorem hd.tw14553816603554493358 : True := .intro
theorem hd.tw14560493823538711346 : True := .intro
theorem hd.tw14567429538950270057 : True := .intro
theorem hd.tw14579804019780415049 : True := .intro
theorem hd.tw14598272352848978880 : True := .intro
theorem hd.tw14620637471214046174 : True := .intro
theorem hd.tw14623610509376584727 : True := .intro
theorem hd.tw14667805832236412624 : True := .intro
theorem hd.tw14673209030070457562 : True := .intro
theorem hd.tw14683707025165767436 : True := .intro
theorem hd.tw14685462170515437407 : True := .intro
theorem hd.tw14705683404202351889 : True := .intro
theorem hd.tw14706022693812145444 : True := .intro
theorem hd.tw14743440263598761229 : True := .intro
theorem hd.tw14745743045033390146 : True := .intro
theorem hd.tw14768889098011018680 : True := .intro
theorem hd.tw14772383043592177042 : True := .intro
theorem hd.tw1478417189504633665 : True := .intro
theorem hd.tw14889214211474231398 : True := .intro
theorem hd.tw14892549342360969540 : True := .intro
theorem hd.tw14896477498954680388 : True := .intro
theorem hd.tw14906377314874228009 : True := .intro
theorem hd.tw14914937398881237230 : True := .intro
theorem hd.tw14955159897011116063 : True := .intro
theorem hd.tw14960593345356199642 : True := .intro
theorem hd.tw14969688514271112891 : True := .intro
theorem hd.tw14984183105004643987 : True := .intro
theorem hd.tw14991384322417631237 : True := .intro
theorem hd.tw15001097145646765096 : True := .intro
theorem hd.tw15033227074091944939 : True := .intro
theorem hd.tw15042006015671813226 : True := .intro
theorem hd.tw15048261121198461528 : True := .intro
theorem hd.tw15054049728407801353 : True := .intro
theorem hd.tw15064902949301533346 : True := .intro
theorem hd.tw15074197538484233485 : True := .intro
theorem hd.tw15083628210047938546 : True := .intro
theorem hd.tw15084132493965779093 : True := .intro
theorem hd.tw15089522573102190283 : True := .intro
theorem hd.tw15103106377680225435 : True := .intro
theorem hd.tw1511243299971373483 : True := .intro
theorem hd.tw15152743547302097792 : True := .intro
theorem hd.tw15153279154761372571 : True := .intro
theorem hd.tw15166520500009309586 : True := .intro
theorem hd.tw15179676742415161110 : True := .intro
theorem hd.tw15199589371867527261 : True := .intro
theorem hd.tw15207398651663016943 : True := .intro
theorem hd.tw15213948185873263833 : True := .intro
theorem hd.tw15220180469806662145 : True := .intro
theorem hd.tw15228807520496212463 : True := .intro
theorem hd.tw15271836975722400564 : True := .intro
theorem hd.tw15277330632498426303 : True := .intro
theorem hd.tw15278966056882409248 : True := .intro
theorem hd.tw15279998641719260112 : True := .intro
theorem hd.tw15344866539931968096 : True := .intro
theorem hd.tw15352081997341112220 : True := .intro
theorem hd.tw15359539659126506718 : True := .intro
theorem hd.tw15361844209890540735 : True := .intro
theorem hd.tw15367242080415987702 : True := .intro
theorem hd.tw15368132723985388332 : True := .intro
theorem hd.tw15378359858306647822 : True := .intro
theorem hd.tw15381450162410889989 : True := .intro
theorem hd.tw15384028259256376558 : True := .intro
theorem hd.tw15411387601460861337 : True := .intro
theorem hd.tw15422856539912107476 : True := .intro
theorem hd.tw15427206886491885616 : True := .intro
theorem hd.tw15463257786427224491 : True := .intro
theorem hd.tw15508949281206285077 : True := .intro
theorem hd.tw15527848837575444561 : True := .intro
theorem hd.tw15529170255622000948 : True := .intro
theorem hd.tw1557243174674812401 : True := .intro
theorem hd.tw15578025631644234493 : True := .intro
theorem hd.tw15595854959937240912 : True := .intro
theorem hd.tw15610959940260225430 : True := .intro
theorem hd.tw15615420239508185596 : True := .intro
theorem hd.tw15615537253650120727 : True := .intro
theorem hd.tw15616948245753086127 : True := .intro
theorem hd.tw15625209780758371316 : True := .intro
theorem hd.tw15630680890609703042 : True := .intro
theorem hd.tw15634565183472343292 : True := .intro
theorem hd.tw1563692795949630186 : True := .intro
theorem hd.tw15637593595834871717 : True := .intro
theorem hd.tw15642763164714097627 : True := .intro
theorem hd.tw15673258824015622330 : True := .intro
theorem hd.tw15675198926951892251 : True := .intro
theorem hd.tw15677629932584476913 : True := .intro
theorem hd.tw15683763237869141255 : True := .intro
theorem hd.tw15687388767607454252 : True := .intro
theorem hd.tw15697423400787487869 : True := .intro
theorem hd.tw15759970867653108152 : True := .intro
theorem hd.tw15766875824913328220 : True := .intro
theorem hd.tw15782933578036195360 : True := .intro
theorem hd.tw15795242993344767468 : True := .intro
theorem hd.tw1580110805410547442 : True := .intro
theorem hd.tw15813434630575017362 : True := .intro
theorem hd.tw1582976572388173787 : True := .intro
theorem hd.tw15837987909243819085 : True := .intro
theorem hd.tw1584506945513601688 : True := .intro
theorem hd.tw15852365999677673905 : True := .intro
theorem hd.tw15856727013471470956 : True := .intro
theorem hd.tw1588505670450824345 : True := .intro
theorem hd.tw1589133516308662214 : True := .intro
theorem hd.tw15903236813424938763 : True := .intro
theorem hd.tw15910714762333108613 : True := .intro
theorem hd.tw15923250282426842828 : True := .intro
theorem hd.tw15924899543223041283 : True := .intro
theorem hd.tw15931116738044738221 : True := .intro
theorem hd.tw15946388913382835224 : True := .intro
theorem hd.tw15948780112781908787 : True := .intro
theorem hd.tw15963624873386084050 : True := .intro
theorem hd.tw15967140613478806237 : True := .intro
theorem hd.tw15987713032478767096 : True := .intro
theorem hd.tw1600037746751723098 : True := .intro
theorem hd.tw16011055738799735888 : True := .intro
theorem hd.tw16029623286316568529 : True := .intro
theorem hd.tw1603739661141634737 : True := .intro
theorem hd.tw16037735763661986305 : True := .intro
theorem hd.tw16052320808349706082 : True := .intro
theorem hd.tw16053994301053490033 : True := .intro
theorem hd.tw16056359734778111409 : True := .intro
theorem hd.tw16064382804478563927 : True := .intro
theorem hd.tw1610171440888473627 : True := .intro
theorem hd.tw16138627921320673191 : True := .intro
theorem hd.tw16154546982801380032 : True := .intro
theorem hd.tw16155205043701107222 : True := .intro
theorem hd.tw16156708551869547534 : True := .intro
theorem hd.tw16157073509204512506 : True := .intro
theorem hd.tw16158619036321959407 : True := .intro
theorem hd.tw16169374299450900766 : True := .intro
theorem hd.tw16171809288044610508 : True := .intro
theorem hd.tw16173144727172801181 : True := .intro
theorem hd.tw16178712458983371728 : True := .intro
theorem hd.tw16194383521188589630 : True := .intro
theorem hd.tw16211521421427940678 : True := .intro
theorem hd.tw16227762859984022837 : True := .intro
theorem hd.tw16246848685605474055 : True := .intro
theorem hd.tw16257038226119295666 : True := .intro
theorem hd.tw16259696140248634718 : True := .intro
theorem hd.tw162610821266807592 : True := .intro
theorem hd.tw16301592386811335294 : True := .intro
theorem hd.tw16302227732802510677 : True := .intro
theorem hd.tw16332348944364537037 : True := .intro
theorem hd.tw16345102440705955213 : True := .intro
theorem hd.tw16357263729072622229 : True := .intro
theorem hd.tw16376525773666504680 : True := .intro
theorem hd.tw16409295683739894939 : True := .intro
theorem hd.tw16412773359747925120 : True := .intro
theorem hd.tw16414904818172857274 : True := .intro
theorem hd.tw16415028865518655546 : True := .intro
theorem hd.tw1643121930917553208 : True := .intro
theorem hd.tw16432713993328977331 : True := .intro
theorem hd.tw16443024508289211202 : True := .intro
theorem hd.tw16456969618363192440 : True := .intro
theorem hd.tw16464424236575238572 : True := .intro
theorem hd.tw16477043939570097188 : True := .intro
theorem hd.tw16487816990975572028 : True := .intro
theorem hd.tw16502264421070913907 : True := .intro
theorem hd.tw16547865195752855329 : True := .intro
theorem hd.tw16558851475291246605 : True := .intro
theorem hd.tw16586154707042036113 : True := .intro
theorem hd.tw16587392273704687506 : True := .intro
theorem hd.tw16634568088961857937 : True := .intro
theorem hd.tw16635604280276938560 : True := .intro
theorem hd.tw16639802674150441104 : True := .intro
theorem hd.tw16640546478005224243 : True := .intro
theorem hd.tw16641143254114907239 : True := .intro
theorem hd.tw16649331688326792143 : True := .intro
theorem hd.tw1666387254794493845 : True := .intro
theorem hd.tw16684818696116721337 : True := .intro
theorem hd.tw16692772259055178886 : True := .intro
theorem hd.tw16694946328126371552 : True := .intro
theorem hd.tw16698745307106531279 : True := .intro
theorem hd.tw16713699803418581334 : True := .intro
theorem hd.tw16722109127936396110 : True := .intro
theorem hd.tw16742648372681657963 : True := .intro
theorem hd.tw16743270001478585348 : True := .intro
theorem hd.tw16744898341101239380 : True := .intro
theorem hd.tw16759147789766475008 : True := .intro
theorem hd.tw16772102934027710169 : True := .intro
theorem hd.tw16781597205703756006 : True := .intro
theorem hd.tw16794629799341752650 : True := .intro
theorem hd.tw16795040122137113940 : True := .intro
theorem hd.tw16826083622388986153 : True := .intro
theorem hd.tw16828841361933241965 : True := .intro
theorem hd.tw16829038064831673031 : True := .intro
theorem hd.tw16853341256802265648 : True := .intro
theorem hd.tw16868993833207775613 : True := .intro
theorem hd.tw16870090452748662828 : True := .intro
theorem hd.tw16872966261324078127 : True := .intro
theorem hd.tw16896567674234606475 : True := .intro
theorem hd.tw16914215919094292968 : True := .intro
theorem hd.tw16919406825032445293 : True := .intro
theorem hd.tw16945582573551092051 : True := .intro
theorem hd.tw16957190012819468567 : True := .intro
theorem hd.tw16970440968685349367 : True := .intro
theorem hd.tw1699103778626983548 : True := .intro
theorem hd.tw17001982702790524580 : True := .intro
theorem hd.tw17002781174329755331 : True := .intro
theorem hd.tw17038178572684014812 : True := .intro
theorem hd.tw17054507655720011243 : True := .intro
theorem hd.tw17062030032774818151 : True := .intro
theorem hd.tw17066044127408595049 : True := .intro
theorem hd.tw17070941380808615275 : True := .intro
theorem hd.tw17076082267592564974 : True := .intro
theorem hd.tw17087091549796120035 : True := .intro
theorem hd.tw17088047866570459193 : True := .intro
theorem hd.tw17101829828953933863 : True := .intro
theorem hd.tw1712922718373300912 : True := .intro
theorem hd.tw17130151131035750659 : True := .intro
theorem hd.tw17143205804819765802 : True := .intro
theorem hd.tw17143746779515762356 : True := .intro
theorem hd.tw17172931820748874959 : True := .intro
theorem hd.tw1717729237380139383 : True := .intro
theorem hd.tw17183224562656869120 : True := .intro
theorem hd.tw17213754286329925777 : True := .intro
theorem hd.tw17217394356764393341 : True := .intro
theorem hd.tw17232729238497989147 : True := .intro
theorem hd.tw17234923516513369237 : True := .intro
theorem hd.tw17252143746492648416 : True := .intro
theorem hd.tw17258206423299326598 : True := .intro
theorem hd.tw17273587926920868623 : True := .intro
theorem hd.tw17278324374586462682 : True := .intro
theorem hd.tw1728934660973012959 : True := .intro
theorem hd.tw17312975722139092705 : True := .intro
theorem hd.tw17312999752573914782 : True := .intro
theorem hd.tw17317347222371691485 : True := .intro
theorem hd.tw17318795884933167856 : True := .intro
theorem hd.tw17325209927041812611 : True := .intro
theorem hd.tw17330132731328240911 : True := .intro
theorem hd.tw17330945745186091897 : True := .intro
theorem hd.tw17336936450418997793 : True := .intro
theorem hd.tw17347436560843906493 : True := .intro
theorem hd.tw1736311965527578767 : True := .intro
theorem hd.tw17377529257436501650 : True := .intro
theorem hd.tw17386561741084979693 : True := .intro
theorem hd.tw17387473266821786944 : True := .intro
theorem hd.tw17420951861521290806 : True := .intro
theorem hd.tw17429513623812275283 : True := .intro
theorem hd.tw1744074299117110578 : True := .intro
theorem hd.tw17447410573909459338 : True := .intro
theorem hd.tw17454471701868102899 : True := .intro
theorem hd.tw17470177872615007328 : True := .intro
theorem hd.tw17471934795394947791 : True := .intro
theorem hd.tw17491280204586788870 : True := .intro
theorem hd.tw17491317419825422843 : True := .intro
theorem hd.tw17495340751864218003 : True := .intro
theorem hd.tw17542962492245011380 : True := .intro
theorem hd.tw17562767543260142214 : True := .intro
theorem hd.tw17570734847185409352 : True := .intro
theorem hd.tw17577478241444706838 : True := .intro
theorem hd.tw17583924267553061668 : True := .intro
theorem hd.tw17588044629489971554 : True := .intro
theorem hd.tw17599816209265215132 : True := .intro
theorem hd.tw1760603350576429475 : True := .intro
theorem hd.tw17606422857730326317 : True := .intro
theorem hd.tw17640862679970642326 : True := .intro
theorem hd.tw17649441919526076750 : True := .intro
theorem hd.tw17650839729002327288 : True := .intro
theorem hd.tw17668637344460488510 : True := .intro
theorem hd.tw17672654358674132775 : True := .intro
theorem hd.tw17673860158736603733 : True := .intro
theorem hd.tw17679848547673146604 : True := .intro
theorem hd.tw17681399029576232318 : True := .intro
theorem hd.tw17696971302532935780 : True := .intro
theorem hd.tw17711083657039698284 : True := .intro
theorem hd.tw17714235663813219645 : True := .intro
theorem hd.tw17737187407176874954 : True := .intro
theorem hd.tw17784710179527947834 : True := .intro
theorem hd.tw17824972565232928905 : True := .intro
theorem hd.tw17843490464661113860 : True := .intro
theorem hd.tw17849003137439291346 : True := .intro
theorem hd.tw17893044597097874663 : True := .intro
theorem hd.tw17895171251205151618 : True := .intro
theorem hd.tw17901334829092211166 : True := .intro
theorem hd.tw17902569758825723728 : True := .intro
theorem hd.tw17903497710992402801 : True := .intro
theorem hd.tw17919194246423945575 : True := .intro
theorem hd.tw17925215291927510665 : True := .intro
theorem hd.tw1792636949448641307 : True := .intro
theorem hd.tw17930870258028551510 : True := .intro
theorem hd.tw17948085552500728524 : True := .intro
theorem hd.tw17950676927832955104 : True := .intro
theorem hd.tw17956543221229664512 : True := .intro
theorem hd.tw17969167859971792583 : True := .intro
theorem hd.tw17986969038992634876 : True := .intro
theorem hd.tw17992175057805443440 : True := .intro
theorem hd.tw17992873397187703194 : True := .intro
theorem hd.tw17994825080979385314 : True := .intro
theorem hd.tw18015809273756184261 : True := .intro
theorem hd.tw18087722134493236510 : True := .intro
theorem hd.tw18093812233618175256 : True := .intro
theorem hd.tw18095200977026478895 : True := .intro
theorem hd.tw1810128313956251070 : True := .intro
theorem hd.tw18103342009636024947 : True := .intro
theorem hd.tw18103420901670897651 : True := .intro
theorem hd.tw1811199898794616982 : True := .intro
theorem hd.tw18131696352309475102 : True := .intro
theorem hd.tw18152756486534528934 : True := .intro
theorem hd.tw18160293313031310949 : True := .intro
theorem hd.tw18163647496604598072 : True := .intro
theorem hd.tw18166333605607142505 : True := .intro
theorem hd.tw18176940659606848779 : True := .intro
theorem hd.tw18185175575083235020 : True := .intro
theorem hd.tw18185714744248944022 : True := .intro
theorem hd.tw18194447625416937593 : True := .intro
theorem hd.tw1820180628909398317 : True := .intro
theorem hd.tw18205439006774131303 : True := .intro
theorem hd.tw18219297243305740317 : True := .intro
theorem hd.tw18233516762306594366 : True := .intro
theorem hd.tw18235018827726667335 : True := .intro
theorem hd.tw18241275227582772068 : True := .intro
theorem hd.tw18245042118932799458 : True := .intro
theorem hd.tw18252017834820373320 : True := .intro
theorem hd.tw18264374347568628810 : True := .intro
theorem hd.tw18268791191939849864 : True := .intro
theorem hd.tw18291330726469416073 : True := .intro
theorem hd.tw18291419657060728153 : True := .intro
theorem hd.tw18293732401869909652 : True := .intro
theorem hd.tw18293851220164018083 : True := .intro
theorem hd.tw18300207936620678264 : True := .intro
theorem hd.tw18321552122766947510 : True := .intro
theorem hd.tw18322514126500204803 : True := .intro
theorem hd.tw18343703819029505601 : True := .intro
theorem hd.tw18358800413957953924 : True := .intro
theorem hd.tw1836080755315867724 : True := .intro
theorem hd.tw18368451091360184599 : True := .intro
theorem hd.tw18370931923303237609 : True := .intro
theorem hd.tw18406568778348887127 : True := .intro
theorem hd.tw18439511094173506614 : True := .intro
theorem hd.tw1847840615245081061 : True := .intro
theorem hd.tw1848646778235469078 : True := .intro
theorem hd.tw185848376630758926 : True := .intro
theorem hd.tw1865391376527767206 : True := .intro
theorem hd.tw1870067075039425230 : True := .intro
theorem hd.tw1882180444382439491 : True := .intro
theorem hd.tw1893913032611223051 : True := .intro
theorem hd.tw190519026028168232 : True := .intro
theorem hd.tw19140548474820995 : True := .intro
theorem hd.tw1936894748134917147 : True := .intro
theorem hd.tw1939978651307754801 : True := .intro
theorem hd.tw1954109241102656831 : True := .intro
theorem hd.tw1976262728313527643 : True := .intro
theorem hd.tw1997569388931296116 : True := .intro
theorem hd.tw2000490053193787569 : True := .intro
theorem hd.tw2001351230973187099 : True := .intro
theorem hd.tw2004659784336800654 : True := .intro
theorem hd.tw2040990291671593033 : True := .intro
theorem hd.tw2042292140826266357 : True := .intro
theorem hd.tw2068664650715991707 : True := .intro
theorem hd.tw2084507788549644732 : True := .intro
theorem hd.tw2114630138375439770 : True := .intro
theorem hd.tw212345690472687942 : True := .intro
theorem hd.tw2134215046882385847 : True := .intro
theorem hd.tw2139204274930982770 : True := .intro
theorem hd.tw2167537188350426706 : True := .intro
theorem hd.tw2195365466389143174 : True := .intro
theorem hd.tw2216850387143573719 : True := .intro
theorem hd.tw224026152562611165 : True := .intro
theorem hd.tw2252305205657439004 : True := .intro
theorem hd.tw22551697357593593 : True := .intro
theorem hd.tw226724450230711188 : True := .intro
theorem hd.tw2295870552580634182 : True := .intro
theorem hd.tw2304311442786299043 : True := .intro
theorem hd.tw2315301623876862497 : True := .intro
theorem hd.tw2315468765258864358 : True := .intro
theorem hd.tw2323474266016966308 : True := .intro
theorem hd.tw2327210489368252092 : True := .intro
theorem hd.tw2329189449893159454 : True := .intro
theorem hd.tw2336748640663733628 : True := .intro
theorem hd.tw2371736936440567457 : True := .intro
theorem hd.tw2386827423013361158 : True := .intro
theorem hd.tw2394040479862359591 : True := .intro
theorem hd.tw242841246431481386 : True := .intro
theorem hd.tw2448417245163862455 : True := .intro
theorem hd.tw2448992281723591503 : True := .intro
theorem hd.tw2450686747263038406 : True := .intro
theorem hd.tw2480057099694739299 : True := .intro
theorem hd.tw2489000522355961661 : True := .intro
theorem hd.tw2502866573005156581 : True := .intro
theorem hd.tw2505046432360240130 : True := .intro
theorem hd.tw250903467453971090 : True := .intro
theorem hd.tw2509285483865878365 : True := .intro
theorem hd.tw2562236817408797766 : True := .intro
theorem hd.tw257007361410690125 : True := .intro
theorem hd.tw2580477087445282633 : True := .intro
theorem hd.tw2595994805191909183 : True := .intro
theorem hd.tw2598446214317162929 : True := .intro
theorem hd.tw2603259988358896889 : True := .intro
theorem hd.tw2608437505485318709 : True := .intro
theorem hd.tw2616952524820836436 : True := .intro
theorem hd.tw262745018181394680 : True := .intro
theorem hd.tw2658526732547218105 : True := .intro
theorem hd.tw2708950531961675432 : True := .intro
theorem hd.tw2729298822523640997 : True := .intro
theorem hd.tw2739504486584576224 : True := .intro
theorem hd.tw2770886237722202814 : True := .intro
theorem hd.tw2781682124601125471 : True := .intro
theorem hd.tw2788664435532181463 : True := .intro
theorem hd.tw2799067240506288376 : True := .intro
theorem hd.tw2799716289819351777 : True := .intro
theorem hd.tw280609765759037681 : True := .intro
theorem hd.tw2808349399557158395 : True := .intro
theorem hd.tw2837274855818539781 : True := .intro
theorem hd.tw2839761810297210574 : True := .intro
theorem hd.tw2845679848157327705 : True := .intro
theorem hd.tw2867327485932766208 : True := .intro
theorem hd.tw2871226400543044806 : True := .intro
theorem hd.tw2887051446865420828 : True := .intro
theorem hd.tw2900905267640511130 : True := .intro
theorem hd.tw2922222751358710265 : True := .intro
theorem hd.tw2930668341846507884 : True := .intro
theorem hd.tw2960447077969926378 : True := .intro
theorem hd.tw2999033326186475339 : True := .intro
theorem hd.tw3008623586974134963 : True := .intro
theorem hd.tw3039998526598829958 : True := .intro
theorem hd.tw3044193314922437478 : True := .intro
theorem hd.tw307737655149646647 : True := .intro
theorem hd.tw3085183777334472315 : True := .intro
theorem hd.tw3088336149111003398 : True := .intro
theorem hd.tw3109861748172591687 : True := .intro
theorem hd.tw313027258313007627 : True := .intro
theorem hd.tw3132252637357597028 : True := .intro
theorem hd.tw3173010612589774626 : True := .intro
theorem hd.tw3182187488490625086 : True := .intro
theorem hd.tw3196170801527574987 : True := .intro
theorem hd.tw3215350286424857435 : True := .intro
theorem hd.tw3218096787892578837 : True := .intro
theorem hd.tw3219085151875037572 : True := .intro
theorem hd.tw3229955645248102723 : True := .intro
theorem hd.tw3241458686731973266 : True := .intro
theorem hd.tw3259873300814134281 : True := .intro
theorem hd.tw3312855554403267510 : True := .intro
theorem hd.tw3333446698644548216 : True := .intro
theorem hd.tw3350930974749635488 : True := .intro
theorem hd.tw33583606019346890 : True := .intro
theorem hd.tw3372473842723580901 : True := .intro
theorem hd.tw3381375190539634487 : True := .intro
theorem hd.tw3386092968808520798 : True := .intro
theorem hd.tw3404104791013757517 : True := .intro
theorem hd.tw3434918251397683217 : True := .intro
theorem hd.tw3443669649825651883 : True := .intro
theorem hd.tw3451239065008710300 : True := .intro
theorem hd.tw3452082135128663414 : True := .intro
theorem hd.tw3452591251010201329 : True := .intro
theorem hd.tw347974374584699710 : True := .intro
theorem hd.tw3480344400806313460 : True := .intro
theorem hd.tw3480954088277226078 : True := .intro
theorem hd.tw3484992998616243462 : True := .intro
theorem hd.tw3493717111155160527 : True := .intro
theorem hd.tw3496965988886986938 : True := .intro
theorem hd.tw3504079246686126755 : True := .intro
theorem hd.tw3513125359445811510 : True := .intro
theorem hd.tw3530705653197291679 : True := .intro
theorem hd.tw3533295568840377906 : True := .intro
theorem hd.tw3536873572635521401 : True := .intro
theorem hd.tw3571134770919094901 : True := .intro
theorem hd.tw3589011483332685831 : True := .intro
theorem hd.tw3608708970678896270 : True := .intro
theorem hd.tw3644008723964970423 : True := .intro
theorem hd.tw3646829019195819677 : True := .intro
theorem hd.tw3649758429140192277 : True := .intro
theorem hd.tw3660579746685279459 : True := .intro
theorem hd.tw3673020696563887462 : True := .intro
theorem hd.tw368366308016060594 : True := .intro
theorem hd.tw3704167492566942397 : True := .intro
theorem hd.tw37099724090138251 : True := .intro
theorem hd.tw3722166409189360004 : True := .intro
theorem hd.tw3759623122121258479 : True := .intro
theorem hd.tw3763122126050802206 : True := .intro
theorem hd.tw3787991596828424046 : True := .intro
theorem hd.tw3795277891434052102 : True := .intro
theorem hd.tw3876449026389394717 : True := .intro
theorem hd.tw3878383114103592795 : True := .intro
theorem hd.tw3887682987991473952 : True := .intro
theorem hd.tw3890083515106143593 : True := .intro
theorem hd.tw3903693057541003240 : True := .intro
theorem hd.tw3911173418732280352 : True := .intro
theorem hd.tw3913528116038191188 : True := .intro
theorem hd.tw3915529967508079626 : True := .intro
theorem hd.tw3919010098100093602 : True := .intro
theorem hd.tw3920623390966001496 : True := .intro
theorem hd.tw3922637787740509324 : True := .intro
theorem hd.tw3941438180925939637 : True := .intro
theorem hd.tw4014540891139286612 : True := .intro
theorem hd.tw4015398097383911347 : True := .intro
theorem hd.tw4021928978595405253 : True := .intro
theorem hd.tw402640490398009360 : True := .intro
theorem hd.tw406395832486461867 : True := .intro
theorem hd.tw4065347644161347641 : True := .intro
theorem hd.tw4068527845204499245 : True := .intro
theorem hd.tw4074112789689628901 : True := .intro
theorem hd.tw4086058157674990017 : True := .intro
theorem hd.tw4091639524402994376 : True := .intro
theorem hd.tw4115565904173853331 : True := .intro
theorem hd.tw4125931394999656194 : True := .intro
theorem hd.tw4126306136578151734 : True := .intro
theorem hd.tw4136554803537287180 : True := .intro
theorem hd.tw4138081844389336918 : True := .intro
theorem hd.tw4159134105002834734 : True := .intro
theorem hd.tw4172343393113369950 : True := .intro
theorem hd.tw4182648748547736412 : True := .intro
theorem hd.tw4186180820073840449 : True := .intro
theorem hd.tw4189216954472991754 : True := .intro
theorem hd.tw4210835263042620578 : True := .intro
theorem hd.tw4218252797249083135 : True := .intro
theorem hd.tw424627922949020093 : True := .intro
theorem hd.tw4272726840584523970 : True := .intro
theorem hd.tw4282304852377368616 : True := .intro
theorem hd.tw4282359134580295075 : True := .intro
theorem hd.tw4292457097857839397 : True := .intro
theorem hd.tw4297731678662094536 : True := .intro
theorem hd.tw4310969922304039945 : True := .intro
theorem hd.tw4315991029959535628 : True := .intro
theorem hd.tw432457690288141553 : True := .intro
theorem hd.tw4355604671862981090 : True := .intro
theorem hd.tw4360684699965382250 : True := .intro
theorem hd.tw4367231431732253908 : True := .intro
theorem hd.tw4367455430839740993 : True := .intro
theorem hd.tw4383666589626881386 : True := .intro
theorem hd.tw439843181053141970 : True := .intro
theorem hd.tw4402725079659364252 : True := .intro
theorem hd.tw4424954536736003961 : True := .intro
theorem hd.tw4432475053497693458 : True := .intro
theorem hd.tw4467709538675631592 : True := .intro
theorem hd.tw4478177076189095293 : True := .intro
theorem hd.tw4478964076566166474 : True := .intro
theorem hd.tw4494801613693538912 : True := .intro
theorem hd.tw4521580383011477154 : True := .intro
theorem hd.tw4527685146903026889 : True := .intro
theorem hd.tw4571360026077952820 : True := .intro
theorem hd.tw4581847759332874082 : True := .intro
theorem hd.tw4609310046291750870 : True := .intro
theorem hd.tw4643362625855044894 : True := .intro
theorem hd.tw4654797750381630734 : True := .intro
theorem hd.tw469108185253701220 : True := .intro
theorem hd.tw4691279627582602737 : True := .intro
theorem hd.tw4702841417184801058 : True := .intro
theorem hd.tw4706079058837389440 : True := .intro
theorem hd.tw4725425184044842548 : True := .intro
theorem hd.tw4730091804998409952 : True := .intro
theorem hd.tw4735155535324382492 : True := .intro
theorem hd.tw4755302489009032964 : True := .intro
theorem hd.tw4768578896829404305 : True := .intro
theorem hd.tw4780371949962762201 : True := .intro
theorem hd.tw4788038989552484473 : True := .intro
theorem hd.tw4803849639906292757 : True := .intro
theorem hd.tw4817003022231809500 : True := .intro
theorem hd.tw4819202231147424091 : True := .intro
theorem hd.tw4833718069199227053 : True := .intro
theorem hd.tw4856431653887292112 : True := .intro
theorem hd.tw4878824753759274627 : True := .intro
theorem hd.tw4916360252006170105 : True := .intro
theorem hd.tw4946210868454251104 : True := .intro
theorem hd.tw4948343613671549106 : True := .intro
theorem hd.tw4958948430592982816 : True := .intro
theorem hd.tw4971549296188076032 : True := .intro
theorem hd.tw4975429006339234634 : True := .intro
theorem hd.tw4990156530697904881 : True := .intro
theorem hd.tw4993660671451451078 : True := .intro
theorem hd.tw500953250457666378 : True := .intro
theorem hd.tw5009564483982726761 : True := .intro
theorem hd.tw5010264101278932077 : True := .intro
theorem hd.tw5021546742003373373 : True := .intro
theorem hd.tw5036846961687405229 : True := .intro
theorem hd.tw5054737718236178183 : True := .intro
theorem hd.tw511748877826530558 : True := .intro
theorem hd.tw5118731587858937692 : True := .intro
theorem hd.tw5130813555471234732 : True := .intro
theorem hd.tw5135410709514514960 : True := .intro
theorem hd.tw5148922909946612681 : True := .intro
theorem hd.tw5167245352685981253 : True := .intro
theorem hd.tw5174551420813472067 : True := .intro
theorem hd.tw518976864732996251 : True := .intro
theorem hd.tw5189956158058943387 : True := .intro
theorem hd.tw5190246844813560578 : True := .intro
theorem hd.tw519851828213033955 : True := .intro
theorem hd.tw5201384275714778543 : True := .intro
theorem hd.tw5220083430330967483 : True := .intro
theorem hd.tw5231164761822247161 : True := .intro
theorem hd.tw5238241317806426387 : True := .intro
theorem hd.tw524290184858094138 : True := .intro
theorem hd.tw5245234834050458271 : True := .intro
theorem hd.tw5247051413645994129 : True := .intro
theorem hd.tw526207354791536317 : True := .intro
theorem hd.tw5282504435634884242 : True := .intro
theorem hd.tw5283464899586487735 : True := .intro
theorem hd.tw5289708365253275695 : True := .intro
theorem hd.tw5293500477943481205 : True := .intro
theorem hd.tw5318216170032084099 : True := .intro
theorem hd.tw5322579261384874668 : True := .intro
theorem hd.tw5334465803284312953 : True := .intro
theorem hd.tw5343241284826551009 : True := .intro
theorem hd.tw5360435025570183010 : True := .intro
theorem hd.tw5362516397382645915 : True := .intro
theorem hd.tw5363428345988834438 : True := .intro
theorem hd.tw5363564295841288755 : True := .intro
theorem hd.tw5364657661207842627 : True := .intro
theorem hd.tw5373601922739893978 : True := .intro
theorem hd.tw5382545833625118515 : True := .intro
theorem hd.tw5388632664720090651 : True := .intro
theorem hd.tw541196102884509978 : True := .intro
theorem hd.tw5416991563250132298 : True := .intro
theorem hd.tw5433107678231618845 : True := .intro
theorem hd.tw5464280966869935822 : True := .intro
theorem hd.tw5464967688985200232 : True := .intro
theorem hd.tw5480042469492414594 : True := .intro
theorem hd.tw5486487638281291605 : True := .intro
theorem hd.tw5490696432328200686 : True := .intro
theorem hd.tw5505332120971382143 : True := .intro
theorem hd.tw5513025101015932971 : True := .intro
theorem hd.tw5516785719162176838 : True := .intro
theorem hd.tw5535567543195554156 : True := .intro
theorem hd.tw5549315172176941698 : True := .intro
theorem hd.tw5562173858411828344 : True := .intro
theorem hd.tw5567388512258382067 : True := .intro
theorem hd.tw5574845727924001799 : True := .intro
theorem hd.tw5592360268479517082 : True := .intro
theorem hd.tw5592821105494180994 : True := .intro
theorem hd.tw5605480435847508373 : True := .intro
theorem hd.tw5608270528595127837 : True := .intro
theorem hd.tw561391293025646643 : True := .intro
theorem hd.tw5629675986466331604 : True := .intro
theorem hd.tw5635641802508607975 : True := .intro
theorem hd.tw5657824000916062451 : True := .intro
theorem hd.tw5667655126489319660 : True := .intro
theorem hd.tw567884609423149705 : True := .intro
theorem hd.tw5715356086224469760 : True := .intro
theorem hd.tw5715734110848049390 : True := .intro
theorem hd.tw5716766192118558609 : True := .intro
theorem hd.tw574300837803046910 : True := .intro
theorem hd.tw5755067337285977880 : True := .intro
theorem hd.tw5765021164422061276 : True := .intro
theorem hd.tw578887228443019578 : True := .intro
theorem hd.tw5791856155091588825 : True := .intro
theorem hd.tw5842185385456739251 : True := .intro
theorem hd.tw5850991567925798318 : True := .intro
theorem hd.tw5873113503399164460 : True := .intro
theorem hd.tw5899666649113621702 : True := .intro
theorem hd.tw5961118342813265553 : True := .intro
theorem hd.tw5976792059365374437 : True := .intro
theorem hd.tw5983496337302601536 : True := .intro
theorem hd.tw5987830557187376847 : True := .intro
theorem hd.tw6014424301940151174 : True := .intro
theorem hd.tw6019021122589006684 : True := .intro
theorem hd.tw6038821095411175016 : True := .intro
theorem hd.tw6052482589124101219 : True := .intro
theorem hd.tw6060742912462422084 : True := .intro
theorem hd.tw6082411064634330575 : True := .intro
theorem hd.tw6109525258741381055 : True := .intro
theorem hd.tw6123773746684550334 : True := .intro
theorem hd.tw6140570298594658328 : True := .intro
theorem hd.tw6164396464334811476 : True := .intro
theorem hd.tw617508947420966582 : True := .intro
theorem hd.tw6181573660694698118 : True := .intro
theorem hd.tw6184208073178115725 : True := .intro
theorem hd.tw6184460063843016694 : True := .intro
theorem hd.tw6186238094035137676 : True := .intro
theorem hd.tw6196171512934965099 : True := .intro
theorem hd.tw6199765714743212253 : True := .intro
theorem hd.tw6213412439835118660 : True := .intro
theorem hd.tw6264232113106981867 : True := .intro
theorem hd.tw6276725880618359904 : True := .intro
theorem hd.tw6278647508926252785 : True := .intro
theorem hd.tw6291416237084387574 : True := .intro
theorem hd.tw6293948785866598258 : True := .intro
theorem hd.tw6295535725891239091 : True := .intro
theorem hd.tw6305734824756694309 : True := .intro
theorem hd.tw6308581086252854402 : True := .intro
theorem hd.tw6372862494175223470 : True := .intro
theorem hd.tw6374767894290048045 : True := .intro
theorem hd.tw6394381022753523788 : True := .intro
theorem hd.tw6407587892757256292 : True := .intro
theorem hd.tw6411954120941647267 : True := .intro
theorem hd.tw6412770499399676944 : True := .intro
theorem hd.tw6418103052136555383 : True := .intro
theorem hd.tw6438293893037913957 : True := .intro
theorem hd.tw6442067068224118133 : True := .intro
theorem hd.tw6448485902249920692 : True := .intro
theorem hd.tw6449127861642672459 : True := .intro
theorem hd.tw6469175993241445255 : True := .intro
theorem hd.tw6474625933289362650 : True := .intro
theorem hd.tw6506366617586733335 : True := .intro
theorem hd.tw651126834518081296 : True := .intro
theorem hd.tw6528754448969337418 : True := .intro
theorem hd.tw6545403380812914513 : True := .intro
theorem hd.tw6547078798241139092 : True := .intro
theorem hd.tw656455966557771466 : True := .intro
theorem hd.tw6578402527460240241 : True := .intro
theorem hd.tw6598312636042714100 : True := .intro
theorem hd.tw6615107907471364465 : True := .intro
theorem hd.tw6627881031435992008 : True := .intro
theorem hd.tw663384727985864361 : True := .intro
theorem hd.tw6636792957720756321 : True := .intro
theorem hd.tw6646985988748340704 : True := .intro
theorem hd.tw6663896369628448293 : True := .intro
theorem hd.tw6679266806504041263 : True := .intro
theorem hd.tw6683769817339685419 : True := .intro
theorem hd.tw6709418730364537143 : True := .intro
theorem hd.tw6755925336976613232 : True := .intro
theorem hd.tw6759412095888398321 : True := .intro
theorem hd.tw6767318904944593275 : True := .intro
theorem hd.tw6769732088879122475 : True := .intro
theorem hd.tw6780557218761844654 : True := .intro
theorem hd.tw678209747344391502 : True := .intro
theorem hd.tw6785817131721698500 : True := .intro
theorem hd.tw6800881396052196260 : True := .intro
theorem hd.tw6804821044290156842 : True := .intro
theorem hd.tw6818987989461384207 : True := .intro
theorem hd.tw6819123309680001836 : True := .intro
theorem hd.tw6824622198901579176 : True := .intro
theorem hd.tw6830512106363814048 : True := .intro
theorem hd.tw6838551448383532254 : True := .intro
theorem hd.tw6848782300941138395 : True := .intro
theorem hd.tw6868836192036940282 : True := .intro
theorem hd.tw6877226645827823821 : True := .intro
theorem hd.tw6879831473291441079 : True := .intro
theorem hd.tw6882427118574961969 : True := .intro
theorem hd.tw6898005170327248138 : True := .intro
theorem hd.tw689954013368505116 : True := .intro
theorem hd.tw6902198413751149823 : True := .intro
theorem hd.tw6903541053762270361 : True := .intro
theorem hd.tw6906073325868019850 : True := .intro
theorem hd.tw6924109203229866365 : True := .intro
theorem hd.tw6931407450589930559 : True := .intro
theorem hd.tw6957150274394394060 : True := .intro
theorem hd.tw6965799899956892507 : True := .intro
theorem hd.tw6982297934935202809 : True := .intro
theorem hd.tw6988595667528144454 : True := .intro
theorem hd.tw6990203504111849199 : True := .intro
theorem hd.tw6998783941825042932 : True := .intro
theorem hd.tw7006195865600381663 : True := .intro
theorem hd.tw701333769924781912 : True := .intro
theorem hd.tw701787995468756871 : True := .intro
theorem hd.tw701957132916908730 : True := .intro
theorem hd.tw7023726343779634624 : True := .intro
theorem hd.tw7028611270464810887 : True := .intro
theorem hd.tw7031273417212677730 : True := .intro
theorem hd.tw7068711184596962023 : True := .intro
theorem hd.tw7076163891533521732 : True := .intro
theorem hd.tw7080932558258925280 : True := .intro
theorem hd.tw7082855905992002993 : True := .intro
theorem hd.tw7085514621470718492 : True := .intro
theorem hd.tw7099808468209618510 : True := .intro
theorem hd.tw7100430431845274806 : True := .intro
theorem hd.tw7152984921513172624 : True := .intro
theorem hd.tw7153062008950511462 : True := .intro
theorem hd.tw7174315439194531881 : True := .intro
theorem hd.tw7175568609137494628 : True := .intro
theorem hd.tw7182994202766372144 : True := .intro
theorem hd.tw7185752278333246451 : True := .intro
theorem hd.tw7191455744419660376 : True := .intro
theorem hd.tw7252557286763528408 : True := .intro
theorem hd.tw7261450039545342454 : True := .intro
theorem hd.tw728884934406724761 : True := .intro
theorem hd.tw7289634563603522867 : True := .intro
theorem hd.tw7292484366425897655 : True := .intro
theorem hd.tw732345407407602841 : True := .intro
theorem hd.tw7339039647409124788 : True := .intro
theorem hd.tw7354087734392854552 : True := .intro
theorem hd.tw7355570028127101125 : True := .intro
theorem hd.tw7366208706002141716 : True := .intro
theorem hd.tw7369741819223213686 : True := .intro
theorem hd.tw7379015992945566340 : True := .intro
theorem hd.tw7382370116671421104 : True := .intro
theorem hd.tw7489763959799892387 : True := .intro
theorem hd.tw7492773218913965947 : True := .intro
theorem hd.tw7492944070806833698 : True := .intro
theorem hd.tw7494724483528729301 : True := .intro
theorem hd.tw7510230149288206974 : True := .intro
theorem hd.tw7523672394736509286 : True := .intro
theorem hd.tw7524551569780493960 : True := .intro
theorem hd.tw7525542149764818722 : True := .intro
theorem hd.tw7534799579077118603 : True := .intro
theorem hd.tw7540655947842036084 : True := .intro
theorem hd.tw7540741092611519060 : True := .intro
theorem hd.tw7541792107247259296 : True := .intro
theorem hd.tw7578210074245671484 : True := .intro
theorem hd.tw758273949599710562 : True := .intro
theorem hd.tw7598622570094877466 : True := .intro
theorem hd.tw7610815399733428385 : True := .intro
theorem hd.tw7626941382939369770 : True := .intro
theorem hd.tw7628703163842673926 : True := .intro
theorem hd.tw7644636733232180493 : True := .intro
theorem hd.tw7654286748164834634 : True := .intro
theorem hd.tw7691918140598264929 : True := .intro
theorem hd.tw7698358502638924378 : True := .intro
theorem hd.tw7702882491108231240 : True := .intro
theorem hd.tw7712595579559962911 : True := .intro
theorem hd.tw7712819752767893495 : True := .intro
theorem hd.tw7746578258024575070 : True := .intro
theorem hd.tw7752569895197466512 : True := .intro
theorem hd.tw7752767780024739350 : True := .intro
theorem hd.tw7763873220885509757 : True := .intro
theorem hd.tw7792395482447073224 : True := .intro
theorem hd.tw7815354588672045779 : True := .intro
theorem hd.tw7850187754069100156 : True := .intro
theorem hd.tw7854228177987924090 : True := .intro
theorem hd.tw7872162285098387286 : True := .intro
theorem hd.tw7880807054014371918 : True := .intro
theorem hd.tw7891253978561527248 : True := .intro
theorem hd.tw7914949630228597729 : True := .intro
theorem hd.tw7927469264209771579 : True := .intro
theorem hd.tw8004679753235328684 : True := .intro
theorem hd.tw8015326511298524721 : True := .intro
theorem hd.tw8025032847418708242 : True := .intro
theorem hd.tw8030812658769144569 : True := .intro
theorem hd.tw8047900516022102942 : True := .intro
theorem hd.tw8053944837975664402 : True := .intro
theorem hd.tw8068729725432388964 : True := .intro
theorem hd.tw8081886968326746073 : True := .intro
theorem hd.tw8112040973832200146 : True := .intro
theorem hd.tw8117029840178788049 : True := .intro
theorem hd.tw8134915037123179040 : True := .intro
theorem hd.tw8151903124980380684 : True := .intro
theorem hd.tw8161899039612259689 : True := .intro
theorem hd.tw8169427731384031792 : True := .intro
theorem hd.tw8179070454071193570 : True := .intro
theorem hd.tw8184699220007379433 : True := .intro
theorem hd.tw8191903926673212241 : True := .intro
theorem hd.tw8210421348078903774 : True := .intro
theorem hd.tw8228950375871286339 : True := .intro
theorem hd.tw8242931771332617035 : True := .intro
theorem hd.tw8244733829118024811 : True := .intro
theorem hd.tw825126770350376351 : True := .intro
theorem hd.tw8268277133935991078 : True := .intro
theorem hd.tw8273930003744585626 : True := .intro
theorem hd.tw8293946417935249925 : True := .intro
theorem hd.tw8311865607074365958 : True := .intro
theorem hd.tw8330572742568474716 : True := .intro
theorem hd.tw833173182276230429 : True := .intro
theorem hd.tw8343274005884668182 : True := .intro
theorem hd.tw8351282476255451920 : True := .intro
theorem hd.tw8356816923877370021 : True := .intro
theorem hd.tw8377043916266704855 : True := .intro
theorem hd.tw8398827970974600129 : True := .intro
theorem hd.tw8428860471423672150 : True := .intro
theorem hd.tw845060206244984605 : True := .intro
theorem hd.tw8450674356893351874 : True := .intro
theorem hd.tw8457440626546761165 : True := .intro
theorem hd.tw8458067239894703972 : True := .intro
theorem hd.tw8472141830624432390 : True := .intro
theorem hd.tw8479784124755550697 : True := .intro
theorem hd.tw8493152586797012548 : True := .intro
theorem hd.tw8502394832462711535 : True := .intro
theorem hd.tw8516288146210602744 : True := .intro
theorem hd.tw8531993380330477603 : True := .intro
theorem hd.tw8538877666451538035 : True := .intro
theorem hd.tw8545014587354053640 : True := .intro
theorem hd.tw8587404781116728655 : True := .intro
theorem hd.tw858883931015391567 : True := .intro
theorem hd.tw8589211134812392127 : True := .intro
theorem hd.tw8609351116199087170 : True := .intro
theorem hd.tw8638756108113873008 : True := .intro
theorem hd.tw8652628183442184457 : True := .intro
theorem hd.tw8654268224221117138 : True := .intro
theorem hd.tw8664936974563722654 : True := .intro
theorem hd.tw867598499069673859 : True := .intro
theorem hd.tw8683856772340465682 : True := .intro
theorem hd.tw8684328023851190084 : True := .intro
theorem hd.tw8690549050251857956 : True := .intro
theorem hd.tw8716120427605611371 : True := .intro
theorem hd.tw8721321648031231958 : True := .intro
theorem hd.tw8727321023445011275 : True := .intro
theorem hd.tw8767075193426645572 : True := .intro
theorem hd.tw876933089483189297 : True := .intro
theorem hd.tw8770205317985620760 : True := .intro
theorem hd.tw8770659054964912022 : True := .intro
theorem hd.tw8773699223549846113 : True := .intro
theorem hd.tw8789358453043137523 : True := .intro
theorem hd.tw8801323125487838256 : True := .intro
theorem hd.tw8803977449572941912 : True := .intro
theorem hd.tw8811097733284410319 : True := .intro
theorem hd.tw881544763273948857 : True := .intro
theorem hd.tw887467866000617826 : True := .intro
theorem hd.tw8879563391730754479 : True := .intro
theorem hd.tw8881176148764397765 : True := .intro
theorem hd.tw8887996145723391905 : True := .intro
theorem hd.tw8898355551111435312 : True := .intro
theorem hd.tw8912348807662434688 : True := .intro
theorem hd.tw8931695957890008076 : True := .intro
theorem hd.tw8934143017859847078 : True := .intro
theorem hd.tw8945485805214734075 : True := .intro
theorem hd.tw8960069828448710407 : True := .intro
theorem hd.tw896497477760520049 : True := .intro
theorem hd.tw8965841893048198262 : True := .intro
theorem hd.tw8977307856219701671 : True := .intro
theorem hd.tw8990313861142287110 : True := .intro
theorem hd.tw9048539425550374019 : True := .intro
theorem hd.tw9073681462420916055 : True := .intro
theorem hd.tw9077708301081682751 : True := .intro
theorem hd.tw908340440784498289 : True := .intro
theorem hd.tw9087110039335098043 : True := .intro
theorem hd.tw9131607905817354932 : True := .intro
theorem hd.tw9132557439983319658 : True := .intro
theorem hd.tw9153386212771759811 : True := .intro
theorem hd.tw9170477692918782315 : True := .intro
theorem hd.tw920214292312260371 : True := .intro
theorem hd.tw9215163618515126356 : True := .intro
theorem hd.tw9215827820722605749 : True := .intro
theorem hd.tw922143313871775805 : True := .intro
theorem hd.tw9244321171653502345 : True := .intro
theorem hd.tw9258712216579463092 : True := .intro
theorem hd.tw9262713555522148398 : True := .intro
theorem hd.tw9271970288684553227 : True := .intro
theorem hd.tw9298403506768410418 : True := .intro
theorem hd.tw9299316483162031394 : True := .intro
theorem hd.tw9312999139381119592 : True := .intro
theorem hd.tw9325612240067072397 : True := .intro
theorem hd.tw9330823016148744750 : True := .intro
theorem hd.tw9330943631129107780 : True := .intro
theorem hd.tw9341642984632610673 : True := .intro
theorem hd.tw9345676750909349944 : True := .intro
theorem hd.tw9345929723534960622 : True := .intro
theorem hd.tw9386895884608548742 : True := .intro
theorem hd.tw9390866547671247325 : True := .intro
theorem hd.tw9398405308114057262 : True := .intro
theorem hd.tw940617070666608080 : True := .intro
theorem hd.tw9406673726873002282 : True := .intro
theorem hd.tw9420132969298855359 : True := .intro
theorem hd.tw9427301549700849589 : True := .intro
theorem hd.tw9429285754427346401 : True := .intro
theorem hd.tw9430268157657104642 : True := .intro
theorem hd.tw9449672872311958731 : True := .intro
theorem hd.tw9459050058782445324 : True := .intro
theorem hd.tw9467313397243273497 : True := .intro
theorem hd.tw9496365245306024149 : True := .intro
theorem hd.tw9499510787657705874 : True := .intro
theorem hd.tw9513423893830186035 : True := .intro
theorem hd.tw9533747618267967006 : True := .intro
theorem hd.tw9535167441192536406 : True := .intro
theorem hd.tw9555612238305686254 : True := .intro
theorem hd.tw9557236495431379559 : True := .intro
theorem hd.tw956962677268122417 : True := .intro
theorem hd.tw9577689765879766989 : True := .intro
theorem hd.tw960944832710211464 : True := .intro
theorem hd.tw9617658007855726926 : True := .intro
theorem hd.tw9627899436633539337 : True := .intro
theorem hd.tw9631708518359487223 : True := .intro
theorem hd.tw9657781627882305391 : True := .intro
theorem hd.tw9673543361469618366 : True := .intro
theorem hd.tw9719896912496429819 : True := .intro
theorem hd.tw9731375825926819010 : True := .intro
theorem hd.tw9741134391959003819 : True := .intro
theorem hd.tw9748044761591592747 : True := .intro
theorem hd.tw9763420282994701918 : True := .intro
theorem hd.tw9783614193127449063 : True := .intro
theorem hd.tw9787125683330832049 : True := .intro
theorem hd.tw978945382295711627 : True := .intro
theorem hd.tw9813410681712176819 : True := .intro
theorem hd.tw9842699097658496709 : True := .intro
theorem hd.tw9850052858527491113 : True := .intro
theorem hd.tw9854592784775465947 : True := .intro
theorem hd.tw9864973744126774698 : True := .intro
theorem hd.tw9908193460736022307 : True := .intro
theorem hd.tw991583007596301734 : True := .intro
theorem hd.tw9960721518486171458 : True := .intro
theorem hd.tw9976723597467198900 : True := .intro
theorem hd.tw9983995961361265002 : True := .intro
theorem hd.tw9990345226319884068 : True := .intro
theorem hd.tw4816591812421909578 : True := .intro
theorem hd.tw7159127617245474268 : True := .intro
theorem hd.tw18098325799033519162 : True := .intro
theorem hd.tw16125868662245169807 : True := .intro
theorem hd.tw10209001540849217996 : True := .intro
theorem hd.tw10237018550505763652 : True := .intro
theorem hd.tw10452224755584702560 : True := .intro
theorem hd.tw11030349078877557577 : True := .intro
theorem hd.tw11124739342428088709 : True := .intro
theorem hd.tw11162317637946234244 : True := .intro
theorem hd.tw11322120873663660424 : True := .intro
theorem hd.tw11812290793180431872 : True := .intro
theorem hd.tw11836115290395439351 : True := .intro
theorem hd.tw1203438966218535883 : True := .intro
theorem hd.tw12123001833877265369 : True := .intro
theorem hd.tw12525397274415213071 : True := .intro
theorem hd.tw12540069325272085942 : True := .intro
theorem hd.tw13124303455857508670 : True := .intro
theorem hd.tw13144789879941332058 : True := .intro
theorem hd.tw13277948573087681427 : True := .intro
theorem hd.tw13369206697753782592 : True := .intro
theorem hd.tw13418646730648289750 : True := .intro
theorem hd.tw13438974104106733290 : True := .intro
theorem hd.tw13544700599601870529 : True := .intro
theorem hd.tw13548834284501389479 : True := .intro
theorem hd.tw13819242744919354074 : True := .intro
theorem hd.tw13836310137168666604 : True := .intro
theorem hd.tw14036169154352995946 : True := .intro
theorem hd.tw14130805306318527536 : True := .intro
theorem hd.tw14424038758708113303 : True := .intro
theorem hd.tw14811146435812977252 : True := .intro
theorem hd.tw14859483748293320462 : True := .intro
theorem hd.tw14901408993869624650 : True := .intro
theorem hd.tw15035267833988819802 : True := .intro
theorem hd.tw15175664238161344567 : True := .intro
theorem hd.tw15219396564997193629 : True := .intro
theorem hd.tw15481513923485091224 : True := .intro
theorem hd.tw15564866707409754634 : True := .intro
theorem hd.tw15594952837348139301 : True := .intro
theorem hd.tw15648736659671331327 : True := .intro
theorem hd.tw15720554266602047837 : True := .intro
theorem hd.tw15786369335582024011 : True := .intro
theorem hd.tw15852709628205013000 : True := .intro
theorem hd.tw16013044586048799410 : True := .intro
theorem hd.tw16062288358462111731 : True := .intro
theorem hd.tw16331727399220754352 : True := .intro
theorem hd.tw16372683891827973766 : True := .intro
theorem hd.tw16457500460488945668 : True := .intro
theorem hd.tw16460087294618244013 : True := .intro
theorem hd.tw16761940422291260904 : True := .intro
theorem hd.tw16912699637340961961 : True := .intro
theorem hd.tw16996283276763190922 : True := .intro
theorem hd.tw17417828592282052123 : True := .intro
theorem hd.tw17537697486496825873 : True := .intro
theorem hd.tw17650033807673936120 : True := .intro
theorem hd.tw17748784946891484117 : True := .intro
theorem hd.tw17880041052500396182 : True := .intro
theorem hd.tw17943129676393142930 : True := .intro
theorem hd.tw1794655080959895364 : True := .intro
theorem hd.tw17955765215048244493 : True := .intro
theorem hd.tw17983224108544022617 : True := .intro
theorem hd.tw18115903468970921510 : True := .intro
theorem hd.tw18118031831666536687 : True := .intro
theorem hd.tw18130814951027512133 : True := .intro
theorem hd.tw18153669336504054876 : True := .intro
theorem hd.tw18174538609813481958 : True := .intro
theorem hd.tw18220855731243937964 : True := .intro
theorem hd.tw18443778624110662412 : True := .intro
theorem hd.tw1850521344857773103 : True := .intro
theorem hd.tw2072141069035214820 : True := .intro
theorem hd.tw2417577112969992507 : True := .intro
theorem hd.tw2526576264469829489 : True := .intro
theorem hd.tw2581058539343876893 : True := .intro
theorem hd.tw2657706104110169625 : True := .intro
theorem hd.tw2699575429076795461 : True := .intro
theorem hd.tw2799801694632230243 : True := .intro
theorem hd.tw3516793024318383621 : True := .intro
theorem hd.tw3604928981728601001 : True := .intro
theorem hd.tw3680764333050521636 : True := .intro
theorem hd.tw3683433498383257770 : True := .intro
theorem hd.tw3756369471083676879 : True := .intro
theorem hd.tw4204512881747089948 : True := .intro
theorem hd.tw4262855816646643776 : True := .intro
theorem hd.tw461725411873811111 : True := .intro
theorem hd.tw4716266163569097216 : True := .intro
theorem hd.tw4768537845919560136 : True := .intro
theorem hd.tw4983731108365763307 : True := .intro
theorem hd.tw505733144959480865 : True := .intro
theorem hd.tw5380898984505082119 : True := .intro
theorem hd.tw5959835487126482749 : True := .intro
theorem hd.tw6056226137300008937 : True := .intro
theorem hd.tw6084979216208777291 : True := .intro
theorem hd.tw6346222907250218117 : True := .intro
theorem hd.tw6779352269440980882 : True := .intro
theorem hd.tw6856635212246730102 : True := .intro
theorem hd.tw6981367756153173065 : True := .intro
theorem hd.tw7434897261547028917 : True := .intro
theorem hd.tw7459034636244564869 : True := .intro
theorem hd.tw7861091810575358048 : True := .intro
theorem hd.tw7872041826829949667 : True := .intro
theorem hd.tw7903404604211633244 : True := .intro
theorem hd.tw8189105263035869364 : True := .intro
theorem hd.tw8202580689224724855 : True := .intro
theorem hd.tw8315182900984000740 : True := .intro
theorem hd.tw8457955495663670763 : True := .intro
theorem hd.tw8487473088945298783 : True := .intro
theorem hd.tw8612333683124080810 : True := .intro
theorem hd.tw8733369610428508429 : True := .intro
theorem hd.tw8977591885730105776 : True := .intro
theorem hd.tw9164636250569914018 : True := .intro
theorem hd.tw923943551480879369 : True := .intro
theorem hd.tw9292869187210489773 : True := .intro
theorem hd.tw9446457782940493380 : True := .intro
theorem hd.tw9602224531474918659 : True := .intro
theorem hd.tw9625404730223895095 : True := .intro
set_option Elab.async true
set_option maxHeartbeats 0
theorem hd : PySem.Challenge.rw_mr0361_01.Holds := by
  w_on
  o_law
  o_head (kHook KKh kAsh (fun _ => by kernel_rfl))
  (case hw => w_witness2)
  exact walkAll _ _ _ _ _ rfl
end Mine
theorem PySem.Challenge.cw_mr0361_01_holds : PySem.Challenge.rw_mr0361_01.Holds :=
  Mine.hd
