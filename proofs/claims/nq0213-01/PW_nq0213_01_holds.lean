import PyProof.Rows.All
import Wide.All
import OpenK.AllK
import Wide.FinOn
import PySem.Challenge.RW_nq0213_01
open PySem PySem.W PyProof.Rows PySem.Calls
set_option Elab.async false
set_option maxRecDepth 100000
set_option linter.unusedVariables false
set_option compiler.extract_closed false
set_option maxHeartbeats 8000000
set_option rowWalk.seconds 0
namespace Mine
/-- the statements of a text: the n-th -/
noncomputable def nthS : List Stmt → Nat → Option Stmt
  | [], _ => none
  | x :: _, 0 => some x
  | _ :: r, n + 1 => nthS r n
noncomputable def inCls : Option Stmt → Nat → Option Stmt
  | some (.ClassDef _ _ _ body _ _ _ _ _ _ _), j => nthS body j
  | _, _ => none
/-- the object that a def's statement makes -/
noncomputable def fnObj (q : Str) (dflt pm code : Value) : Option Stmt → Option Obj
  | some (.FunctionDef n ps body _ _ _ sc _ _ _) => some ⟨.type "function", none, .func ⟨n, q, ps, .stmts body, sc, 3, [], dflt, .none, .none, pm, none, code, .none, 0⟩, #[]⟩
  | _ => none
noncomputable abbrev topS (i : Nat) : Option Stmt := nthS PySem.Challenge.pw_nq0213_01.main.body i
noncomputable def o51 : Obj := (⟨_, rfl⟩ : { o : Obj // fnObj "_grouping_intervals" (.none) (.str "cpy313.locale" 331) (.ref 50) (topS 5) = some o }).1
noncomputable def o70 : Obj := (⟨_, rfl⟩ : { o : Obj // fnObj "_index" (.none) (.str "io" 384) (.ref 69) (topS 9) = some o }).1
noncomputable def o97 : Obj := (⟨_, rfl⟩ : { o : Obj // fnObj "IOBase.__new__" (.none) (.str "io" 384) (.ref 96) (inCls (topS 11) 1) = some o }).1
noncomputable def o374 : Obj := (⟨_, rfl⟩ : { o : Obj // fnObj "StringIO.__init__" (.ref 367) (.str "io" 384) (.ref 373) (inCls (topS 15) 1) = some o }).1
noncomputable def o381 : Obj := (⟨_, rfl⟩ : { o : Obj // fnObj "StringIO.__translated" (.none) (.str "io" 384) (.ref 380) (inCls (topS 15) 2) = some o }).1
noncomputable def o388 : Obj := (⟨_, rfl⟩ : { o : Obj // fnObj "StringIO.__check" (.none) (.str "io" 384) (.ref 387) (inCls (topS 15) 3) = some o }).1
noncomputable def o402 : Obj := (⟨_, rfl⟩ : { o : Obj // fnObj "StringIO.__line" (.none) (.str "io" 384) (.ref 401) (inCls (topS 15) 5) = some o }).1
noncomputable def o550 : Obj := (⟨_, rfl⟩ : { o : Obj // fnObj "StringIO.read" (.ref 543) (.str "io" 384) (.ref 549) (inCls (topS 15) 25) = some o }).1
noncomputable def o558 : Obj := (⟨_, rfl⟩ : { o : Obj // fnObj "StringIO.readline" (.ref 551) (.str "io" 384) (.ref 557) (inCls (topS 15) 26) = some o }).1
noncomputable def o663 : Obj := (⟨_, rfl⟩ : { o : Obj // fnObj "shlex.__init__" (.ref 656) (.str "cpy313.shlex" 1100) (.ref 662) (inCls (topS 25) 0) = some o }).1
noncomputable def o670 : Obj := (⟨_, rfl⟩ : { o : Obj // fnObj "shlex.punctuation_chars" (.none) (.str "cpy313.shlex" 1100) (.ref 669) (inCls (topS 25) 1) = some o }).1
noncomputable def o700 : Obj := (⟨_, rfl⟩ : { o : Obj // fnObj "shlex.get_token" (.none) (.str "cpy313.shlex" 1100) (.ref 699) (inCls (topS 25) 5) = some o }).1
noncomputable def o707 : Obj := (⟨_, rfl⟩ : { o : Obj // fnObj "shlex.read_token" (.none) (.str "cpy313.shlex" 1100) (.ref 706) (inCls (topS 25) 6) = some o }).1
noncomputable def o729 : Obj := (⟨_, rfl⟩ : { o : Obj // fnObj "shlex.__iter__" (.none) (.str "cpy313.shlex" 1100) (.ref 728) (inCls (topS 25) 9) = some o }).1
noncomputable def o736 : Obj := (⟨_, rfl⟩ : { o : Obj // fnObj "shlex.__next__" (.none) (.str "cpy313.shlex" 1100) (.ref 735) (inCls (topS 25) 10) = some o }).1
noncomputable def o751 : Obj := (⟨_, rfl⟩ : { o : Obj // fnObj "split" (.ref 744) (.str "cpy313.shlex" 1100) (.ref 750) (topS 26) = some o }).1
noncomputable def o758 : Obj := (⟨_, rfl⟩ : { o : Obj // fnObj "join" (.none) (.str "cpy313.shlex" 1100) (.ref 757) (topS 27) = some o }).1
noncomputable def o766 : Obj := (⟨_, rfl⟩ : { o : Obj // fnObj "quote" (.none) (.str "cpy313.shlex" 1100) (.ref 765) (topS 30) = some o }).1
noncomputable def o771 : Obj := (⟨_, rfl⟩ : { o : Obj // fnObj "_law_struck" (.none) (.str "law_nq0213_01" 1268) (.ref 770) (topS 32) = some o }).1
noncomputable def o776 : Obj := (⟨_, rfl⟩ : { o : Obj // fnObj "_law_product" (.none) (.str "law_nq0213_01" 1268) (.ref 775) (topS 33) = some o }).1
noncomputable def o781 : Obj := (⟨_, rfl⟩ : { o : Obj // fnObj "law" (.none) (.str "law_nq0213_01" 1268) (.ref 780) (topS 34) = some o }).1
noncomputable def heap (P : Params) : Frag :=
  ((nat_lit 2 : Nat), (⟨.none, none, .dict (⟨PyData.keyHash P "\x69mport.loaded._sre", .str "\x69mport.loaded._sre" 183, .bool true⟩ :: ⟨PyData.keyHash P "class._frozen_importlib.BuiltinImporter", .str "class._frozen_importlib.BuiltinImporter" 185, .ref 14⟩ :: ⟨PyData.keyHash P "watched.\x69mport", .str "watched.\x69mport" 206, .ref 18⟩ :: ⟨PyData.keyHash P "class._frozen_importlib.ModuleSpec", .str "class._frozen_importlib.ModuleSpec" 216, .ref 22⟩ :: ⟨PyData.keyHash P "sys.modules.booked-epoch", .str "sys.modules.booked-epoch" 245, .int 4 0⟩ :: ⟨PyData.keyHash P "\x69mport.later-laid._sre", .str "\x69mport.later-laid._sre" 270, .bool true⟩ :: ⟨PyData.keyHash P "watched.library", .str "watched.library" 272, .ref 27⟩ :: ⟨PyData.keyHash P "watched.library-objects", .str "watched.library-objects" 0, .str "\x0c\x1e" 0⟩ :: ⟨PyData.keyHash P "watched.library-deep._sre", .str "watched.library-deep._sre" 273, .str "\x04\x00\x00\x0b\x04\x00\x00\x0b\x04\x00\x00\x03\x04\x00\x00\x0b\x08\x04dict\x02" 0⟩ :: ⟨PyData.keyHash P "\x69mport.loaded._collections", .str "\x69mport.loaded._collections" 280, .bool true⟩ :: ⟨PyData.keyHash P "sys.modules.landed._collections", .str "sys.modules.landed._collections" 294, .bool true⟩ :: ⟨PyData.keyHash P "\x69mport.later-laid._collections", .str "\x69mport.later-laid._collections" 309, .bool true⟩ :: ⟨PyData.keyHash P "watched.library-deep._collections", .str "watched.library-deep._collections" 311, .str "\x04\x00\x00\x1d\x04\x00\x00\x1d\x04\x00\x00\x03\x04\x00\x00\x1d\x08\x04dict\x02" 0⟩ :: ⟨PyData.keyHash P "type.__subclasses__.OSError.0", .str "type.__subclasses__.OSError.0" 420, .int 80 0⟩ :: ⟨PyData.keyHash P "type.__subclasses__.OSError.n", .str "type.__subclasses__.OSError.n" 421, .int 1 0⟩ :: []).toArray 15, #[]⟩ : Obj)) ::
  ((nat_lit 3 : Nat), (⟨.type "dict", none, .dict (⟨PyData.keyHash P "__name__", .str "__name__" 165, .str "law_nq0213_01" 1268⟩ :: ⟨PyData.keyHash P "__doc__", .str "__doc__" 166, .none⟩ :: ⟨PyData.keyHash P "__package__", .str "__package__" 167, .none⟩ :: ⟨PyData.keyHash P "__loader__", .str "__loader__" 168, .builtin "__main__.__loader__#opaque"⟩ :: ⟨PyData.keyHash P "__spec__", .str "__spec__" 169, .none⟩ :: ⟨PyData.keyHash P "__annotations__", .str "__annotations__" 170, .ref 6⟩ :: ⟨PyData.keyHash P "__builtins__", .str "__builtins__" 171, .ref 4⟩ :: ⟨PyData.keyHash P "__file__", .str "__file__" 173, .str "/claim/cut.py" 172⟩ :: ⟨PyData.keyHash P "__cached__", .str "__cached__" 174, .none⟩ :: ⟨PyData.keyHash P "_sre", .str "_sre" 275, .ref 12⟩ :: ⟨PyData.keyHash P "deque", .str "deque" 317, .type "collections.deque"⟩ :: ⟨PyData.keyHash P "_wall", .str "_wall" 330, .ref 44⟩ :: ⟨PyData.keyHash P "CHAR_MAX", .str "CHAR_MAX" 334, .int 127 333⟩ :: ⟨PyData.keyHash P "_grouping_intervals", .str "_grouping_intervals" 343, .ref 51⟩ :: ⟨PyData.keyHash P "_twin_re_1", .str "_twin_re_1" 383, .ref 56⟩ :: ⟨PyData.keyHash P "_whence", .str "_whence" 393, .ref 63⟩ :: ⟨PyData.keyHash P "_index", .str "_index" 401, .ref 70⟩ :: ⟨PyData.keyHash P "UnsupportedOperation", .str "UnsupportedOperation" 423, .ref 80⟩ :: ⟨PyData.keyHash P "IOBase", .str "IOBase" 455, .ref 100⟩ :: ⟨PyData.keyHash P "BufferedIOBase", .str "BufferedIOBase" 473, .ref 115⟩ :: ⟨PyData.keyHash P "TextIOBase", .str "TextIOBase" 491, .ref 127⟩ :: ⟨PyData.keyHash P "BytesIO", .str "BytesIO" 753, .ref 357⟩ :: ⟨PyData.keyHash P "StringIO", .str "StringIO" 1040, .ref 604⟩ :: ⟨PyData.keyHash P "_kind", .str "_kind" 1051, .ref 613⟩ :: ⟨PyData.keyHash P "_fspath", .str "_fspath" 1060, .ref 620⟩ :: ⟨PyData.keyHash P "_check_arg_types", .str "_check_arg_types" 1070, .ref 627⟩ :: ⟨PyData.keyHash P "isabs", .str "isabs" 1077, .ref 634⟩ :: ⟨PyData.keyHash P "join", .str "join" 1088, .ref 758⟩ :: ⟨PyData.keyHash P "join_path", .str "join_path" 1089, .ref 641⟩ :: ⟨PyData.keyHash P "dirname", .str "dirname" 1099, .ref 648⟩ :: ⟨PyData.keyHash P "shlex", .str "shlex" 1240, .ref 739⟩ :: ⟨PyData.keyHash P "split", .str "split" 1250, .ref 751⟩ :: ⟨PyData.keyHash P "join_shlex", .str "join_shlex" 1258, .ref 758⟩ :: ⟨PyData.keyHash P "_find_unsafe", .str "_find_unsafe" 1260, .ref 759⟩ :: ⟨PyData.keyHash P "quote", .str "quote" 1267, .ref 766⟩ :: ⟨PyData.keyHash P "_law_struck", .str "_law_struck" 1275, .ref 771⟩ :: ⟨PyData.keyHash P "_law_product", .str "_law_product" 1281, .ref 776⟩ :: ⟨PyData.keyHash P "law", .str "law" 1287, .ref 781⟩ :: []).toArray 38, #[]⟩ : Obj)) ::
  ((nat_lit 38 : Nat), (⟨.type "tuple", none, .seq #[] 0, #[]⟩ : Obj)) ::
  ((nat_lit 40 : Nat), (⟨.type "tuple", none, .seq #[(.str "k" 327)] 0, #[]⟩ : Obj)) ::
  ((nat_lit 41 : Nat), (⟨.type "tuple", none, .seq #[] 0, #[]⟩ : Obj)) ::
  ((nat_lit 43 : Nat), (⟨.type "code", none, .fields ((.str "_wall" 324) :: (.str "_wall" 325) :: (.str "/claim/cut.py" 326) :: (.int 3 0) :: (.int 1 0) :: (.int 0 0) :: (.int 0 0) :: (.int 3 0) :: (.ref 38) :: (.bool true) :: (.int 318 0) :: (.ref 39) :: .none :: (.ref 40) :: (.ref 41) :: (.ref 42) :: (.int 328 0) :: (.int 3 0) :: (.str "/claim/cut.py" 329) :: []).toArray, #[]⟩ : Obj)) ::
  ((nat_lit 45 : Nat), (⟨.type "tuple", none, .seq #[] 0, #[]⟩ : Obj)) ::
  ((nat_lit 47 : Nat), (⟨.type "tuple", none, .seq #[(.str "grouping" 338), (.str "last_interval" 339), (.str "interval" 340)] 0, #[]⟩ : Obj)) ::
  ((nat_lit 48 : Nat), (⟨.type "tuple", none, .seq #[] 0, #[]⟩ : Obj)) ::
  ((nat_lit 50 : Nat), (⟨.type "code", none, .fields ((.str "_grouping_intervals" 335) :: (.str "_grouping_intervals" 336) :: (.str "/claim/cut.py" 337) :: (.int 8 0) :: (.int 1 0) :: (.int 0 0) :: (.int 0 0) :: (.int 35 0) :: (.ref 45) :: (.bool true) :: (.int 318 0) :: (.ref 46) :: .none :: (.ref 47) :: (.ref 48) :: (.ref 49) :: (.int 341 0) :: (.int 8 0) :: (.str "/claim/cut.py" 342) :: []).toArray, #[]⟩ : Obj)) ::
  ((nat_lit 51 : Nat), (o51 : Obj)) ::
  ((nat_lit 55 : Nat), (⟨.type "tuple", none, .seq ((.int 14 0) :: (.int 17 0) :: (.int 4 0) :: (.int 1 0) :: (.int 1 0) :: (.int 21 0) :: (.int 9 0) :: (.int 0 0) :: (.int 604043296 0) :: (.int 1 0) :: (.int 0 0) :: (.int 0 0) :: (.int 0 0) :: (.int 0 0) :: (.int 0 0) :: (.int 8 0) :: (.int 4 0) :: (.int 0 0) :: (.int 13 0) :: (.int 14 0) :: (.int 21 0) :: (.int 9 0) :: (.int 0 0) :: (.int 604043296 0) :: (.int 1 0) :: (.int 0 0) :: (.int 0 0) :: (.int 0 0) :: (.int 0 0) :: (.int 0 0) :: (.int 8 0) :: (.int 4 0) :: (.int 0 0) :: (.int 1 0) :: []).toArray 0, #[]⟩ : Obj)) ::
  ((nat_lit 56 : Nat), (⟨.type "re.Pattern", none, .fields #[(.str "[^\\w@%+=:,./-]" 345), (.int 256 382), (.int 0 0), .none, .none, (.ref 55), (.int 0 0)], #[]⟩ : Obj)) ::
  ((nat_lit 57 : Nat), (⟨.type "tuple", none, .seq #[] 0, #[]⟩ : Obj)) ::
  ((nat_lit 59 : Nat), (⟨.type "tuple", none, .seq #[(.str "n" 389), (.str "what" 390)] 0, #[]⟩ : Obj)) ::
  ((nat_lit 60 : Nat), (⟨.type "tuple", none, .seq #[] 0, #[]⟩ : Obj)) ::
  ((nat_lit 62 : Nat), (⟨.type "code", none, .fields ((.str "_whence" 386) :: (.str "_whence" 387) :: (.str "/claim/cut.py" 388) :: (.int 22 0) :: (.int 2 0) :: (.int 0 0) :: (.int 0 0) :: (.int 3 0) :: (.ref 57) :: (.bool true) :: (.int 318 0) :: (.ref 58) :: .none :: (.ref 59) :: (.ref 60) :: (.ref 61) :: (.int 391 0) :: (.int 22 0) :: (.str "/claim/cut.py" 392) :: []).toArray, #[]⟩ : Obj)) ::
  ((nat_lit 64 : Nat), (⟨.type "tuple", none, .seq #[] 0, #[]⟩ : Obj)) ::
  ((nat_lit 66 : Nat), (⟨.type "tuple", none, .seq #[(.str "n" 397), (.str "what" 398)] 0, #[]⟩ : Obj)) ::
  ((nat_lit 67 : Nat), (⟨.type "tuple", none, .seq #[] 0, #[]⟩ : Obj)) ::
  ((nat_lit 69 : Nat), (⟨.type "code", none, .fields ((.str "_index" 394) :: (.str "_index" 395) :: (.str "/claim/cut.py" 396) :: (.int 27 0) :: (.int 2 0) :: (.int 0 0) :: (.int 0 0) :: (.int 3 0) :: (.ref 64) :: (.bool true) :: (.int 318 0) :: (.ref 65) :: .none :: (.ref 66) :: (.ref 67) :: (.ref 68) :: (.int 399 0) :: (.int 27 0) :: (.str "/claim/cut.py" 400) :: []).toArray, #[]⟩ : Obj)) ::
  ((nat_lit 70 : Nat), (o70 : Obj)) ::
  ((nat_lit 71 : Nat), (⟨.type "tuple", none, .seq #[(.type "OSError"), (.type "ValueError")] 0, #[]⟩ : Obj)) ::
  ((nat_lit 78 : Nat), (⟨.type "tuple", none, .seq #[] 0, #[]⟩ : Obj)) ::
  ((nat_lit 79 : Nat), (⟨.type "dict", none, .dict #[⟨PyData.keyHash P "__module__", .str "__module__" 409, .str "io" 414⟩, ⟨PyData.keyHash P "__firstlineno__", .str "__firstlineno__" 413, .int 34 412⟩, ⟨PyData.keyHash P "__static_attributes__", .str "__static_attributes__" 416, .ref 78⟩, ⟨PyData.keyHash P "__weakref__", .str "__weakref__" 418, .ref 81⟩, ⟨PyData.keyHash P "__doc__", .str "__doc__" 419, .none⟩] 3, #[]⟩ : Obj)) ::
  ((nat_lit 80 : Nat), (⟨.type "type", none, .cls ⟨"UnsupportedOperation", [(.type "OSError"), (.type "ValueError")], [(.ref 80), (.type "OSError"), (.type "ValueError"), (.type "Exception"), (.type "BaseException"), (.type "object")], 79, "UnsupportedOperation", true, [], [], false, none, false⟩, #[(some (.ref 71)), none, (some (.str "UnsupportedOperation" 402)), (some (.str "UnsupportedOperation" 410)), (some (.builtin "OSError.__new__")), (some (.bool true))]⟩ : Obj)) ::
  ((nat_lit 81 : Nat), (⟨.type "getset_descriptor", none, .fields #[(.str "__weakref__" 417), (.ref 80), (.builtin "ExceptionGroup.__weakref__"), .none], #[]⟩ : Obj)) ::
  ((nat_lit 91 : Nat), (⟨.type "tuple", none, .seq #[] 0, #[]⟩ : Obj)) ::
  ((nat_lit 93 : Nat), (⟨.type "tuple", none, .seq #[(.str "cls" 441), (.str "args" 442), (.str "kwargs" 443)] 0, #[]⟩ : Obj)) ::
  ((nat_lit 94 : Nat), (⟨.type "tuple", none, .seq #[] 0, #[]⟩ : Obj)) ::
  ((nat_lit 96 : Nat), (⟨.type "code", none, .fields ((.str "__new__" 438) :: (.str "IOBase.__new__" 439) :: (.str "/claim/cut.py" 440) :: (.int 39 0) :: (.int 1 0) :: (.int 1 0) :: (.int 0 0) :: (.int 15 0) :: (.ref 91) :: (.bool true) :: (.int 318 0) :: (.ref 92) :: .none :: (.ref 93) :: (.ref 94) :: (.ref 95) :: (.int 444 0) :: (.int 39 0) :: (.str "/claim/cut.py" 445) :: []).toArray, #[]⟩ : Obj)) ::
  ((nat_lit 97 : Nat), (o97 : Obj)) ::
  ((nat_lit 98 : Nat), (⟨.type "tuple", none, .seq #[] 0, #[]⟩ : Obj)) ::
  ((nat_lit 99 : Nat), (⟨.type "dict", none, .dict #[⟨PyData.keyHash P "__module__", .str "__module__" 431, .str "io" 436⟩, ⟨PyData.keyHash P "__firstlineno__", .str "__firstlineno__" 435, .int 36 434⟩, ⟨PyData.keyHash P "__new__", .str "__new__" 446, .ref 101⟩, ⟨PyData.keyHash P "__static_attributes__", .str "__static_attributes__" 447, .ref 98⟩, ⟨PyData.keyHash P "__dict__", .str "__dict__" 450, .ref 102⟩, ⟨PyData.keyHash P "__weakref__", .str "__weakref__" 452, .ref 103⟩, ⟨PyData.keyHash P "__doc__", .str "__doc__" 453, .none⟩] 4, #[]⟩ : Obj)) ::
  ((nat_lit 100 : Nat), (⟨.type "type", none, .cls ⟨"IOBase", [(.type "object")], [(.ref 100), (.type "object")], 99, "IOBase", true, [], [(.ref 115), (.ref 127)], false, none, false⟩, #[none, none, (some (.str "IOBase" 424)), (some (.str "IOBase" 432)), (some .none), (some (.bool true))]⟩ : Obj)) ::
  ((nat_lit 101 : Nat), (⟨.type "staticmethod", none, .fields #[(.ref 97)], #[]⟩ : Obj)) ::
  ((nat_lit 102 : Nat), (⟨.type "getset_descriptor", none, .fields #[(.str "__dict__" 449), (.ref 100), (.builtin "function.__dict__"), (.builtin "function.__dict__#set")], #[]⟩ : Obj)) ::
  ((nat_lit 103 : Nat), (⟨.type "getset_descriptor", none, .fields #[(.str "__weakref__" 451), (.ref 100), (.builtin "ExceptionGroup.__weakref__"), .none], #[]⟩ : Obj)) ::
  ((nat_lit 106 : Nat), (⟨.type "tuple", none, .seq #[(.ref 100)] 0, #[]⟩ : Obj)) ::
  ((nat_lit 113 : Nat), (⟨.type "tuple", none, .seq #[] 0, #[]⟩ : Obj)) ::
  ((nat_lit 114 : Nat), (⟨.type "dict", none, .dict #[⟨PyData.keyHash P "__module__", .str "__module__" 463, .str "io" 468⟩, ⟨PyData.keyHash P "__firstlineno__", .str "__firstlineno__" 467, .int 43 466⟩, ⟨PyData.keyHash P "__static_attributes__", .str "__static_attributes__" 470, .ref 113⟩, ⟨PyData.keyHash P "__doc__", .str "__doc__" 471, .none⟩] 2, #[]⟩ : Obj)) ::
  ((nat_lit 115 : Nat), (⟨.type "type", none, .cls ⟨"BufferedIOBase", [(.ref 100)], [(.ref 115), (.ref 100), (.type "object")], 114, "BufferedIOBase", true, [], [(.ref 357)], false, none, false⟩, #[(some (.ref 106)), none, (some (.str "BufferedIOBase" 456)), (some (.str "BufferedIOBase" 464)), (some .none), (some (.bool true))]⟩ : Obj)) ::
  ((nat_lit 118 : Nat), (⟨.type "tuple", none, .seq #[(.ref 100)] 0, #[]⟩ : Obj)) ::
  ((nat_lit 125 : Nat), (⟨.type "tuple", none, .seq #[] 0, #[]⟩ : Obj)) ::
  ((nat_lit 126 : Nat), (⟨.type "dict", none, .dict #[⟨PyData.keyHash P "__module__", .str "__module__" 481, .str "io" 486⟩, ⟨PyData.keyHash P "__firstlineno__", .str "__firstlineno__" 485, .int 45 484⟩, ⟨PyData.keyHash P "__static_attributes__", .str "__static_attributes__" 488, .ref 125⟩, ⟨PyData.keyHash P "__doc__", .str "__doc__" 489, .none⟩] 2, #[]⟩ : Obj)) ::
  ((nat_lit 127 : Nat), (⟨.type "type", none, .cls ⟨"TextIOBase", [(.ref 100)], [(.ref 127), (.ref 100), (.type "object")], 126, "TextIOBase", true, [], [(.ref 604)], false, none, false⟩, #[(some (.ref 118)), none, (some (.str "TextIOBase" 474)), (some (.str "TextIOBase" 482)), (some .none), (some (.bool true))]⟩ : Obj)) ::
  ((nat_lit 357 : Nat), (⟨.type "type", none, .cls ⟨"BytesIO", [(.ref 115)], [(.ref 357), (.ref 115), (.ref 100), (.type "object")], 356, "BytesIO", true, [], [], false, none, false⟩, #[(some (.ref 130)), none, (some (.str "BytesIO" 492)), (some (.str "BytesIO" 500)), (some .none), (some (.bool true))]⟩ : Obj)) ::
  ((nat_lit 360 : Nat), (⟨.type "tuple", none, .seq #[(.ref 127)] 0, #[]⟩ : Obj)) ::
  ((nat_lit 367 : Nat), (⟨.type "tuple", none, .seq #[(.str "" 768), (.str "\n" 769)] 0, #[]⟩ : Obj)) ::
  ((nat_lit 368 : Nat), (⟨.type "tuple", none, .seq #[] 0, #[]⟩ : Obj)) ::
  ((nat_lit 370 : Nat), (⟨.type "tuple", none, .seq #[(.str "self" 773), (.str "initial_value" 774), (.str "newline" 775)] 0, #[]⟩ : Obj)) ::
  ((nat_lit 371 : Nat), (⟨.type "tuple", none, .seq #[] 0, #[]⟩ : Obj)) ::
  ((nat_lit 373 : Nat), (⟨.type "code", none, .fields ((.str "__init__" 770) :: (.str "StringIO.__init__" 771) :: (.str "/claim/cut.py" 772) :: (.int 220 0) :: (.int 3 0) :: (.int 0 0) :: (.int 0 0) :: (.int 3 0) :: (.ref 368) :: (.bool true) :: (.int 318 0) :: (.ref 369) :: .none :: (.ref 370) :: (.ref 371) :: (.ref 372) :: (.int 776 0) :: (.int 220 0) :: (.str "/claim/cut.py" 777) :: []).toArray, #[]⟩ : Obj)) ::
  ((nat_lit 374 : Nat), (o374 : Obj)) ::
  ((nat_lit 375 : Nat), (⟨.type "tuple", none, .seq #[] 0, #[]⟩ : Obj)) ::
  ((nat_lit 377 : Nat), (⟨.type "tuple", none, .seq #[(.str "self" 782), (.str "s" 783), (.str "newline" 784)] 0, #[]⟩ : Obj)) ::
  ((nat_lit 378 : Nat), (⟨.type "tuple", none, .seq #[] 0, #[]⟩ : Obj)) ::
  ((nat_lit 380 : Nat), (⟨.type "code", none, .fields ((.str "__translated" 779) :: (.str "StringIO.__translated" 780) :: (.str "/claim/cut.py" 781) :: (.int 233 0) :: (.int 2 0) :: (.int 0 0) :: (.int 0 0) :: (.int 3 0) :: (.ref 375) :: (.bool true) :: (.int 318 0) :: (.ref 376) :: .none :: (.ref 377) :: (.ref 378) :: (.ref 379) :: (.int 785 0) :: (.int 233 0) :: (.str "/claim/cut.py" 786) :: []).toArray, #[]⟩ : Obj)) ::
  ((nat_lit 381 : Nat), (o381 : Obj)) ::
  ((nat_lit 382 : Nat), (⟨.type "tuple", none, .seq #[] 0, #[]⟩ : Obj)) ::
  ((nat_lit 384 : Nat), (⟨.type "tuple", none, .seq #[(.str "self" 791)] 0, #[]⟩ : Obj)) ::
  ((nat_lit 385 : Nat), (⟨.type "tuple", none, .seq #[] 0, #[]⟩ : Obj)) ::
  ((nat_lit 387 : Nat), (⟨.type "code", none, .fields ((.str "__check" 788) :: (.str "StringIO.__check" 789) :: (.str "/claim/cut.py" 790) :: (.int 241 0) :: (.int 1 0) :: (.int 0 0) :: (.int 0 0) :: (.int 3 0) :: (.ref 382) :: (.bool true) :: (.int 318 0) :: (.ref 383) :: .none :: (.ref 384) :: (.ref 385) :: (.ref 386) :: (.int 792 0) :: (.int 241 0) :: (.str "/claim/cut.py" 793) :: []).toArray, #[]⟩ : Obj)) ::
  ((nat_lit 388 : Nat), (o388 : Obj)) ::
  ((nat_lit 389 : Nat), (⟨.type "tuple", none, .seq #[] 0, #[]⟩ : Obj)) ::
  ((nat_lit 391 : Nat), (⟨.type "tuple", none, .seq #[(.str "self" 798)] 0, #[]⟩ : Obj)) ::
  ((nat_lit 392 : Nat), (⟨.type "tuple", none, .seq #[] 0, #[]⟩ : Obj)) ::
  ((nat_lit 394 : Nat), (⟨.type "code", none, .fields ((.str "__check_dot" 795) :: (.str "StringIO.__check_dot" 796) :: (.str "/claim/cut.py" 797) :: (.int 245 0) :: (.int 1 0) :: (.int 0 0) :: (.int 0 0) :: (.int 3 0) :: (.ref 389) :: (.bool true) :: (.int 318 0) :: (.ref 390) :: .none :: (.ref 391) :: (.ref 392) :: (.ref 393) :: (.int 799 0) :: (.int 245 0) :: (.str "/claim/cut.py" 800) :: []).toArray, #[]⟩ : Obj)) ::
  ((nat_lit 396 : Nat), (⟨.type "tuple", none, .seq #[] 0, #[]⟩ : Obj)) ::
  ((nat_lit 398 : Nat), (⟨.type "tuple", none, .seq ((.str "self" 805) :: (.str "limit" 806) :: (.str "start" 807) :: (.str "stop" 808) :: (.str "cut" 809) :: (.str "newline" 810) :: (.str "i" 811) :: (.str "j" 812) :: (.str "end" 813) :: []).toArray 0, #[]⟩ : Obj)) ::
  ((nat_lit 399 : Nat), (⟨.type "tuple", none, .seq #[] 0, #[]⟩ : Obj)) ::
  ((nat_lit 401 : Nat), (⟨.type "code", none, .fields ((.str "__line" 802) :: (.str "StringIO.__line" 803) :: (.str "/claim/cut.py" 804) :: (.int 249 0) :: (.int 2 0) :: (.int 0 0) :: (.int 0 0) :: (.int 3 0) :: (.ref 396) :: (.bool true) :: (.int 318 0) :: (.ref 397) :: .none :: (.ref 398) :: (.ref 399) :: (.ref 400) :: (.int 814 0) :: (.int 249 0) :: (.str "/claim/cut.py" 815) :: []).toArray, #[]⟩ : Obj)) ::
  ((nat_lit 402 : Nat), (o402 : Obj)) ::
  ((nat_lit 403 : Nat), (⟨.type "tuple", none, .seq #[] 0, #[]⟩ : Obj)) ::
  ((nat_lit 543 : Nat), (⟨.type "tuple", none, .seq #[(.int (-1) 961)] 0, #[]⟩ : Obj)) ::
  ((nat_lit 544 : Nat), (⟨.type "tuple", none, .seq #[] 0, #[]⟩ : Obj)) ::
  ((nat_lit 546 : Nat), (⟨.type "tuple", none, .seq #[(.str "self" 965), (.str "size" 966), (.str "start" 967), (.str "stop" 968)] 0, #[]⟩ : Obj)) ::
  ((nat_lit 547 : Nat), (⟨.type "tuple", none, .seq #[] 0, #[]⟩ : Obj)) ::
  ((nat_lit 549 : Nat), (⟨.type "code", none, .fields ((.str "read" 962) :: (.str "StringIO.read" 963) :: (.str "/claim/cut.py" 964) :: (.int 363 0) :: (.int 2 0) :: (.int 2 0) :: (.int 0 0) :: (.int 3 0) :: (.ref 544) :: (.bool true) :: (.int 318 0) :: (.ref 545) :: .none :: (.ref 546) :: (.ref 547) :: (.ref 548) :: (.int 969 0) :: (.int 363 0) :: (.str "/claim/cut.py" 970) :: []).toArray, #[]⟩ : Obj)) ::
  ((nat_lit 550 : Nat), (o550 : Obj)) ::
  ((nat_lit 551 : Nat), (⟨.type "tuple", none, .seq #[(.int (-1) 973)] 0, #[]⟩ : Obj)) ::
  ((nat_lit 552 : Nat), (⟨.type "tuple", none, .seq #[] 0, #[]⟩ : Obj)) ::
  ((nat_lit 554 : Nat), (⟨.type "tuple", none, .seq #[(.str "self" 977), (.str "size" 978)] 0, #[]⟩ : Obj)) ::
  ((nat_lit 555 : Nat), (⟨.type "tuple", none, .seq #[] 0, #[]⟩ : Obj)) ::
  ((nat_lit 557 : Nat), (⟨.type "code", none, .fields ((.str "readline" 974) :: (.str "StringIO.readline" 975) :: (.str "/claim/cut.py" 976) :: (.int 377 0) :: (.int 2 0) :: (.int 2 0) :: (.int 0 0) :: (.int 3 0) :: (.ref 552) :: (.bool true) :: (.int 318 0) :: (.ref 553) :: .none :: (.ref 554) :: (.ref 555) :: (.ref 556) :: (.int 979 0) :: (.int 377 0) :: (.str "/claim/cut.py" 980) :: []).toArray, #[]⟩ : Obj)) ::
  ((nat_lit 558 : Nat), (o558 : Obj)) ::
  ((nat_lit 603 : Nat), (⟨.type "dict", none, .dict (⟨PyData.keyHash P "__module__", .str "__module__" 761, .str "_io" 766⟩ :: ⟨PyData.keyHash P "__firstlineno__", .str "__firstlineno__" 765, .int 217 764⟩ :: ⟨PyData.keyHash P "__init__", .str "__init__" 778, .ref 374⟩ :: ⟨PyData.keyHash P "_StringIO__translated", .str "_StringIO__translated" 787, .ref 381⟩ :: ⟨PyData.keyHash P "_StringIO__check", .str "_StringIO__check" 794, .ref 388⟩ :: ⟨PyData.keyHash P "_StringIO__check_dot", .str "_StringIO__check_dot" 801, .ref 395⟩ :: ⟨PyData.keyHash P "_StringIO__line", .str "_StringIO__line" 816, .ref 402⟩ :: ⟨PyData.keyHash P "closed", .str "closed" 824, .ref 410⟩ :: ⟨PyData.keyHash P "line_buffering", .str "line_buffering" 832, .ref 418⟩ :: ⟨PyData.keyHash P "newlines", .str "newlines" 840, .ref 426⟩ :: ⟨PyData.keyHash P "encoding", .str "encoding" 848, .ref 434⟩ :: ⟨PyData.keyHash P "errors", .str "errors" 856, .ref 442⟩ :: ⟨PyData.keyHash P "close", .str "close" 863, .ref 449⟩ :: ⟨PyData.keyHash P "__enter__", .str "__enter__" 870, .ref 456⟩ :: ⟨PyData.keyHash P "__exit__", .str "__exit__" 878, .ref 463⟩ :: ⟨PyData.keyHash P "readable", .str "readable" 885, .ref 470⟩ :: ⟨PyData.keyHash P "writable", .str "writable" 892, .ref 477⟩ :: ⟨PyData.keyHash P "seekable", .str "seekable" 899, .ref 484⟩ :: ⟨PyData.keyHash P "isatty", .str "isatty" 906, .ref 491⟩ :: ⟨PyData.keyHash P "flush", .str "flush" 913, .ref 498⟩ :: ⟨PyData.keyHash P "fileno", .str "fileno" 920, .ref 505⟩ :: ⟨PyData.keyHash P "detach", .str "detach" 927, .ref 512⟩ :: ⟨PyData.keyHash P "getvalue", .str "getvalue" 934, .ref 519⟩ :: ⟨PyData.keyHash P "tell", .str "tell" 941, .ref 526⟩ :: ⟨PyData.keyHash P "seek", .str "seek" 951, .ref 534⟩ :: ⟨PyData.keyHash P "truncate", .str "truncate" 959, .ref 542⟩ :: ⟨PyData.keyHash P "read", .str "read" 971, .ref 550⟩ :: ⟨PyData.keyHash P "readline", .str "readline" 981, .ref 558⟩ :: ⟨PyData.keyHash P "readlines", .str "readlines" 991, .ref 566⟩ :: ⟨PyData.keyHash P "__iter__", .str "__iter__" 998, .ref 573⟩ :: ⟨PyData.keyHash P "__next__", .str "__next__" 1006, .ref 580⟩ :: ⟨PyData.keyHash P "write", .str "write" 1018, .ref 587⟩ :: ⟨PyData.keyHash P "writelines", .str "writelines" 1026, .ref 594⟩ :: ⟨PyData.keyHash P "__repr__", .str "__repr__" 1033, .ref 601⟩ :: ⟨PyData.keyHash P "__static_attributes__", .str "__static_attributes__" 1037, .ref 602⟩ :: ⟨PyData.keyHash P "__doc__", .str "__doc__" 1038, .none⟩ :: []).toArray 2, #[]⟩ : Obj)) ::
  ((nat_lit 604 : Nat), (⟨.type "type", none, .cls ⟨"StringIO", [(.ref 127)], [(.ref 604), (.ref 127), (.ref 100), (.type "object")], 603, "StringIO", true, [], [], false, none, false⟩, #[(some (.ref 360)), none, (some (.str "StringIO" 754)), (some (.str "StringIO" 762)), (some .none), (some (.bool true))]⟩ : Obj)) ::
  ((nat_lit 656 : Nat), (⟨.type "tuple", none, .seq #[.none, .none, (.bool false), (.bool false)] 0, #[]⟩ : Obj)) ::
  ((nat_lit 657 : Nat), (⟨.type "tuple", none, .seq #[] 0, #[]⟩ : Obj)) ::
  ((nat_lit 659 : Nat), (⟨.type "tuple", none, .seq #[(.str "self" 1117), (.str "instream" 1118), (.str "infile" 1119), (.str "posix" 1120), (.str "punctuation_chars" 1121), (.str "t" 1122)] 0, #[]⟩ : Obj)) ::
  ((nat_lit 660 : Nat), (⟨.type "tuple", none, .seq #[] 0, #[]⟩ : Obj)) ::
  ((nat_lit 662 : Nat), (⟨.type "code", none, .fields ((.str "__init__" 1114) :: (.str "shlex.__init__" 1115) :: (.str "/claim/cut.py" 1116) :: (.int 489 0) :: (.int 5 0) :: (.int 0 0) :: (.int 0 0) :: (.int 3 0) :: (.ref 657) :: (.bool true) :: (.int 318 0) :: (.ref 658) :: .none :: (.ref 659) :: (.ref 660) :: (.ref 661) :: (.int 1123 0) :: (.int 489 0) :: (.str "/claim/cut.py" 1124) :: []).toArray, #[]⟩ : Obj)) ::
  ((nat_lit 663 : Nat), (o663 : Obj)) ::
  ((nat_lit 664 : Nat), (⟨.type "tuple", none, .seq #[] 0, #[]⟩ : Obj)) ::
  ((nat_lit 666 : Nat), (⟨.type "tuple", none, .seq #[(.str "self" 1129)] 0, #[]⟩ : Obj)) ::
  ((nat_lit 667 : Nat), (⟨.type "tuple", none, .seq #[] 0, #[]⟩ : Obj)) ::
  ((nat_lit 669 : Nat), (⟨.type "code", none, .fields ((.str "punctuation_chars" 1126) :: (.str "shlex.punctuation_chars" 1127) :: (.str "/claim/cut.py" 1128) :: (.int 530 0) :: (.int 1 0) :: (.int 0 0) :: (.int 0 0) :: (.int 3 0) :: (.ref 664) :: (.bool true) :: (.int 318 0) :: (.ref 665) :: .none :: (.ref 666) :: (.ref 667) :: (.ref 668) :: (.int 1130 0) :: (.int 530 0) :: (.str "/claim/cut.py" 1131) :: []).toArray, #[]⟩ : Obj)) ::
  ((nat_lit 670 : Nat), (o670 : Obj)) ::
  ((nat_lit 671 : Nat), (⟨.type "property", none, .fields #[(.ref 670), .none, .none, .none, (.str "punctuation_chars" 1133), (.bool false)], #[]⟩ : Obj)) ::
  ((nat_lit 672 : Nat), (⟨.type "tuple", none, .seq #[] 0, #[]⟩ : Obj)) ::
  ((nat_lit 674 : Nat), (⟨.type "tuple", none, .seq #[(.str "self" 1137), (.str "tok" 1138)] 0, #[]⟩ : Obj)) ::
  ((nat_lit 675 : Nat), (⟨.type "tuple", none, .seq #[] 0, #[]⟩ : Obj)) ::
  ((nat_lit 677 : Nat), (⟨.type "code", none, .fields ((.str "push_token" 1134) :: (.str "shlex.push_token" 1135) :: (.str "/claim/cut.py" 1136) :: (.int 534 0) :: (.int 2 0) :: (.int 0 0) :: (.int 0 0) :: (.int 3 0) :: (.ref 672) :: (.bool true) :: (.int 318 0) :: (.ref 673) :: .none :: (.ref 674) :: (.ref 675) :: (.ref 676) :: (.int 1139 0) :: (.int 534 0) :: (.str "/claim/cut.py" 1140) :: []).toArray, #[]⟩ : Obj)) ::
  ((nat_lit 679 : Nat), (⟨.type "tuple", none, .seq #[.none] 0, #[]⟩ : Obj)) ::
  ((nat_lit 680 : Nat), (⟨.type "tuple", none, .seq #[] 0, #[]⟩ : Obj)) ::
  ((nat_lit 682 : Nat), (⟨.type "tuple", none, .seq #[(.str "self" 1145), (.str "newstream" 1146), (.str "newfile" 1147)] 0, #[]⟩ : Obj)) ::
  ((nat_lit 683 : Nat), (⟨.type "tuple", none, .seq #[] 0, #[]⟩ : Obj)) ::
  ((nat_lit 685 : Nat), (⟨.type "code", none, .fields ((.str "push_source" 1142) :: (.str "shlex.push_source" 1143) :: (.str "/claim/cut.py" 1144) :: (.int 537 0) :: (.int 3 0) :: (.int 0 0) :: (.int 0 0) :: (.int 3 0) :: (.ref 680) :: (.bool true) :: (.int 318 0) :: (.ref 681) :: .none :: (.ref 682) :: (.ref 683) :: (.ref 684) :: (.int 1148 0) :: (.int 537 0) :: (.str "/claim/cut.py" 1149) :: []).toArray, #[]⟩ : Obj)) ::
  ((nat_lit 687 : Nat), (⟨.type "tuple", none, .seq #[] 0, #[]⟩ : Obj)) ::
  ((nat_lit 689 : Nat), (⟨.type "tuple", none, .seq #[(.str "self" 1154)] 0, #[]⟩ : Obj)) ::
  ((nat_lit 690 : Nat), (⟨.type "tuple", none, .seq #[] 0, #[]⟩ : Obj)) ::
  ((nat_lit 692 : Nat), (⟨.type "code", none, .fields ((.str "pop_source" 1151) :: (.str "shlex.pop_source" 1152) :: (.str "/claim/cut.py" 1153) :: (.int 550 0) :: (.int 1 0) :: (.int 0 0) :: (.int 0 0) :: (.int 3 0) :: (.ref 687) :: (.bool true) :: (.int 318 0) :: (.ref 688) :: .none :: (.ref 689) :: (.ref 690) :: (.ref 691) :: (.int 1155 0) :: (.int 550 0) :: (.str "/claim/cut.py" 1156) :: []).toArray, #[]⟩ : Obj)) ::
  ((nat_lit 694 : Nat), (⟨.type "tuple", none, .seq #[] 0, #[]⟩ : Obj)) ::
  ((nat_lit 696 : Nat), (⟨.type "tuple", none, .seq #[(.str "self" 1161), (.str "tok" 1162), (.str "raw" 1163), (.str "spec" 1164), (.str "newfile" 1165), (.str "newstream" 1166)] 0, #[]⟩ : Obj)) ::
  ((nat_lit 697 : Nat), (⟨.type "tuple", none, .seq #[] 0, #[]⟩ : Obj)) ::
  ((nat_lit 699 : Nat), (⟨.type "code", none, .fields ((.str "get_token" 1158) :: (.str "shlex.get_token" 1159) :: (.str "/claim/cut.py" 1160) :: (.int 557 0) :: (.int 1 0) :: (.int 0 0) :: (.int 0 0) :: (.int 3 0) :: (.ref 694) :: (.bool true) :: (.int 318 0) :: (.ref 695) :: .none :: (.ref 696) :: (.ref 697) :: (.ref 698) :: (.int 1167 0) :: (.int 557 0) :: (.str "/claim/cut.py" 1168) :: []).toArray, #[]⟩ : Obj)) ::
  ((nat_lit 700 : Nat), (o700 : Obj)) ::
  ((nat_lit 701 : Nat), (⟨.type "tuple", none, .seq #[] 0, #[]⟩ : Obj)) ::
  ((nat_lit 703 : Nat), (⟨.type "tuple", none, .seq #[(.str "self" 1173), (.str "quoted" 1174), (.str "escapedstate" 1175), (.str "nextchar" 1176), (.str "result" 1177)] 0, #[]⟩ : Obj)) ::
  ((nat_lit 704 : Nat), (⟨.type "tuple", none, .seq #[] 0, #[]⟩ : Obj)) ::
  ((nat_lit 706 : Nat), (⟨.type "code", none, .fields ((.str "read_token" 1170) :: (.str "shlex.read_token" 1171) :: (.str "/claim/cut.py" 1172) :: (.int 584 0) :: (.int 1 0) :: (.int 0 0) :: (.int 0 0) :: (.int 3 0) :: (.ref 701) :: (.bool true) :: (.int 318 0) :: (.ref 702) :: .none :: (.ref 703) :: (.ref 704) :: (.ref 705) :: (.int 1178 0) :: (.int 584 0) :: (.str "/claim/cut.py" 1179) :: []).toArray, #[]⟩ : Obj)) ::
  ((nat_lit 707 : Nat), (o707 : Obj)) ::
  ((nat_lit 708 : Nat), (⟨.type "tuple", none, .seq #[] 0, #[]⟩ : Obj)) ::
  ((nat_lit 710 : Nat), (⟨.type "tuple", none, .seq #[(.str "self" 1184), (.str "newfile" 1185)] 0, #[]⟩ : Obj)) ::
  ((nat_lit 711 : Nat), (⟨.type "tuple", none, .seq #[] 0, #[]⟩ : Obj)) ::
  ((nat_lit 713 : Nat), (⟨.type "code", none, .fields ((.str "sourcehook" 1181) :: (.str "shlex.sourcehook" 1182) :: (.str "/claim/cut.py" 1183) :: (.int 721 0) :: (.int 2 0) :: (.int 0 0) :: (.int 0 0) :: (.int 3 0) :: (.ref 708) :: (.bool true) :: (.int 318 0) :: (.ref 709) :: .none :: (.ref 710) :: (.ref 711) :: (.ref 712) :: (.int 1186 0) :: (.int 721 0) :: (.str "/claim/cut.py" 1187) :: []).toArray, #[]⟩ : Obj)) ::
  ((nat_lit 715 : Nat), (⟨.type "tuple", none, .seq #[.none, .none] 0, #[]⟩ : Obj)) ::
  ((nat_lit 716 : Nat), (⟨.type "tuple", none, .seq #[] 0, #[]⟩ : Obj)) ::
  ((nat_lit 718 : Nat), (⟨.type "tuple", none, .seq #[(.str "self" 1192), (.str "infile" 1193), (.str "lineno" 1194)] 0, #[]⟩ : Obj)) ::
  ((nat_lit 719 : Nat), (⟨.type "tuple", none, .seq #[] 0, #[]⟩ : Obj)) ::
  ((nat_lit 721 : Nat), (⟨.type "code", none, .fields ((.str "error_leader" 1189) :: (.str "shlex.error_leader" 1190) :: (.str "/claim/cut.py" 1191) :: (.int 728 0) :: (.int 3 0) :: (.int 0 0) :: (.int 0 0) :: (.int 3 0) :: (.ref 716) :: (.bool true) :: (.int 318 0) :: (.ref 717) :: .none :: (.ref 718) :: (.ref 719) :: (.ref 720) :: (.int 1195 0) :: (.int 728 0) :: (.str "/claim/cut.py" 1196) :: []).toArray, #[]⟩ : Obj)) ::
  ((nat_lit 723 : Nat), (⟨.type "tuple", none, .seq #[] 0, #[]⟩ : Obj)) ::
  ((nat_lit 725 : Nat), (⟨.type "tuple", none, .seq #[(.str "self" 1201)] 0, #[]⟩ : Obj)) ::
  ((nat_lit 726 : Nat), (⟨.type "tuple", none, .seq #[] 0, #[]⟩ : Obj)) ::
  ((nat_lit 728 : Nat), (⟨.type "code", none, .fields ((.str "__iter__" 1198) :: (.str "shlex.__iter__" 1199) :: (.str "/claim/cut.py" 1200) :: (.int 731 0) :: (.int 1 0) :: (.int 0 0) :: (.int 0 0) :: (.int 3 0) :: (.ref 723) :: (.bool true) :: (.int 318 0) :: (.ref 724) :: .none :: (.ref 725) :: (.ref 726) :: (.ref 727) :: (.int 1202 0) :: (.int 731 0) :: (.str "/claim/cut.py" 1203) :: []).toArray, #[]⟩ : Obj)) ::
  ((nat_lit 729 : Nat), (o729 : Obj)) ::
  ((nat_lit 730 : Nat), (⟨.type "tuple", none, .seq #[] 0, #[]⟩ : Obj)) ::
  ((nat_lit 732 : Nat), (⟨.type "tuple", none, .seq #[(.str "self" 1208), (.str "token" 1209)] 0, #[]⟩ : Obj)) ::
  ((nat_lit 733 : Nat), (⟨.type "tuple", none, .seq #[] 0, #[]⟩ : Obj)) ::
  ((nat_lit 735 : Nat), (⟨.type "code", none, .fields ((.str "__next__" 1205) :: (.str "shlex.__next__" 1206) :: (.str "/claim/cut.py" 1207) :: (.int 734 0) :: (.int 1 0) :: (.int 0 0) :: (.int 0 0) :: (.int 3 0) :: (.ref 730) :: (.bool true) :: (.int 318 0) :: (.ref 731) :: .none :: (.ref 732) :: (.ref 733) :: (.ref 734) :: (.int 1210 0) :: (.int 734 0) :: (.str "/claim/cut.py" 1211) :: []).toArray, #[]⟩ : Obj)) ::
  ((nat_lit 736 : Nat), (o736 : Obj)) ::
  ((nat_lit 737 : Nat), (⟨.type "tuple", none, .seq ((.str "_punctuation_chars" 1213) :: (.str "_pushback_chars" 1214) :: (.str "commenters" 1215) :: (.str "debug" 1216) :: (.str "eof" 1217) :: (.str "escape" 1218) :: (.str "escapedquotes" 1219) :: (.str "filestack" 1220) :: (.str "infile" 1221) :: (.str "instream" 1222) :: (.str "lineno" 1223) :: (.str "posix" 1224) :: (.str "pushback" 1225) :: (.str "quotes" 1226) :: (.str "source" 1227) :: (.str "state" 1228) :: (.str "token" 1229) :: (.str "whitespace" 1230) :: (.str "whitespace_split" 1231) :: (.str "wordchars" 1232) :: []).toArray 0, #[]⟩ : Obj)) ::
  ((nat_lit 738 : Nat), (⟨.type "dict", none, .dict (⟨PyData.keyHash P "__module__", .str "__module__" 1109, .str "cpy313.shlex" 1100⟩ :: ⟨PyData.keyHash P "__firstlineno__", .str "__firstlineno__" 1113, .int 487 1112⟩ :: ⟨PyData.keyHash P "__init__", .str "__init__" 1125, .ref 663⟩ :: ⟨PyData.keyHash P "punctuation_chars", .str "punctuation_chars" 1133, .ref 671⟩ :: ⟨PyData.keyHash P "push_token", .str "push_token" 1141, .ref 678⟩ :: ⟨PyData.keyHash P "push_source", .str "push_source" 1150, .ref 686⟩ :: ⟨PyData.keyHash P "pop_source", .str "pop_source" 1157, .ref 693⟩ :: ⟨PyData.keyHash P "get_token", .str "get_token" 1169, .ref 700⟩ :: ⟨PyData.keyHash P "read_token", .str "read_token" 1180, .ref 707⟩ :: ⟨PyData.keyHash P "sourcehook", .str "sourcehook" 1188, .ref 714⟩ :: ⟨PyData.keyHash P "error_leader", .str "error_leader" 1197, .ref 722⟩ :: ⟨PyData.keyHash P "__iter__", .str "__iter__" 1204, .ref 729⟩ :: ⟨PyData.keyHash P "__next__", .str "__next__" 1212, .ref 736⟩ :: ⟨PyData.keyHash P "__static_attributes__", .str "__static_attributes__" 1233, .ref 737⟩ :: ⟨PyData.keyHash P "__dict__", .str "__dict__" 1235, .ref 740⟩ :: ⟨PyData.keyHash P "__weakref__", .str "__weakref__" 1237, .ref 741⟩ :: ⟨PyData.keyHash P "__doc__", .str "__doc__" 1238, .none⟩ :: []).toArray 4, #[]⟩ : Obj)) ::
  ((nat_lit 739 : Nat), (⟨.type "type", none, .cls ⟨"shlex", [(.type "object")], [(.ref 739), (.type "object")], 738, "shlex", true, [], [], false, none, false⟩, #[none, none, (some (.str "shlex" 1102)), (some (.str "shlex" 1110)), (some (.builtin "object.__new__")), (some (.bool true))]⟩ : Obj)) ::
  ((nat_lit 740 : Nat), (⟨.type "getset_descriptor", none, .fields #[(.str "__dict__" 1234), (.ref 739), (.builtin "function.__dict__"), (.builtin "function.__dict__#set")], #[]⟩ : Obj)) ::
  ((nat_lit 741 : Nat), (⟨.type "getset_descriptor", none, .fields #[(.str "__weakref__" 1236), (.ref 739), (.builtin "ExceptionGroup.__weakref__"), .none], #[]⟩ : Obj)) ::
  ((nat_lit 744 : Nat), (⟨.type "tuple", none, .seq #[(.bool false), (.bool true)] 0, #[]⟩ : Obj)) ::
  ((nat_lit 745 : Nat), (⟨.type "tuple", none, .seq #[] 0, #[]⟩ : Obj)) ::
  ((nat_lit 747 : Nat), (⟨.type "tuple", none, .seq #[(.str "s" 1244), (.str "comments" 1245), (.str "posix" 1246), (.str "lex" 1247)] 0, #[]⟩ : Obj)) ::
  ((nat_lit 748 : Nat), (⟨.type "tuple", none, .seq #[] 0, #[]⟩ : Obj)) ::
  ((nat_lit 750 : Nat), (⟨.type "code", none, .fields ((.str "split" 1241) :: (.str "split" 1242) :: (.str "/claim/cut.py" 1243) :: (.int 739 0) :: (.int 3 0) :: (.int 0 0) :: (.int 0 0) :: (.int 3 0) :: (.ref 745) :: (.bool true) :: (.int 318 0) :: (.ref 746) :: .none :: (.ref 747) :: (.ref 748) :: (.ref 749) :: (.int 1248 0) :: (.int 739 0) :: (.str "/claim/cut.py" 1249) :: []).toArray, #[]⟩ : Obj)) ::
  ((nat_lit 751 : Nat), (o751 : Obj)) ::
  ((nat_lit 752 : Nat), (⟨.type "tuple", none, .seq #[] 0, #[]⟩ : Obj)) ::
  ((nat_lit 754 : Nat), (⟨.type "tuple", none, .seq #[(.str "split_command" 1254)] 0, #[]⟩ : Obj)) ::
  ((nat_lit 755 : Nat), (⟨.type "tuple", none, .seq #[] 0, #[]⟩ : Obj)) ::
  ((nat_lit 757 : Nat), (⟨.type "code", none, .fields ((.str "join" 1251) :: (.str "join" 1252) :: (.str "/claim/cut.py" 1253) :: (.int 747 0) :: (.int 1 0) :: (.int 0 0) :: (.int 0 0) :: (.int 3 0) :: (.ref 752) :: (.bool true) :: (.int 318 0) :: (.ref 753) :: .none :: (.ref 754) :: (.ref 755) :: (.ref 756) :: (.int 1255 0) :: (.int 747 0) :: (.str "/claim/cut.py" 1256) :: []).toArray, #[]⟩ : Obj)) ::
  ((nat_lit 758 : Nat), (o758 : Obj)) ::
  ((nat_lit 759 : Nat), (⟨.type "builtin_function_or_method", none, .fields #[(.builtin "re.Pattern.search"), (.ref 56)], #[]⟩ : Obj)) ::
  ((nat_lit 760 : Nat), (⟨.type "tuple", none, .seq #[] 0, #[]⟩ : Obj)) ::
  ((nat_lit 762 : Nat), (⟨.type "tuple", none, .seq #[(.str "s" 1264)] 0, #[]⟩ : Obj)) ::
  ((nat_lit 763 : Nat), (⟨.type "tuple", none, .seq #[] 0, #[]⟩ : Obj)) ::
  ((nat_lit 765 : Nat), (⟨.type "code", none, .fields ((.str "quote" 1261) :: (.str "quote" 1262) :: (.str "/claim/cut.py" 1263) :: (.int 751 0) :: (.int 1 0) :: (.int 0 0) :: (.int 0 0) :: (.int 3 0) :: (.ref 760) :: (.bool true) :: (.int 318 0) :: (.ref 761) :: .none :: (.ref 762) :: (.ref 763) :: (.ref 764) :: (.int 1265 0) :: (.int 751 0) :: (.str "/claim/cut.py" 1266) :: []).toArray, #[]⟩ : Obj)) ::
  ((nat_lit 766 : Nat), (o766 : Obj)) ::
  ((nat_lit 767 : Nat), (⟨.type "tuple", none, .seq #[] 0, #[]⟩ : Obj)) ::
  ((nat_lit 770 : Nat), (⟨.type "code", none, .fields ((.str "_law_struck" 1270) :: (.str "_law_struck" 1271) :: (.str "/claim/cut.py" 1272) :: (.int 758 0) :: (.int 2 0) :: (.int 0 0) :: (.int 0 0) :: (.int 3 0) :: (.ref 767) :: (.bool true) :: (.int 318 0) :: (.ref 768) :: .none :: .none :: .none :: (.ref 769) :: (.int 1273 0) :: (.int 758 0) :: (.str "/claim/cut.py" 1274) :: []).toArray, #[]⟩ : Obj)) ::
  ((nat_lit 771 : Nat), (o771 : Obj)) ::
  ((nat_lit 772 : Nat), (⟨.type "tuple", none, .seq #[] 0, #[]⟩ : Obj)) ::
  ((nat_lit 775 : Nat), (⟨.type "code", none, .fields ((.str "_law_product" 1276) :: (.str "_law_product" 1277) :: (.str "/claim/cut.py" 1278) :: (.int 775 0) :: (.int 4 0) :: (.int 0 0) :: (.int 0 0) :: (.int 3 0) :: (.ref 772) :: (.bool true) :: (.int 318 0) :: (.ref 773) :: .none :: .none :: .none :: (.ref 774) :: (.int 1279 0) :: (.int 775 0) :: (.str "/claim/cut.py" 1280) :: []).toArray, #[]⟩ : Obj)) ::
  ((nat_lit 776 : Nat), (o776 : Obj)) ::
  ((nat_lit 777 : Nat), (⟨.type "tuple", none, .seq #[] 0, #[]⟩ : Obj)) ::
  ((nat_lit 780 : Nat), (⟨.type "code", none, .fields ((.str "law" 1282) :: (.str "law" 1283) :: (.str "/claim/cut.py" 1284) :: (.int 784 0) :: (.int 1 0) :: (.int 0 0) :: (.int 0 0) :: (.int 3 0) :: (.ref 777) :: (.bool true) :: (.int 318 0) :: (.ref 778) :: .none :: .none :: .none :: (.ref 779) :: (.int 1285 0) :: (.int 784 0) :: (.str "/claim/cut.py" 1286) :: []).toArray, #[]⟩ : Obj)) ::
  ((nat_lit 781 : Nat), (o781 : Obj)) :: []
/-- a block of one statement: the statement's own end is the block's end -/
theorem execs_one {M : Model} {A : Around} {env : Env} {E : Value → Shared → Prop} {s : Shared} {x : Stmt} {Q : Flow → Shared → Prop} (h : wpAny M A (exec x env) Q E s) : wpAny M A (execs [x] env) Q E s :=
  wpAny_execs_cons (wpAny_mono h (fun f _ h' => by cases f <;> first | exact wpAny_execs_nil h' | exact h') (fun _ _ h' => h'))

local macro_rules | `(tactic| k_enter) => `(tactic| (refine' code_def ?k1 ?k2 ?k3 ?k4 ?k5 ?kA ?kF ?kK ?k6 ?k7 ?k8 ?k9 ?kB ?_ ?c2 ?c3 ?c4 ?c5; (case kA => exact rfl); (case kF => exact rfl); (case kK => first | exact rfl | assumption); (case k1 => k_asm); (case k2 => k_asm); (case k3 => k_asm); (case k4 => k_asm); (case k5 => k_asm); (case k6 => k_is); (case k7 => k_is); (case k8 => ktr_room); (case k9 => first | exact BindsTo.of_eq rfl | exact binds_K (by k_in) rfl (by k_is) rfl rfl rfl); (case c5 => decide); (case kB => exact locs rfl); (case c2 => exact rfl); (case c3 => exact rfl); (case c4 => exact rfl); k_whole; intro g' L' h' FG' F' N' B' X' T'; (try dsimp only); (try k_lift B'); (try k_fold)))
local macro_rules | `(tactic| k_all) => `(tactic| with_reducible assumption)
local macro_rules | `(tactic| k_ne) => `(tactic| with_reducible assumption)
local macro_rules | `(tactic| ktr_room) => `(tactic| ((try simp only [depth_under_make, depth_under_kw, depth_in1, depth_deeper, depth_caller]); (try dsimp only [ktrTop]); omega))
local macro_rules | `(tactic| ktr_units) => `(tactic| ((try simp only [units_in1, units_deeper, Around.mark_units, units_caller]); (try dsimp only [ktrTop]); omega))




section
/-- a view of the text that asks of the top only its names -/
noncomputable def VW : Program := { main := { body := [.Import [{ name := "sys", asname := none, pos := default }] default], scope := default, futureAnnotations := false, file := "" }, modules := [], parses := [], absent := [] }
noncomputable abbrev LO : List Str := ["_sre", "deque", "_wall", "CHAR_MAX", "_grouping_intervals", "_twin_re_1", "_whence", "_index", "UnsupportedOperation", "IOBase", "BufferedIOBase", "TextIOBase", "BytesIO", "StringIO", "_kind", "_fspath", "_check_arg_types", "isabs", "join", "join_path", "dirname", "shlex", "split", "join_shlex", "_find_unsafe", "quote", "_law_struck", "_law_product", "law"]
noncomputable def vwIn (q : Program) (lo : List Str) : Bool := (lo ++ (recsOf q).map (·.name) ++ (litsOf q).map (·.1) ++ (clssOf q lo).map (·.name)).all (fun x => LO.contains x || startupNames.contains x)
theorem Heap.hide_of {h : Heap} {P b : Addr} {o : Obj} (e : h.get? b = some o) (hb : b ≠ P) : (h.hide P).get? b = some o := (Heap.hide_ne h hb).trans e
theorem ns_hide {h : Heap} {P a : Addr} {m : Str → Option Value} (N : h.Ns a m) (hb : a ≠ P) : (h.hide P).Ns a m := by
  obtain ⟨o, es, ep, ho, r⟩ := N
  exact ⟨o, es, ep, Heap.hide_of ho hb, r⟩
theorem ns_not {h : Heap} {P a : Addr} {m : Str → Option Value} {ps : Array Value} (N : h.Ns a m) (hP : h.get? P = some { cls := .none, data := .fields ps }) : a ≠ P := by
  obtain ⟨o, es, ep, ho, hd, r⟩ := N
  rintro rfl
  rw [hP] at ho
  have := Option.some.inj ho
  subst this
  cases hd
/-- the top, with one table of codes hidden -/
theorem top_hide {q : Program} {lo : List Str} (hq : vwIn q lo = true) {mean : ExcName → Option Value} {mg mb : Str → Option Value} {h : Heap} {P : Addr} {ps : Array Value} (T : Top q lo mean mg mb h) (hP : h.get? P = some { cls := .none, data := .fields ps }) : Top VW LO mean mg mb (h.hide P) where
  g := ns_hide T.g (ns_not T.g hP)
  b := ns_hide T.b (ns_not T.b hP)
  nolimit := let ⟨mc, h1, h2⟩ := T.nolimit; ⟨mc, ns_hide h1 (ns_not h1 hP), h2⟩
  nodigits := let ⟨mc, h1, h2⟩ := T.nodigits; ⟨mc, ns_hide h1 (ns_not h1 hP), h2⟩
  fn := fun d hd => nomatch hd
  own := fun d hd => nomatch hd
  const := fun x d e => by cases e
  free := fun x h1 h2 _ _ _ => by
    have key : ∀ y ∈ lo ++ (recsOf q).map (·.name) ++ (litsOf q).map (·.1) ++ (clssOf q lo).map (·.name), y ≠ x := fun y hy e => by
      have := List.all_eq_true.mp hq y hy
      subst e
      rcases Bool.or_eq_true_iff.mp this with q | q
      · exact h2 (List.contains_iff_mem.mp q)
      · exact h1 (List.contains_iff_mem.mp q)
    refine T.free x h1 ?_ ?_ ?_ ?_ <;> intro q <;> refine key x ?_ rfl
    · exact List.mem_append_left _ (List.mem_append_left _ (List.mem_append_left _ q))
    · exact List.mem_append_left _ (List.mem_append_left _ (List.mem_append_right _ q))
    · exact List.mem_append_left _ (List.mem_append_right _ q)
    · exact List.mem_append_right _ q
  builtins := T.builtins
  tab := fun d hd => nomatch hd
  bmain := by
    obtain ⟨bm, ob, h1, h2, h3, h4, r⟩ := T.bmain
    refine ⟨bm, ob, h1, h2, Heap.hide_of h3 ?_, h4, r⟩
    rintro rfl
    rw [hP] at h3
    have := Option.some.inj h3
    subst this
    cases h4
  seer := fun hi => by
    have : importsNone VW = false := by decide +kernel
    rw [this] at hi
    cases hi
end
section
theorem sl_idx (n a b : Nat) (h : a ≤ b) (hb : b ≤ n) : Builtin.Str.strSliceIndices (some (a : Int)) (some (b : Int)) 1 n = (List.range (b - a)).map (a + ·) := by
  unfold Builtin.Str.strSliceIndices sliceRange
  have h1 : ¬ ((a : Int) < 0) := by omega
  have h2 : ¬ ((b : Int) < 0) := by omega
  have h3 : max (0 : Int) (min (a : Int) (n : Int)) = a := by omega
  have h4 : max (0 : Int) (min (b : Int) (n : Int)) = b := by omega
  simp only [h1, h2, if_false, show (1 : Int) > 0 by decide, if_true, h3, h4]
  by_cases hab : (a : Int) < b
  · rw [if_pos hab]
    have : (((b : Int) - a + 1 - 1) / 1).toNat = b - a := by rw [Int.ediv_one]; omega
    rw [this]
    apply List.map_congr_left
    intro k _
    omega
  · rw [if_neg hab]
    have : b - a = 0 := by omega
    rw [this]
    rfl
theorem slice_one {buf : Str} {pos c : Nat} (hc : buf.cps[pos]? = some c) : Txt.slice buf (some (pos : Int)) (some ((pos : Int) + 1)) = ⟨#[c]⟩ := by
  obtain ⟨hlt, he⟩ := Array.getElem?_eq_some_iff.mp hc
  have e1 : ((pos : Int) + 1) = ((pos + 1 : Nat) : Int) := by omega
  have hi : Builtin.Str.strSliceIndices (some (pos : Int)) (some ((pos : Int) + 1)) 1 buf.length = [pos] := by
    rw [e1, sl_idx buf.length pos (pos + 1) (Nat.le_succ _) hlt]
    have : pos + 1 - pos = 1 := by omega
    rw [this]; rfl
  unfold Txt.slice
  rw [hi]
  split
  · rename_i hh
    simp only [beq_self_eq_true, Bool.true_and, beq_iff_eq, List.length_cons, List.length_nil] at hh
    have hl : buf.cps.size = 1 := hh.symm
    have hp : pos = 0 := by omega
    subst hp
    have : buf.cps = #[c] := by
      apply Array.ext
      · rw [hl]; rfl
      · intro i h1 h2
        have : i = 0 := by omega
        subst this
        exact he
    obtain ⟨cps⟩ := buf
    exact congrArg _ this
  · simp only [List.filterMap_cons, hc, List.filterMap_nil]
theorem slice_last {buf : Str} {pos c : Nat} (hc : buf.cps[pos]? = some c) (hl : ¬ (pos : Int) + 1 < (buf.length : Int)) : Txt.slice buf (some (pos : Int)) (some (buf.length : Int)) = ⟨#[c]⟩ := by
  obtain ⟨hlt, _⟩ := Array.getElem?_eq_some_iff.mp hc
  have : (buf.length : Int) = (pos : Int) + 1 := by
    have : pos < buf.length := hlt
    omega
  rw [this]
  exact slice_one hc
theorem gives_find4 (x y : Str) (i j : Int) (t u v v2 : Tok) : Gives (Builtin.«str.find» ⟨[.str x t, .str y u, .int i v, .int j v2], []⟩) (.int (match Builtin.Str.occurrences x y (fromIndex x.length i) (min (fromIndex x.length j) x.length) 1 with | k :: _ => (k : Int) | [] => -1)) := by
  show Gives (match Builtin.Str.occurrences x y (fromIndex x.length i) (min (fromIndex x.length j) x.length) 1 with | k :: _ => retInt k | [] => (do rule "str.find.not-found"; retInt (-1))) _
  cases Builtin.Str.occurrences x y (fromIndex x.length i) (min (fromIndex x.length j) x.length) 1 with
  | nil => exact .rule (.of_eq rfl)
  | cons k _ => exact .of_eq rfl
theorem occ_nl {x : Str} {pos k : Nat} (h1 : pos ≤ k) (hk : x.cps[k]? = some 10) (hno : ∀ q, pos ≤ q → q < k → x.cps[q]? ≠ some 10) :
    ∃ r, Builtin.Str.occurrences x "\n" pos x.length 1 = k :: r := by
  obtain ⟨hlt, he⟩ := Array.getElem?_eq_some_iff.mp hk
  have hnl : (Str.ofString "\n") = ⟨#[10]⟩ := by decide +kernel
  rw [hnl]
  have at_iff : ∀ i, StrLaws.At x ⟨#[10]⟩ x.length i ↔ x.cps[i]? = some 10 := by
    intro i
    unfold StrLaws.At Builtin.Str.subAt
    show (i + 1 ≤ x.cps.size ∧ (x.cps.extract i (i + 1) == #[10]) = true) ↔ _
    constructor
    · rintro ⟨ha, hb⟩
      have e := eq_of_beq hb
      have : (x.cps.extract i (i + 1))[0]? = some 10 := by rw [e]; rfl
      rw [Array.getElem?_extract] at this
      simpa [show 0 < min (i + 1) x.cps.size - i by omega] using this
    · intro h
      obtain ⟨hl, hv⟩ := Array.getElem?_eq_some_iff.mp h
      refine ⟨hl, ?_⟩
      have : x.cps.extract i (i + 1) = #[10] := by
        apply Array.ext
        · simp; omega
        · intro j h1 h2
          simp only [List.size_toArray, List.length_cons, List.length_nil] at h2
          have : j = 0 := by omega
          subst this
          simp [hv]
      rw [this]; rfl
  rcases StrLaws.occ_head_from x ⟨#[10]⟩ pos 1 (Nat.le_refl 1) with ⟨_, hn⟩ | ⟨i, r, e, hlo, ha, hn⟩
  · exact absurd ((at_iff k).mpr hk) (hn k h1)
  · have : i = k := by
      rcases Nat.lt_trichotomy i k with h | h | h
      · exact absurd ((at_iff i).mp ha) (hno i hlo h)
      · exact h
      · exact absurd ((at_iff k).mpr hk) (hn k h1 h)
    subst this
    exact ⟨r, e⟩
theorem find_nl {prog : Program} {w : World} {A : Around} {E : Value → Shared → Prop} {s : Shared} {x : Str} {t u v v2 : Tok} {pos k : Nat} {Q : Value → Shared → Prop}
    (h1 : pos ≤ k) (hk : x.cps[k]? = some 10) (hno : ∀ q, pos ≤ q → q < k → x.cps[q]? ≠ some 10)
    (hq : Q (.int (k : Int) s.toks) { s with toks := s.toks + 1 }) :
    wpAny (model prog w) A (call (.builtin "str.find") [.str x t, .str "\n" u, .int (pos : Int) v, .int (x.length : Int) v2]) Q E s := by
  refine call_gives F.slot_str_find (typeIs_str _ _ _) F.entry_str_find (F.args_str_find_4 _ _ _ _) (gives_find4 x "\n" (pos : Int) (x.length : Int) t u v v2) ?_
  have e1 : fromIndex x.length (pos : Int) = pos := by unfold fromIndex; omega
  have e2 : fromIndex x.length (x.length : Int) = x.length := by unfold fromIndex; omega
  obtain ⟨r, e⟩ := occ_nl h1 hk hno
  rw [e1, e2, Nat.min_self, e]
  exact hq
end
section
theorem occ_none {x : Str} {c : Nat} (h : c ∉ x.cps.toList) : (Builtin.Str.occurrences x ⟨#[c]⟩ 0 x.length 1).isEmpty = true := by
  rcases StrLaws.occ_head x ⟨#[c]⟩ 1 (Nat.le_refl 1) with ⟨e, _⟩ | ⟨i, r, e, ha, _⟩
  · rw [e]; rfl
  · exfalso
    obtain ⟨h1, h2⟩ := ha
    unfold Builtin.Str.subAt at h2
    have e2 : x.cps.extract i (i + 1) = #[c] := eq_of_beq h2
    have h1' : i + 1 ≤ x.cps.size := h1
    have h3 : (x.cps.extract i (i + 1))[0]? = some c := by rw [e2]; rfl
    rw [Array.getElem?_extract] at h3
    have h4 : x.cps[i]? = some c := by simpa [show 0 < min (i + 1) x.cps.size - i by omega] using h3
    exact h (Array.mem_toList_iff.mpr (Array.mem_of_getElem? h4))
noncomputable def isW (c : Nat) : Prop := c = 45 ∨ (48 ≤ c ∧ c ≤ 57)
theorem w_ne {c : Nat} (h : isW c) : ((⟨#[c]⟩ : Str) == Str.ofString "\n") = false := by
  have : (Str.ofString "\n") = ⟨#[10]⟩ := by decide +kernel
  rw [this]
  apply beq_eq_false_iff_ne.mpr
  intro e
  have : c = 10 := by injection e with e; injection e with e; injection e
  unfold isW at h; omega
theorem w_ws {c : Nat} (h : isW c) : (Builtin.Str.occurrences (Str.ofString " \t\r\n") ⟨#[c]⟩ 0 (Str.ofString " \t\r\n").length 1).isEmpty = true := by
  refine occ_none ?_
  have : (Str.ofString " \t\r\n") = ⟨#[32, 9, 13, 10]⟩ := by decide +kernel
  rw [this]
  unfold isW at h
  simp only [List.mem_cons, List.not_mem_nil, or_false]
  omega
theorem w_cm {c : Nat} (h : isW c) : (Builtin.Str.occurrences (Str.ofString "#") ⟨#[c]⟩ 0 (Str.ofString "#").length 1).isEmpty = true := by
  refine occ_none ?_
  have : (Str.ofString "#") = ⟨#[35]⟩ := by decide +kernel
  rw [this]
  unfold isW at h
  simp only [List.mem_cons, List.not_mem_nil, or_false]
  omega
theorem w_qu {c : Nat} (h : isW c) : (Builtin.Str.occurrences (Str.ofString "'\"") ⟨#[c]⟩ 0 (Str.ofString "'\"").length 1).isEmpty = true := by
  refine occ_none ?_
  have : (Str.ofString "'\"") = ⟨#[39, 34]⟩ := by decide +kernel
  rw [this]
  unfold isW at h
  simp only [List.mem_cons, List.not_mem_nil, or_false]
  omega
theorem w_es {c : Nat} (h : isW c) : (Builtin.Str.occurrences (Str.ofString "\\") ⟨#[c]⟩ 0 (Str.ofString "\\").length 1).isEmpty = true := by
  refine occ_none ?_
  have : (Str.ofString "\\") = ⟨#[92]⟩ := by decide +kernel
  rw [this]
  unfold isW at h
  simp only [List.mem_cons, List.not_mem_nil, or_false]
  omega
theorem w_pc {c : Nat} : (Builtin.Str.occurrences (Str.ofString "") ⟨#[c]⟩ 0 (Str.ofString "").length 1).isEmpty = true := by
  refine occ_none ?_
  have : (Str.ofString "") = ⟨#[]⟩ := by decide +kernel
  rw [this]
  simp
theorem w_len (c : Nat) : ((⟨#[c]⟩ : Str).length : Int) = 1 := rfl
theorem a_qu : (Builtin.Str.occurrences (Str.ofString "'\"") (Str.ofString "a") 0 (Str.ofString "'\"").length 1).isEmpty = true := by decide +kernel
theorem a_es : (Builtin.Str.occurrences (Str.ofString "\\") (Str.ofString "a") 0 (Str.ofString "\\").length 1).isEmpty = true := by decide +kernel
theorem sp_ne : ((⟨#[32]⟩ : Str) == Str.ofString "\n") = false := by decide +kernel
theorem sp_ws : (Builtin.Str.occurrences (Str.ofString " \t\r\n") ⟨#[32]⟩ 0 (Str.ofString " \t\r\n").length 1).isEmpty = false := by decide +kernel
theorem hs_ne : ((⟨#[35]⟩ : Str) == Str.ofString "\n") = false := by decide +kernel
theorem hs_ws : (Builtin.Str.occurrences (Str.ofString " \t\r\n") ⟨#[35]⟩ 0 (Str.ofString " \t\r\n").length 1).isEmpty = true := by decide +kernel
theorem hs_cm : (Builtin.Str.occurrences (Str.ofString "#") ⟨#[35]⟩ 0 (Str.ofString "#").length 1).isEmpty = false := by decide +kernel
theorem em_ne : (Str.ofString "" == Str.ofString "\n") = false := by decide +kernel
theorem drop_head {buf : Str} {pos c : Nat} {r : List Nat} (h : c :: r = buf.cps.toList.drop pos) : buf.cps[pos]? = some c ∧ pos < buf.length ∧ r = buf.cps.toList.drop (pos + 1) := by
  have h1 : buf.cps.toList[pos]? = some c := by
    rw [← List.head?_drop, ← h]; rfl
  have h2 : buf.cps[pos]? = some c := by rw [← Array.getElem?_toList]; exact h1
  refine ⟨h2, (Array.getElem?_eq_some_iff.mp h2).1, ?_⟩
  have : (buf.cps.toList.drop pos).tail = buf.cps.toList.drop (pos + 1) := by rw [List.tail_drop]
  rw [← this, ← h]; rfl
theorem drop_nl {buf : Str} : ∀ {c : List Nat} {pos : Nat} {r : List Nat} (h : c ++ 10 :: r = buf.cps.toList.drop pos) (hn : 10 ∉ c), buf.cps[pos + c.length]? = some 10 ∧ pos + c.length < buf.length ∧ (∀ q, pos ≤ q → q < pos + c.length → buf.cps[q]? ≠ some 10) ∧ r = buf.cps.toList.drop (pos + c.length + 1)
  | [], pos, r, h, _ => by
    obtain ⟨a, b, d⟩ := drop_head h
    exact ⟨a, b, fun q h1 h2 => absurd h2 (by simp only [List.length_nil]; omega), d⟩
  | x :: c, pos, r, h, hn => by
    obtain ⟨a, b, d⟩ := drop_head (r := c ++ 10 :: r) h
    obtain ⟨e1, e2, e3, e4⟩ := drop_nl d (fun q => hn (.tail _ q))
    have hl : pos + (x :: c).length = pos + 1 + c.length := by simp only [List.length_cons]; omega
    rw [hl]
    refine ⟨e1, e2, fun q h1 h2 => ?_, e4⟩
    by_cases hq : q = pos
    · subst hq
      rw [a]
      intro z
      exact hn (by have := Option.some.inj z; subst this; exact .head _)
    · exact e3 q (by omega) h2
theorem nt {b : Bool} (h : b = true) : (!b) = false := by rw [h]; rfl
theorem nf {b : Bool} (h : b = false) : (!b) = true := by rw [h]; rfl
theorem spx_ws : (Builtin.Str.occurrences (Str.ofString " \t\r\n") (Str.ofString " ") 0 (Str.ofString " \t\r\n").length 1).isEmpty = false := by decide +kernel
theorem hsx_ws : (Builtin.Str.occurrences (Str.ofString " \t\r\n") (Str.ofString "#") 0 (Str.ofString " \t\r\n").length 1).isEmpty = true := by decide +kernel
theorem hsx_cm : (Builtin.Str.occurrences (Str.ofString "#") (Str.ofString "#") 0 (Str.ofString "#").length 1).isEmpty = false := by decide +kernel
theorem w_len0 (c : Nat) : (((⟨#[c]⟩ : Str).length : Int) != 0) = true := by show (((1 : Nat) : Int) != 0) = true; decide
theorem t_len0 {t : Str} (h : 0 < t.length) : ((t.length : Int) != 0) = true := by simp; omega
section
variable {prog : Program} {w : World} {A : Around} {E : Value → Shared → Prop} {s : Shared} {x : Str} {t u : Tok}
theorem truthy_yes {Q : Bool → Shared → Prop} (h : 0 < x.length) (hs : x.length < 10000) (hq : Q true { s with toks := s.toks + 1 + 1 }) : wpAny (model prog w) A (PySem.truthy (.str x t)) Q E s :=
  SBL.truthy (by omega) (by rw [t_len0 h]; exact hq)
theorem iadd1 {c : Nat} {Q : Value → Shared → Prop} (h : x.length < 10000) (hq : ∀ t' k, Q (.str (x ++ ⟨#[c]⟩) t') { s with toks := k }) : wpAny (model prog w) A (inplaceOp .Add (.str x t) (.str ⟨#[c]⟩ u)) Q E s :=
  SBL.iadd (fun t' k _ => hq t' k) (by rw [show (⟨#[c]⟩ : Str).length = 1 from rfl]; have : (10000 : Nat) ≤ sizeLine := by decide
                                       omega)
end
theorem w_len1 (c : Nat) : 0 < (⟨#[c]⟩ : Str).length := Nat.one_pos
theorem w_len2 (c : Nat) : (⟨#[c]⟩ : Str).length < 10000 := by show 1 < 10000; decide
theorem app1_list (t : Str) (c : Nat) : (t ++ ⟨#[c]⟩ : Str).cps.toList = t.cps.toList ++ [c] := by
  show (t.cps ++ #[c]).toList = _
  simp
theorem app1_len (t : Str) (c : Nat) : (t ++ ⟨#[c]⟩ : Str).length = t.length + 1 := by
  show (t.cps ++ #[c]).size = _
  simp [Str.length]
theorem ne_empty {t : Str} (h : 0 < t.length) : (t == Str.ofString "") = false := by
  apply beq_eq_false_iff_ne.mpr
  rintro rfl
  exact absurd h (by decide +kernel)
theorem drop_nil {buf : Str} {pos : Nat} (h : [] = buf.cps.toList.drop pos) : buf.length ≤ pos := by
  have := congrArg List.length h
  simp at this
  show buf.cps.size ≤ pos
  omega
theorem News.tl {h₀ h : Heap} {L : Addr} {x : Addr × Obj} {l : List (Addr × Obj)} (N : News h₀ L h (x :: l)) : News h₀ L h l := fun p hp => N p (.tail _ hp)
end



section
theorem fill : PySem.Challenge.rw_nq0213_01.prog = PySem.Challenge.rw_nq0213_01.prog ∧ heap = heap := by
  k_fill
  exact ⟨rfl, rfl⟩
set_option maxHeartbeats 8000000 in
theorem index_ok : ∀ (w : World) (mean : ExcName → Option Value) (mg mb : Str → Option Value) (dp un : Nat) (gd : Option (List Code)) (cn : Str) (cs : Scope) (a : Addr) (ccd : Value) (cl : List (Str × Addr)) (outer : List Env) (A₀ : Around) (base h₀ : Heap) (L : Addr) (m : Str → Option Value) (s : Shared) (Q E : Value → Shared → Prop) (news : List (Addr × Obj)) (n : Int) (t : Tok) (v2 : Value)
    (B : Below A₀ base outer h₀) (F : Fr h₀ L s.heap m) (X : (heap w.params).In h₀) (T : Top VW LO mean mg mb h₀) (hk : cs.kind = .function) (N : News h₀ L s.heap news) (hd : dp + 4 < recursionLimit) (hu : un + 32 < cLine) (hn : -1 ≤ n) (hn2 : n ≤ 1)
    (hret : ∀ (t : Tok) (h' : Heap) (tk' : Nat), Fr h₀ L h' m → News h₀ L h' news → Q (.int n t) { s with heap := h', toks := tk' }),
    wpAny (model PySem.Challenge.rw_nq0213_01.prog w) (ktrTop dp un gd cn cs L a ccd cl outer) (call (.ref 70) [.int n t, v2]) Q E s := by
  intro w mean mg mb dp un gd cn cs a ccd cl outer A₀ base h₀ L m s Q E news n t v2 B F X T hk N hd hu hn hn2 hret
  refine wpAny_call ?_
  k_dflt k_enter
  repeat' (first | (k_unfold; (try dsimp only)) | (k_end; wrow_close) | (with_reducible ((with_reducible show wpAny _ _ (inplaceOp Operator.Add (Value.str _ _) (Value.str (Str.mk #[_]) _)) _ _ _); refine iadd1 (by with_reducible assumption) ?_; intro _ _)) | (with_reducible ((with_reducible show wpAny _ _ (PySem.truthy (Value.str _ _)) _ _ _); refine truthy_yes (by with_reducible assumption) (by with_reducible assumption) ?_)) | (with_reducible ((with_reducible show wpAny _ _ (execs _ _) _ _ _); (first | k_gentoks | ((with_reducible refine execs_one ?_); try dsimp only)))) | (with_reducible (with_reducible refine wpAny_If ?_)) | (with_reducible (first | (refine ite_isFalse (by with_reducible assumption) ?_) | (refine ite_pos (by with_reducible assumption) ?_) | (refine ite_neg (by with_reducible assumption) ?_))) | walk1 | (dsimp only; walk1) | (leave1; (try dsimp only)) | fail "no step")
  all_goals exact hret _ _ _ (by k_asm) (by k_asm)

set_option maxHeartbeats 8000000 in
theorem read1_ok : ∀ (w : World) (mean : ExcName → Option Value) (mg mb : Str → Option Value) (dp un : Nat) (gd : Option (List Code)) (cn : Str) (cs : Scope) (a : Addr) (ccd : Value) (cl : List (Str × Addr)) (outer : List Env) (A₀ : Around) (base h₀ : Heap) (L : Addr) (m : Str → Option Value) (s : Shared) (Q E : Value → Shared → Prop) (io dio : Addr) (buf : Str) (t1 t2 t3 k1 k2 k3 : Tok) (e1 e2 e3 : Int) (pos : Nat) (news : List (Addr × Obj)) (t : Tok) (c : Nat)
    (B : Below A₀ base outer h₀) (F : Fr h₀ L s.heap m) (X : (heap w.params).In h₀) (T : Top VW LO mean mg mb h₀) (hk : cs.kind = .function) (N : News h₀ L s.heap ((io, instObj 604 dio) :: (dio, dictOf [⟨e1, .str "_StringIO__newline" k1, .str "\n" t1⟩, ⟨e2, .str "_StringIO__buf" k2, .str buf t2⟩, ⟨e3, .str "_StringIO__pos" k3, .int pos t3⟩] 3) :: news)) (hne : ∀ p ∈ news, p.1 ≠ dio) (hlt : io ≠ dio) (hd : dp + 8 < recursionLimit) (hu : un + 64 < cLine) (hsz : buf.length < 10000)
    (hc : buf.cps[pos]? = some c) (hp : pos < buf.length)
    (hret : ∀ (t t3 : Tok) (h' : Heap) (tk' : Nat), Fr h₀ L h' m → News h₀ L h' ((io, instObj 604 dio) :: (dio, dictOf [⟨e1, .str "_StringIO__newline" k1, .str "\n" t1⟩, ⟨e2, .str "_StringIO__buf" k2, .str buf t2⟩, ⟨e3, .str "_StringIO__pos" k3, .int ((pos + 1 : Nat) : Int) t3⟩] 3) :: news) → Q (.str ⟨#[c]⟩ t) { s with heap := h', toks := tk' }),
    wpAny (model PySem.Challenge.rw_nq0213_01.prog w) (ktrTop dp un gd cn cs L a ccd cl outer) (call (.ref 550) [.ref io, .int 1 t]) Q E s := by
  intro w mean mg mb dp un gd cn cs a ccd cl outer A₀ base h₀ L m s Q E io dio buf t1 t2 t3 k1 k2 k3 e1 e2 e3 pos news t c B F X T hk N hne hlt hd hu hsz hc hp hret
  refine wpAny_call ?_
  k_dflt k_enter
  repeat' (first | (k_unfold; (try dsimp only)) | (k_end; wrow_close) | (with_reducible ((with_reducible show wpAny _ _ (call (Value.ref 70) [Value.int _ _, _]) _ _ _); k_dflt (refine' index_ok _ _ _ _ _ _ _ _ _ _ _ _ _ _ _ _ _ _ _ _ _ _ _ _ _ ?hzk1 ?hzk2 ?hzk3 ?hzk4 ?hzk5 ?hzk6 ?hzk7 ?hzk8 ?hzk9 ?hzkA ?_; (case hzk1 => k_asm); (case hzk2 => k_asm); (case hzk3 => k_asm); (case hzk4 => k_asm); (case hzk5 => first | exact rfl | assumption); (case hzk6 => k_asm); (case hzk7 => ktr_room); (case hzk8 => ktr_units); (case hzk9 => first | decide | omega); (case hzkA => first | decide | omega); k_whole; intro _ _ _ _ _; (try dsimp only); (try k_fold)))) | (with_reducible ((with_reducible show wpAny _ _ (inplaceOp Operator.Add (Value.str _ _) (Value.str (Str.mk #[_]) _)) _ _ _); refine iadd1 (by with_reducible assumption) ?_; intro _ _)) | (with_reducible ((with_reducible show wpAny _ _ (PySem.truthy (Value.str _ _)) _ _ _); refine truthy_yes (by with_reducible assumption) (by with_reducible assumption) ?_)) | (with_reducible ((with_reducible show wpAny _ _ (execs _ _) _ _ _); (first | k_gentoks | ((with_reducible refine execs_one ?_); try dsimp only)))) | (with_reducible (with_reducible refine wpAny_If ?_)) | (with_reducible (first | (refine ite_isFalse (by with_reducible assumption) ?_) | (refine ite_pos (by with_reducible assumption) ?_) | (refine ite_neg (by with_reducible assumption) ?_))) | walk1 | (dsimp only; walk1) | (leave1; (try dsimp only)) | fail "no step")
  · rw [slice_one hc]
    exact hret _ _ _ _ (by k_asm) (by k_asm)
  · rw [slice_last hc (by omega)]
    have e : ((pos + 1 : Nat) : Int) = (buf.length : Int) := by omega
    rw [e] at hret
    exact hret _ _ _ _ (by k_asm) (by k_asm)
set_option maxHeartbeats 8000000 in
theorem read0_ok : ∀ (w : World) (mean : ExcName → Option Value) (mg mb : Str → Option Value) (dp un : Nat) (gd : Option (List Code)) (cn : Str) (cs : Scope) (a : Addr) (ccd : Value) (cl : List (Str × Addr)) (outer : List Env) (A₀ : Around) (base h₀ : Heap) (L : Addr) (m : Str → Option Value) (s : Shared) (Q E : Value → Shared → Prop) (io dio : Addr) (buf : Str) (t1 t2 t3 k1 k2 k3 : Tok) (e1 e2 e3 : Int) (pos : Nat) (news : List (Addr × Obj)) (t : Tok)
    (B : Below A₀ base outer h₀) (F : Fr h₀ L s.heap m) (X : (heap w.params).In h₀) (T : Top VW LO mean mg mb h₀) (hk : cs.kind = .function) (N : News h₀ L s.heap ((io, instObj 604 dio) :: (dio, dictOf [⟨e1, .str "_StringIO__newline" k1, .str "\n" t1⟩, ⟨e2, .str "_StringIO__buf" k2, .str buf t2⟩, ⟨e3, .str "_StringIO__pos" k3, .int pos t3⟩] 3) :: news)) (hne : ∀ p ∈ news, p.1 ≠ dio) (hlt : io ≠ dio) (hd : dp + 8 < recursionLimit) (hu : un + 64 < cLine) (hsz : buf.length < 10000)
    (hp : buf.length ≤ pos)
    (hret : ∀ (t : Tok) (h' : Heap) (tk' : Nat), Fr h₀ L h' m → News h₀ L h' ((io, instObj 604 dio) :: (dio, dictOf [⟨e1, .str "_StringIO__newline" k1, .str "\n" t1⟩, ⟨e2, .str "_StringIO__buf" k2, .str buf t2⟩, ⟨e3, .str "_StringIO__pos" k3, .int pos t3⟩] 3) :: news) → Q (.str "" t) { s with heap := h', toks := tk' }),
    wpAny (model PySem.Challenge.rw_nq0213_01.prog w) (ktrTop dp un gd cn cs L a ccd cl outer) (call (.ref 550) [.ref io, .int 1 t]) Q E s := by
  intro w mean mg mb dp un gd cn cs a ccd cl outer A₀ base h₀ L m s Q E io dio buf t1 t2 t3 k1 k2 k3 e1 e2 e3 pos news t B F X T hk N hne hlt hd hu hsz hp hret
  refine wpAny_call ?_
  k_dflt k_enter
  repeat' (first | (k_unfold; (try dsimp only)) | (k_end; wrow_close) | (with_reducible ((with_reducible show wpAny _ _ (call (Value.ref 70) [Value.int _ _, _]) _ _ _); k_dflt (refine' index_ok _ _ _ _ _ _ _ _ _ _ _ _ _ _ _ _ _ _ _ _ _ _ _ _ _ ?hzk1 ?hzk2 ?hzk3 ?hzk4 ?hzk5 ?hzk6 ?hzk7 ?hzk8 ?hzk9 ?hzkA ?_; (case hzk1 => k_asm); (case hzk2 => k_asm); (case hzk3 => k_asm); (case hzk4 => k_asm); (case hzk5 => first | exact rfl | assumption); (case hzk6 => k_asm); (case hzk7 => ktr_room); (case hzk8 => ktr_units); (case hzk9 => first | decide | omega); (case hzkA => first | decide | omega); k_whole; intro _ _ _ _ _; (try dsimp only); (try k_fold)))) | (with_reducible ((with_reducible show wpAny _ _ (inplaceOp Operator.Add (Value.str _ _) (Value.str (Str.mk #[_]) _)) _ _ _); refine iadd1 (by with_reducible assumption) ?_; intro _ _)) | (with_reducible ((with_reducible show wpAny _ _ (PySem.truthy (Value.str _ _)) _ _ _); refine truthy_yes (by with_reducible assumption) (by with_reducible assumption) ?_)) | (with_reducible ((with_reducible show wpAny _ _ (execs _ _) _ _ _); (first | k_gentoks | ((with_reducible refine execs_one ?_); try dsimp only)))) | (with_reducible (with_reducible refine wpAny_If ?_)) | (with_reducible (first | (refine ite_isFalse (by with_reducible assumption) ?_) | (refine ite_pos (by with_reducible assumption) ?_) | (refine ite_neg (by with_reducible assumption) ?_))) | walk1 | (dsimp only; walk1) | (leave1; (try dsimp only)) | fail "no step")
  all_goals exact hret _ _ _ (by k_asm) (by k_asm)

set_option maxHeartbeats 8000000 in
theorem readline_ok : ∀ (w : World) (mean : ExcName → Option Value) (mg mb : Str → Option Value) (dp un : Nat) (gd : Option (List Code)) (cn : Str) (cs : Scope) (a : Addr) (ccd : Value) (cl : List (Str × Addr)) (outer : List Env) (A₀ : Around) (base h₀ : Heap) (L : Addr) (m : Str → Option Value) (s : Shared) (Q E : Value → Shared → Prop) (io dio : Addr) (buf : Str) (t1 t2 t3 k1 k2 k3 : Tok) (e1 e2 e3 : Int) (pos : Nat) (news : List (Addr × Obj)) (i : Nat)
    (B : Below A₀ base outer h₀) (F : Fr h₀ L s.heap m) (X : (heap w.params).In h₀) (T : Top VW LO mean mg mb h₀) (hk : cs.kind = .function) (N : News h₀ L s.heap ((io, instObj 604 dio) :: (dio, dictOf [⟨e1, .str "_StringIO__newline" k1, .str "\n" t1⟩, ⟨e2, .str "_StringIO__buf" k2, .str buf t2⟩, ⟨e3, .str "_StringIO__pos" k3, .int pos t3⟩] 3) :: news)) (hne : ∀ p ∈ news, p.1 ≠ dio) (hlt : io ≠ dio) (hd : dp + 8 < recursionLimit) (hu : un + 64 < cLine) (hsz : buf.length < 10000)
    (hp : pos < buf.length) (hi1 : pos ≤ i) (hi2 : i < buf.length) (hi : buf.cps[i]? = some 10) (hno : ∀ q, pos ≤ q → q < i → buf.cps[q]? ≠ some 10)
    (hret : ∀ (v : Str) (t t3 : Tok) (h' : Heap) (tk' : Nat), Fr h₀ L h' m → News h₀ L h' ((io, instObj 604 dio) :: (dio, dictOf [⟨e1, .str "_StringIO__newline" k1, .str "\n" t1⟩, ⟨e2, .str "_StringIO__buf" k2, .str buf t2⟩, ⟨e3, .str "_StringIO__pos" k3, .int ((i + 1 : Nat) : Int) t3⟩] 3) :: news) → Q (.str v t) { s with heap := h', toks := tk' }),
    wpAny (model PySem.Challenge.rw_nq0213_01.prog w) (ktrTop dp un gd cn cs L a ccd cl outer) (call (.ref 558) [.ref io]) Q E s := by
  intro w mean mg mb dp un gd cn cs a ccd cl outer A₀ base h₀ L m s Q E io dio buf t1 t2 t3 k1 k2 k3 e1 e2 e3 pos news i B F X T hk N hne hlt hd hu hsz hp hi1 hi2 hi hno hret
  refine wpAny_call ?_
  k_dflt k_enter
  repeat' (first | (k_unfold; (try dsimp only)) | (k_end; wrow_close) | (with_reducible ((with_reducible show wpAny _ _ (call (Value.builtin "str.find") [Value.str _ _, Value.str _ _, Value.int _ _, Value.int _ _]) _ _ _); k_dflt (refine' find_nl ?hzk1 ?hzk2 ?hzk3 ?_; (case hzk1 => with_reducible assumption); (case hzk2 => with_reducible assumption); (case hzk3 => with_reducible assumption); k_whole))) | (with_reducible ((with_reducible show wpAny _ _ (call (Value.ref 70) [Value.int _ _, _]) _ _ _); k_dflt (refine' index_ok _ _ _ _ _ _ _ _ _ _ _ _ _ _ _ _ _ _ _ _ _ _ _ _ _ ?hzk1 ?hzk2 ?hzk3 ?hzk4 ?hzk5 ?hzk6 ?hzk7 ?hzk8 ?hzk9 ?hzkA ?_; (case hzk1 => k_asm); (case hzk2 => k_asm); (case hzk3 => k_asm); (case hzk4 => k_asm); (case hzk5 => first | exact rfl | assumption); (case hzk6 => k_asm); (case hzk7 => ktr_room); (case hzk8 => ktr_units); (case hzk9 => first | decide | omega); (case hzkA => first | decide | omega); k_whole; intro _ _ _ _ _; (try dsimp only); (try k_fold)))) | (with_reducible ((with_reducible show wpAny _ _ (inplaceOp Operator.Add (Value.str _ _) (Value.str (Str.mk #[_]) _)) _ _ _); refine iadd1 (by with_reducible assumption) ?_; intro _ _)) | (with_reducible ((with_reducible show wpAny _ _ (PySem.truthy (Value.str _ _)) _ _ _); refine truthy_yes (by with_reducible assumption) (by with_reducible assumption) ?_)) | (with_reducible ((with_reducible show wpAny _ _ (execs _ _) _ _ _); (first | k_gentoks | ((with_reducible refine execs_one ?_); try dsimp only)))) | (with_reducible (with_reducible refine wpAny_If ?_)) | (with_reducible (first | (refine ite_isFalse (by with_reducible assumption) ?_) | (refine ite_pos (by with_reducible assumption) ?_) | (refine ite_neg (by with_reducible assumption) ?_))) | walk1 | (dsimp only; walk1) | (leave1; (try dsimp only)) | fail "no step")
  all_goals exact hret _ _ _ _ _ (by k_asm) (by k_asm)
end



section
theorem Fr.re {h₀ h : Heap} {L : Addr} {m m' : Str → Option Value} (F : Fr h₀ L h m) (e : ∀ y, m y = m' y) : Fr h₀ L h m' := by
  have : m = m' := funext e
  exact this ▸ F
noncomputable def locL : List (Str × Value) → Str → Option Value
  | [], _ => none
  | (k, v) :: r, y => if y = k then some v else locL r y
theorem look_chain : ∀ (l : List (Str × Value)) (y : Str), l.lookup y = locL l y
  | [], _ => rfl
  | (k, v) :: r, y => by
    rw [List.lookup_cons, locL]
    by_cases h : y = k
    · subst h; simp
    · have hb : (y == k) = false := by simp [h]
      rw [if_neg h, ← look_chain r y, hb]
noncomputable def Less (I : Nat → Shared → Prop) (n : Nat) (s : Shared) : Prop := ∃ m, m < n ∧ I m s
noncomputable def Held (J : Shared → Prop) (s : Shared) : Prop := J s
theorem while_inv {prog : Program} {w : World} {A : Around} {E : Value → Shared → Prop} {s : Shared} {env : Env} {test : Expr} {body : List Stmt} {pos : Pos} {Q : Flow → Shared → Prop}
    (I : Nat → Shared → Prop) (J : Shared → Prop) (n : Nat) (h : I n s)
    (turn : ∀ n s, I n s → wpAny (model prog w) A (isTrue test env (eval test env)) (fun b s₂ => if b = true then wpAny (model prog w) A (execs body env) (fun f s₃ => match f with
      | .next => Less I n s₃ | .cont => Less I n s₃ | .brk => Held J s₃ | .ret _ => False) (fun _ _ => False) s₂ else False) (fun _ _ => False) s)
    (post : ∀ s', J s' → Q .next s') : wpAny (model prog w) A (exec (.While test body [] pos) env) Q E s := by
  refine wpAny_noRaise (wpAny_While ?_)
  refine codeAny_whileLoop I (fun n s hI => ?_) n h
  refine wpAny_mono (turn n s hI) (fun b s₂ hb => ?_) (fun _ _ x => x.elim)
  cases b with
  | false => exact hb.elim
  | true =>
    refine wpAny_mono hb (fun f s₃ hf => ?_) (fun _ _ x => x.elim)
    cases f with
    | next => exact hf
    | cont => exact hf
    | brk => exact post _ hf
    | ret v => exact hf.elim
theorem turn_q {M : Model} {A : Around} {test : Expr} {env : Env} {body : List Stmt} {LI HJ : Shared → Prop} {s : Shared}
    (h : ∀ QQ : Flow → Shared → Prop, (∀ s', LI s' → QQ .next s') → (∀ s', LI s' → QQ .cont s') → (∀ s', HJ s' → QQ .brk s') → wpAny M A (isTrue test env (eval test env)) (fun b s₂ => if b = true then wpAny M A (execs body env) QQ (fun _ _ => False) s₂ else False) (fun _ _ => False) s) :
    wpAny M A (isTrue test env (eval test env)) (fun b s₂ => if b = true then wpAny M A (execs body env) (fun f s₃ => match f with
      | .next => LI s₃ | .cont => LI s₃ | .brk => HJ s₃ | .ret _ => False) (fun _ _ => False) s₂ else False) (fun _ _ => False) s :=
  h _ (fun _ x => x) (fun _ x => x) (fun _ x => x)
theorem held {J : Shared → Prop} {s : Shared} (h : J s) : Held J s := h
theorem less {I : Nat → Shared → Prop} {n : Nat} {s : Shared} (m : Nat) (hm : m < n) (h : I m s) : Less I n s := ⟨m, hm, h⟩
theorem loc_upd {x : Str} {v : Value} {ov : Option Value} {f : Str → Option Value} (y : Str) : (if y = x then some v else if y = x then ov else f y) = (if y = x then some v else f y) := by
  by_cases h : y = x
  · rw [if_pos h, if_pos h]
  · rw [if_neg h, if_neg h, if_neg h]
inductive TokA : List Nat → List Nat → List Nat → Prop
  | blank (r) : TokA (32 :: r) [] r
  | note (c r) : 10 ∉ c → TokA (35 :: (c ++ 10 :: r)) [] r
  | more (c r w r') : isW c → TokA r w r' → TokA (c :: r) (c :: w) r'
inductive TokS : List Nat → Option (List Nat) → List Nat → Prop
  | eof : TokS [] none []
  | blank (r o r') : TokS r o r' → TokS (32 :: r) o r'
  | note (c r o r') : 10 ∉ c → TokS r o r' → TokS (35 :: (c ++ 10 :: r)) o r'
  | word (c r w r') : isW c → TokA r w r' → TokS (c :: r) (some (c :: w)) r'

noncomputable def lexE (H : Nat → Int) (T' V : Nat → Tok) (io pb fs : Addr) (wc : Str) (st ln tk : Value) : List DictEntry := [⟨H 0, .str "instream" (T' 0), .ref io⟩, ⟨H 1, .str "infile" (T' 1), .none⟩, ⟨H 2, .str "posix" (T' 2), .bool true⟩, ⟨H 3, .str "eof" (T' 3), .none⟩, ⟨H 4, .str "commenters" (T' 4), .str "#" (V 4)⟩, ⟨H 5, .str "wordchars" (T' 5), .str wc (V 5)⟩, ⟨H 6, .str "whitespace" (T' 6), .str " \t\r\n" (V 6)⟩, ⟨H 7, .str "whitespace_split" (T' 7), .bool true⟩, ⟨H 8, .str "quotes" (T' 8), .str "'\"" (V 8)⟩, ⟨H 9, .str "escape" (T' 9), .str "\\" (V 9)⟩, ⟨H 10, .str "escapedquotes" (T' 10), .str "\"" (V 10)⟩, ⟨H 11, .str "state" (T' 11), st⟩, ⟨H 12, .str "pushback" (T' 12), .ref pb⟩, ⟨H 13, .str "lineno" (T' 13), ln⟩, ⟨H 14, .str "debug" (T' 14), .int 0 (V 14)⟩, ⟨H 15, .str "token" (T' 15), tk⟩, ⟨H 16, .str "filestack" (T' 16), .ref fs⟩, ⟨H 17, .str "source" (T' 17), .none⟩, ⟨H 18, .str "_punctuation_chars" (T' 18), .str "" (V 18)⟩]
theorem lexE_state {H : Nat → Int} {T' V : Nat → Tok} {io pb fs : Addr} {wc : Str} {st ln tk v key : Value} {hsh : Int} : (putL "state" hsh key v (lexE H T' V io pb fs wc st ln tk), putN "state" (lexE H T' V io pb fs wc st ln tk) 19) = (lexE H T' V io pb fs wc v ln tk, 19) := rfl
theorem lexE_lineno {H : Nat → Int} {T' V : Nat → Tok} {io pb fs : Addr} {wc : Str} {st ln tk v key : Value} {hsh : Int} : (putL "lineno" hsh key v (lexE H T' V io pb fs wc st ln tk), putN "lineno" (lexE H T' V io pb fs wc st ln tk) 19) = (lexE H T' V io pb fs wc st v tk, 19) := rfl
theorem lexE_token {H : Nat → Int} {T' V : Nat → Tok} {io pb fs : Addr} {wc : Str} {st ln tk v key : Value} {hsh : Int} : (putL "token" hsh key v (lexE H T' V io pb fs wc st ln tk), putN "token" (lexE H T' V io pb fs wc st ln tk) 19) = (lexE H T' V io pb fs wc st ln v, 19) := rfl
local macro_rules | `(tactic| k_put) => `(tactic| first | exact lexE_state | exact lexE_lineno | exact lexE_token)
inductive RtI (s : Shared) (g1 : Heap) (L1 lx io dio dlx pb fs : Addr) (buf wc : Str) (t1 t2 k1 k2 k3 : Tok) (e1 e2 e3 : Int) (H : Nat → Int) (T' V : Nat → Tok) (news : List (Addr × Obj)) (o : Option (List Nat)) (r' : List Nat) : Nat → Shared → Prop
  | tok {h' : Heap} {tk' : Nat} {ov : Option Value} {te ts tl' tt t3' : Tok} {pos' : Nat} {ln' : Int} {rem : List Nat} {tok : Str} {w : List Nat} : Fr g1 L1 h' (fun y => if y = "nextchar" then ov else if y = "escapedstate" then some (.str " " te) else if y = "quoted" then some (.bool false) else if y = "self" then some (.ref lx) else none) → rem = buf.cps.toList.drop pos' → 0 < tok.length → tok.length ≤ pos' → News g1 L1 h' ((io, instObj 604 dio) :: (dio, dictOf [⟨e1, .str "_StringIO__newline" k1, .str "\n" t1⟩, ⟨e2, .str "_StringIO__buf" k2, .str buf t2⟩, ⟨e3, .str "_StringIO__pos" k3, .int pos' t3'⟩] 3) :: (lx, instObj 739 dlx) :: (dlx, dictOf (lexE H T' V io pb fs wc (.str "a" ts) (.int ln' tl') (.str tok tt)) 19) :: news) → TokA rem w r' → o = some (tok.cps.toList ++ w) → RtI s g1 L1 lx io dio dlx pb fs buf wc t1 t2 k1 k2 k3 e1 e2 e3 H T' V news o r' rem.length { s with heap := h', toks := tk' }
  | spc {h' : Heap} {tk' : Nat} {ov : Option Value} {te ts tl' tt t3' : Tok} {pos' : Nat} {ln' : Int} {rem : List Nat} : Fr g1 L1 h' (fun y => if y = "nextchar" then ov else if y = "escapedstate" then some (.str " " te) else if y = "quoted" then some (.bool false) else if y = "self" then some (.ref lx) else none) → rem = buf.cps.toList.drop pos' → News g1 L1 h' ((io, instObj 604 dio) :: (dio, dictOf [⟨e1, .str "_StringIO__newline" k1, .str "\n" t1⟩, ⟨e2, .str "_StringIO__buf" k2, .str buf t2⟩, ⟨e3, .str "_StringIO__pos" k3, .int pos' t3'⟩] 3) :: (lx, instObj 739 dlx) :: (dlx, dictOf (lexE H T' V io pb fs wc (.str " " ts) (.int ln' tl') (.str "" tt)) 19) :: news) → TokS rem o r' → RtI s g1 L1 lx io dio dlx pb fs buf wc t1 t2 k1 k2 k3 e1 e2 e3 H T' V news o r' rem.length { s with heap := h', toks := tk' }
inductive RtJ (s : Shared) (g1 : Heap) (L1 lx io dio dlx pb fs : Addr) (buf wc : Str) (t1 t2 k1 k2 k3 : Tok) (e1 e2 e3 : Int) (H : Nat → Int) (T' V : Nat → Tok) (news : List (Addr × Obj)) (o : Option (List Nat)) (r' : List Nat) : Shared → Prop
  | tok {h' : Heap} {tk' : Nat} {ov : Option Value} {te ts tl' tt t3' : Tok} {pos' : Nat} {ln' : Int} {tok : Str} : Fr g1 L1 h' (fun y => if y = "nextchar" then ov else if y = "escapedstate" then some (.str " " te) else if y = "quoted" then some (.bool false) else if y = "self" then some (.ref lx) else none) → r' = buf.cps.toList.drop pos' → 0 < tok.length → News g1 L1 h' ((io, instObj 604 dio) :: (dio, dictOf [⟨e1, .str "_StringIO__newline" k1, .str "\n" t1⟩, ⟨e2, .str "_StringIO__buf" k2, .str buf t2⟩, ⟨e3, .str "_StringIO__pos" k3, .int pos' t3'⟩] 3) :: (lx, instObj 739 dlx) :: (dlx, dictOf (lexE H T' V io pb fs wc (.str " " ts) (.int ln' tl') (.str tok tt)) 19) :: news) → o = some tok.cps.toList → RtJ s g1 L1 lx io dio dlx pb fs buf wc t1 t2 k1 k2 k3 e1 e2 e3 H T' V news o r' { s with heap := h', toks := tk' }
  | non {h' : Heap} {tk' : Nat} {ov : Option Value} {te ts tl' tt t3' : Tok} {pos' : Nat} {ln' : Int} : Fr g1 L1 h' (fun y => if y = "nextchar" then ov else if y = "escapedstate" then some (.str " " te) else if y = "quoted" then some (.bool false) else if y = "self" then some (.ref lx) else none) → r' = buf.cps.toList.drop pos' → News g1 L1 h' ((io, instObj 604 dio) :: (dio, dictOf [⟨e1, .str "_StringIO__newline" k1, .str "\n" t1⟩, ⟨e2, .str "_StringIO__buf" k2, .str buf t2⟩, ⟨e3, .str "_StringIO__pos" k3, .int pos' t3'⟩] 3) :: (lx, instObj 739 dlx) :: (dlx, dictOf (lexE H T' V io pb fs wc (.none) (.int ln' tl') (.str "" tt)) 19) :: news) → o = none → RtJ s g1 L1 lx io dio dlx pb fs buf wc t1 t2 k1 k2 k3 e1 e2 e3 H T' V news o r' { s with heap := h', toks := tk' }
set_option maxHeartbeats 8000000 in
theorem read_token_ok : ∀ (w : World) (mean : ExcName → Option Value) (mg mb : Str → Option Value) (dp un : Nat) (gd : Option (List Code)) (cn : Str) (cs : Scope) (a : Addr) (ccd : Value) (cl : List (Str × Addr)) (outer : List Env) (A₀ : Around) (base h₀ : Heap) (L : Addr) (m : Str → Option Value) (s : Shared) (Q E : Value → Shared → Prop) (io dio : Addr) (buf : Str) (t1 t2 t3 k1 k2 k3 : Tok) (e1 e2 e3 : Int) (pos : Nat) (news : List (Addr × Obj)) (lx dlx pb fs : Addr) (wc : Str) (H : Nat → Int) (T' V : Nat → Tok) (tl tt ts : Tok) (ln : Int) (o : Option (List Nat)) (r' : List Nat)
    (B : Below A₀ base outer h₀) (F : Fr h₀ L s.heap m) (X : (heap w.params).In h₀) (T : Top VW LO mean mg mb h₀) (hk : cs.kind = .function) (N : News h₀ L s.heap ((io, instObj 604 dio) :: (dio, dictOf [⟨e1, .str "_StringIO__newline" k1, .str "\n" t1⟩, ⟨e2, .str "_StringIO__buf" k2, .str buf t2⟩, ⟨e3, .str "_StringIO__pos" k3, .int pos t3⟩] 3) :: (lx, instObj 739 dlx) :: (dlx, dictOf (lexE H T' V io pb fs wc (.str " " ts) (.int ln tl) (.str "" tt)) 19) :: news)) (hne : ∀ p ∈ news, p.1 ≠ dio) (hne2 : ∀ p ∈ news, p.1 ≠ dlx) (n1 : io ≠ dlx) (n2 : dio ≠ dlx) (n3 : lx ≠ dlx) (n4 : lx ≠ dio) (n5 : dlx ≠ dio) (n6 : io ≠ dio) (hd : dp + 16 < recursionLimit) (hu : un + 128 < cLine) (hsz : buf.length < 10000)
    (ht : TokS (buf.cps.toList.drop pos) o r')
    (hret1 : ∀ (tok : Str) (t ts tl tt t3 : Tok) (pos' : Nat) (ln' : Int) (h' : Heap) (tk' : Nat), o = some tok.cps.toList → 0 < tok.length → r' = buf.cps.toList.drop pos' → Fr h₀ L h' m → News h₀ L h' ((io, instObj 604 dio) :: (dio, dictOf [⟨e1, .str "_StringIO__newline" k1, .str "\n" t1⟩, ⟨e2, .str "_StringIO__buf" k2, .str buf t2⟩, ⟨e3, .str "_StringIO__pos" k3, .int pos' t3⟩] 3) :: (lx, instObj 739 dlx) :: (dlx, dictOf (lexE H T' V io pb fs wc (.str " " ts) (.int ln' tl) (.str "" tt)) 19) :: news) → Q (.str tok t) { s with heap := h', toks := tk' })
    (hret2 : ∀ (tl tt t3 : Tok) (pos' : Nat) (ln' : Int) (h' : Heap) (tk' : Nat), o = none → r' = buf.cps.toList.drop pos' → Fr h₀ L h' m → News h₀ L h' ((io, instObj 604 dio) :: (dio, dictOf [⟨e1, .str "_StringIO__newline" k1, .str "\n" t1⟩, ⟨e2, .str "_StringIO__buf" k2, .str buf t2⟩, ⟨e3, .str "_StringIO__pos" k3, .int pos' t3⟩] 3) :: (lx, instObj 739 dlx) :: (dlx, dictOf (lexE H T' V io pb fs wc (.none) (.int ln' tl) (.str "" tt)) 19) :: news) → Q .none { s with heap := h', toks := tk' }),
    wpAny (model PySem.Challenge.rw_nq0213_01.prog w) (ktrTop dp un gd cn cs L a ccd cl outer) (call (.ref 707) [.ref lx]) Q E s := by
  intro w mean mg mb dp un gd cn cs a ccd cl outer A₀ base h₀ L m s Q E io dio buf t1 t2 t3 k1 k2 k3 e1 e2 e3 pos news lx dlx pb fs wc H T' V tl tt ts ln o r' B F X T hk N hne hne2 n1 n2 n3 n4 n5 n6 hd hu hsz ht hret1 hret2
  refine wpAny_call ?_
  k_dflt (refine' code_def ?k1 ?k2 ?k3 ?k4 ?k5 ?kA ?kF ?kK ?k6 ?k7 ?k8 ?k9 ?kB ?_ ?c2 ?c3 ?c4 ?c5; (case kA => exact rfl); (case kF => exact rfl); (case kK => first | exact rfl | assumption); (case k1 => k_asm); (case k2 => k_asm); (case k3 => k_asm); (case k4 => k_asm); (case k5 => k_asm); (case k6 => k_is); (case k7 => k_is); (case k8 => ktr_room); (case k9 => first | exact BindsTo.of_eq rfl | exact binds_K (by k_in) rfl (by k_is) rfl rfl rfl); (case c5 => decide); (case kB => exact locs rfl); (case c2 => exact rfl); (case c3 => exact rfl); (case c4 => exact rfl); k_whole)
  intro g1 L1 hp1 FG1 F1 N1 B1 X1 T1
  (try dsimp only)
  (try k_lift B1)
  replace F1 := Fr.re (m' := fun y => if y = "self" then some (.ref lx) else none) F1 (fun y => look_chain [(("self" : Str), (.ref lx : Value))] y)
  (try k_fold)
  repeat' ((fail_if_success (with_reducible show wpAny _ _ (exec (Stmt.While _ _ _ _) _) _ _ _)); first | (k_unfold; (try dsimp only)) | (k_end; wrow_close) | ((with_reducible show wpAny _ _ _ _ _ (Shared.mk (Shared.heap _) _ _ _ _)); dsimp only) | (with_reducible ((with_reducible show wpAny _ _ (call (Value.ref 558) _) _ _ _); k_dflt (refine' readline_ok _ _ _ _ _ _ _ _ _ _ _ _ _ _ _ _ _ _ _ _ _ _ _ _ _ _ _ _ _ _ _ _ _ _ _ _ ?hzk1 ?hzk2 ?hzk3 ?hzk4 ?hzk5 ?hzk6 ?hzk7 ?hzk8 ?hzk9 ?hzkA ?hzkB ?hzkC ?hzkD ?hzkE ?hzkF ?hzkG ?_; (case hzk1 => k_asm); (case hzk2 => k_asm); (case hzk3 => k_asm); (case hzk4 => k_asm); (case hzk5 => first | exact rfl | assumption); (case hzk6 => first | k_asm | exact News.tl (by k_asm)); (case hzk7 => k_all); (case hzk8 => with_reducible assumption); (case hzk9 => ktr_room); (case hzkA => ktr_units); (case hzkB => with_reducible assumption); (case hzkC => with_reducible assumption); (case hzkD => with_reducible assumption); (case hzkE => with_reducible assumption); (case hzkF => with_reducible assumption); (case hzkG => with_reducible assumption); k_whole; intro _ _ _ _ _ _ _; (try dsimp only); (try k_fold)))) | (with_reducible ((with_reducible show wpAny _ _ (call (Value.ref 550) [Value.ref _, Value.int _ _]) _ _ _); k_dflt (first | (refine' read1_ok _ _ _ _ _ _ _ _ _ _ _ _ _ _ _ _ _ _ _ _ _ _ _ _ _ _ _ _ _ _ _ _ _ _ _ _ _ ?hzk1 ?hzk2 ?hzk3 ?hzk4 ?hzk5 ?hzk6 ?hzk7 ?hzk8 ?hzk9 ?hzkA ?hzkB ?hzkC ?hzkD ?_; (case hzk1 => k_asm); (case hzk2 => k_asm); (case hzk3 => k_asm); (case hzk4 => k_asm); (case hzk5 => first | exact rfl | assumption); (case hzk6 => k_asm); (case hzk7 => k_all); (case hzk8 => with_reducible assumption); (case hzk9 => ktr_room); (case hzkA => ktr_units); (case hzkB => with_reducible assumption); (case hzkC => with_reducible assumption); (case hzkD => with_reducible assumption); k_whole; intro t9 _ h9 tk9 F9 N9; (try dsimp only); (try k_fold)) | (refine' read0_ok _ _ _ _ _ _ _ _ _ _ _ _ _ _ _ _ _ _ _ _ _ _ _ _ _ _ _ _ _ _ _ _ _ _ _ _ ?hzk1 ?hzk2 ?hzk3 ?hzk4 ?hzk5 ?hzk6 ?hzk7 ?hzk8 ?hzk9 ?hzkA ?hzkB ?hzkC ?_; (case hzk1 => k_asm); (case hzk2 => k_asm); (case hzk3 => k_asm); (case hzk4 => k_asm); (case hzk5 => first | exact rfl | assumption); (case hzk6 => k_asm); (case hzk7 => k_all); (case hzk8 => with_reducible assumption); (case hzk9 => ktr_room); (case hzkA => ktr_units); (case hzkB => with_reducible assumption); (case hzkC => with_reducible assumption); k_whole; intro t9 h9 tk9 F9 N9; (try dsimp only); (try k_fold))))) | (with_reducible ((with_reducible show wpAny _ _ (inplaceOp Operator.Add (Value.str _ _) (Value.str (Str.mk #[_]) _)) _ _ _); refine iadd1 (by with_reducible assumption) ?_; intro _ _)) | (with_reducible ((with_reducible show wpAny _ _ (PySem.truthy (Value.str _ _)) _ _ _); refine truthy_yes (by with_reducible assumption) (by with_reducible assumption) ?_)) | (with_reducible ((with_reducible show wpAny _ _ (execs _ _) _ _ _); (first | k_gentoks | ((with_reducible refine execs_one ?_); try dsimp only)))) | (with_reducible (with_reducible refine wpAny_If ?_)) | (with_reducible (first | (refine ite_isFalse (by with_reducible assumption) ?_) | (refine ite_pos (by with_reducible assumption) ?_) | (refine ite_neg (by with_reducible assumption) ?_))) | walk1 | (dsimp only; walk1) | (leave1; (try dsimp only)) | fail "no step")
  rename Fr g1 L1 _ _ => F2
  rename News g1 L1 _ _ => N2
  refine while_inv (RtI s g1 L1 lx io dio dlx pb fs buf wc t1 t2 k1 k2 k3 e1 e2 e3 H T' V news o r') (RtJ s g1 L1 lx io dio dlx pb fs buf wc t1 t2 k1 k2 k3 e1 e2 e3 H T' V news o r') (buf.cps.toList.drop pos).length ?hinit ?turn ?post
  case hinit => exact .spc (ov := none) (pos' := pos) (Fr.re F2 (fun y => by
    by_cases h1 : y = "nextchar"
    · subst h1; rfl
    · rw [if_neg h1])) rfl N2 ht
  case post =>
    rintro s2 (@⟨h', tk', ov, te, ts, tl', tt, t3', pos', ln', tok, F3, hr', htl, N3, ho⟩ | @⟨h', tk', ov, te, ts, tl', tt, t3', pos', ln', F3, hr', N3, ho⟩) <;> clear F2 N2 N F
    · have q1 := ne_empty htl
      dsimp only
      repeat' ((fail_if_success (with_reducible show Less _ _ _)); (fail_if_success (with_reducible show Held _ _)); first | (k_unfold; (try dsimp only)) | (k_end; wrow_close) | ((with_reducible show wpAny _ _ _ _ _ (Shared.mk (Shared.heap _) _ _ _ _)); dsimp only) | (with_reducible ((with_reducible show wpAny _ _ (call (Value.ref 558) _) _ _ _); k_dflt (refine' readline_ok _ _ _ _ _ _ _ _ _ _ _ _ _ _ _ _ _ _ _ _ _ _ _ _ _ _ _ _ _ _ _ _ _ _ _ _ ?hzk1 ?hzk2 ?hzk3 ?hzk4 ?hzk5 ?hzk6 ?hzk7 ?hzk8 ?hzk9 ?hzkA ?hzkB ?hzkC ?hzkD ?hzkE ?hzkF ?hzkG ?_; (case hzk1 => k_asm); (case hzk2 => k_asm); (case hzk3 => k_asm); (case hzk4 => k_asm); (case hzk5 => first | exact rfl | assumption); (case hzk6 => first | k_asm | exact News.tl (by k_asm)); (case hzk7 => k_all); (case hzk8 => with_reducible assumption); (case hzk9 => ktr_room); (case hzkA => ktr_units); (case hzkB => with_reducible assumption); (case hzkC => with_reducible assumption); (case hzkD => with_reducible assumption); (case hzkE => with_reducible assumption); (case hzkF => with_reducible assumption); (case hzkG => with_reducible assumption); k_whole; intro _ _ _ _ _ _ _; (try dsimp only); (try k_fold)))) | (with_reducible ((with_reducible show wpAny _ _ (call (Value.ref 550) [Value.ref _, Value.int _ _]) _ _ _); k_dflt (first | (refine' read1_ok _ _ _ _ _ _ _ _ _ _ _ _ _ _ _ _ _ _ _ _ _ _ _ _ _ _ _ _ _ _ _ _ _ _ _ _ _ ?hzk1 ?hzk2 ?hzk3 ?hzk4 ?hzk5 ?hzk6 ?hzk7 ?hzk8 ?hzk9 ?hzkA ?hzkB ?hzkC ?hzkD ?_; (case hzk1 => k_asm); (case hzk2 => k_asm); (case hzk3 => k_asm); (case hzk4 => k_asm); (case hzk5 => first | exact rfl | assumption); (case hzk6 => k_asm); (case hzk7 => k_all); (case hzk8 => with_reducible assumption); (case hzk9 => ktr_room); (case hzkA => ktr_units); (case hzkB => with_reducible assumption); (case hzkC => with_reducible assumption); (case hzkD => with_reducible assumption); k_whole; intro t9 _ h9 tk9 F9 N9; (try dsimp only); (try k_fold)) | (refine' read0_ok _ _ _ _ _ _ _ _ _ _ _ _ _ _ _ _ _ _ _ _ _ _ _ _ _ _ _ _ _ _ _ _ _ _ _ _ ?hzk1 ?hzk2 ?hzk3 ?hzk4 ?hzk5 ?hzk6 ?hzk7 ?hzk8 ?hzk9 ?hzkA ?hzkB ?hzkC ?_; (case hzk1 => k_asm); (case hzk2 => k_asm); (case hzk3 => k_asm); (case hzk4 => k_asm); (case hzk5 => first | exact rfl | assumption); (case hzk6 => k_asm); (case hzk7 => k_all); (case hzk8 => with_reducible assumption); (case hzk9 => ktr_room); (case hzkA => ktr_units); (case hzkB => with_reducible assumption); (case hzkC => with_reducible assumption); k_whole; intro t9 h9 tk9 F9 N9; (try dsimp only); (try k_fold))))) | (with_reducible ((with_reducible show wpAny _ _ (inplaceOp Operator.Add (Value.str _ _) (Value.str (Str.mk #[_]) _)) _ _ _); refine iadd1 (by with_reducible assumption) ?_; intro _ _)) | (with_reducible ((with_reducible show wpAny _ _ (PySem.truthy (Value.str _ _)) _ _ _); refine truthy_yes (by with_reducible assumption) (by with_reducible assumption) ?_)) | (with_reducible ((with_reducible show wpAny _ _ (execs _ _) _ _ _); (first | k_gentoks | ((with_reducible refine execs_one ?_); try dsimp only)))) | (with_reducible (with_reducible refine wpAny_If ?_)) | (with_reducible (first | (refine ite_isFalse (by with_reducible assumption) ?_) | (refine ite_pos (by with_reducible assumption) ?_) | (refine ite_neg (by with_reducible assumption) ?_))) | walk1 | (dsimp only; walk1) | (leave1; (try dsimp only)) | fail "no step")
      all_goals exact hret1 _ _ _ _ _ _ _ _ _ _ ho htl hr' (by k_asm) (by k_asm)
    · dsimp only
      repeat' ((fail_if_success (with_reducible show Less _ _ _)); (fail_if_success (with_reducible show Held _ _)); first | (k_unfold; (try dsimp only)) | (k_end; wrow_close) | ((with_reducible show wpAny _ _ _ _ _ (Shared.mk (Shared.heap _) _ _ _ _)); dsimp only) | (with_reducible ((with_reducible show wpAny _ _ (call (Value.ref 558) _) _ _ _); k_dflt (refine' readline_ok _ _ _ _ _ _ _ _ _ _ _ _ _ _ _ _ _ _ _ _ _ _ _ _ _ _ _ _ _ _ _ _ _ _ _ _ ?hzk1 ?hzk2 ?hzk3 ?hzk4 ?hzk5 ?hzk6 ?hzk7 ?hzk8 ?hzk9 ?hzkA ?hzkB ?hzkC ?hzkD ?hzkE ?hzkF ?hzkG ?_; (case hzk1 => k_asm); (case hzk2 => k_asm); (case hzk3 => k_asm); (case hzk4 => k_asm); (case hzk5 => first | exact rfl | assumption); (case hzk6 => first | k_asm | exact News.tl (by k_asm)); (case hzk7 => k_all); (case hzk8 => with_reducible assumption); (case hzk9 => ktr_room); (case hzkA => ktr_units); (case hzkB => with_reducible assumption); (case hzkC => with_reducible assumption); (case hzkD => with_reducible assumption); (case hzkE => with_reducible assumption); (case hzkF => with_reducible assumption); (case hzkG => with_reducible assumption); k_whole; intro _ _ _ _ _ _ _; (try dsimp only); (try k_fold)))) | (with_reducible ((with_reducible show wpAny _ _ (call (Value.ref 550) [Value.ref _, Value.int _ _]) _ _ _); k_dflt (first | (refine' read1_ok _ _ _ _ _ _ _ _ _ _ _ _ _ _ _ _ _ _ _ _ _ _ _ _ _ _ _ _ _ _ _ _ _ _ _ _ _ ?hzk1 ?hzk2 ?hzk3 ?hzk4 ?hzk5 ?hzk6 ?hzk7 ?hzk8 ?hzk9 ?hzkA ?hzkB ?hzkC ?hzkD ?_; (case hzk1 => k_asm); (case hzk2 => k_asm); (case hzk3 => k_asm); (case hzk4 => k_asm); (case hzk5 => first | exact rfl | assumption); (case hzk6 => k_asm); (case hzk7 => k_all); (case hzk8 => with_reducible assumption); (case hzk9 => ktr_room); (case hzkA => ktr_units); (case hzkB => with_reducible assumption); (case hzkC => with_reducible assumption); (case hzkD => with_reducible assumption); k_whole; intro t9 _ h9 tk9 F9 N9; (try dsimp only); (try k_fold)) | (refine' read0_ok _ _ _ _ _ _ _ _ _ _ _ _ _ _ _ _ _ _ _ _ _ _ _ _ _ _ _ _ _ _ _ _ _ _ _ _ ?hzk1 ?hzk2 ?hzk3 ?hzk4 ?hzk5 ?hzk6 ?hzk7 ?hzk8 ?hzk9 ?hzkA ?hzkB ?hzkC ?_; (case hzk1 => k_asm); (case hzk2 => k_asm); (case hzk3 => k_asm); (case hzk4 => k_asm); (case hzk5 => first | exact rfl | assumption); (case hzk6 => k_asm); (case hzk7 => k_all); (case hzk8 => with_reducible assumption); (case hzk9 => ktr_room); (case hzkA => ktr_units); (case hzkB => with_reducible assumption); (case hzkC => with_reducible assumption); k_whole; intro t9 h9 tk9 F9 N9; (try dsimp only); (try k_fold))))) | (with_reducible ((with_reducible show wpAny _ _ (inplaceOp Operator.Add (Value.str _ _) (Value.str (Str.mk #[_]) _)) _ _ _); refine iadd1 (by with_reducible assumption) ?_; intro _ _)) | (with_reducible ((with_reducible show wpAny _ _ (PySem.truthy (Value.str _ _)) _ _ _); refine truthy_yes (by with_reducible assumption) (by with_reducible assumption) ?_)) | (with_reducible ((with_reducible show wpAny _ _ (execs _ _) _ _ _); (first | k_gentoks | ((with_reducible refine execs_one ?_); try dsimp only)))) | (with_reducible (with_reducible refine wpAny_If ?_)) | (with_reducible (first | (refine ite_isFalse (by with_reducible assumption) ?_) | (refine ite_pos (by with_reducible assumption) ?_) | (refine ite_neg (by with_reducible assumption) ?_))) | walk1 | (dsimp only; walk1) | (leave1; (try dsimp only)) | fail "no step")
      all_goals exact hret2 _ _ _ _ _ _ _ ho hr' (by k_asm) (by k_asm)
  case turn =>
    intro n s2 hI
    clear F2 N2 N F hret1 hret2
    have qa := nt a_qu
    have qe := nt a_es
    refine turn_q (fun QQ hnx hcn hbk => ?_)
    rcases hI with @⟨h', tk', ov, te, ts, tl', tt, t3', pos', ln', rem, tok, w, F3, hrem, htl, htp, N3, hA, ho⟩ | @⟨h', tk', ov, te, ts, tl', tt, t3', pos', ln', rem, F3, hrem, N3, hS⟩
    · cases hA with
      | blank r =>
        obtain ⟨hcc, hp, hr⟩ := drop_head hrem
        have htok : tok.length < 10000 := by omega
        have q2 := nf spx_ws
        repeat' ((fail_if_success (with_reducible show Less _ _ _)); (fail_if_success (with_reducible show Held _ _)); (fail_if_success (with_reducible show QQ _ _)); first | (k_unfold; (try dsimp only)) | (k_end; wrow_close) | ((with_reducible show wpAny _ _ _ _ _ (Shared.mk (Shared.heap _) _ _ _ _)); dsimp only) | (with_reducible ((with_reducible show wpAny _ _ (call (Value.ref 558) _) _ _ _); k_dflt (refine' readline_ok _ _ _ _ _ _ _ _ _ _ _ _ _ _ _ _ _ _ _ _ _ _ _ _ _ _ _ _ _ _ _ _ _ _ _ _ ?hzk1 ?hzk2 ?hzk3 ?hzk4 ?hzk5 ?hzk6 ?hzk7 ?hzk8 ?hzk9 ?hzkA ?hzkB ?hzkC ?hzkD ?hzkE ?hzkF ?hzkG ?_; (case hzk1 => k_asm); (case hzk2 => k_asm); (case hzk3 => k_asm); (case hzk4 => k_asm); (case hzk5 => first | exact rfl | assumption); (case hzk6 => first | k_asm | exact News.tl (by k_asm)); (case hzk7 => k_all); (case hzk8 => with_reducible assumption); (case hzk9 => ktr_room); (case hzkA => ktr_units); (case hzkB => with_reducible assumption); (case hzkC => with_reducible assumption); (case hzkD => with_reducible assumption); (case hzkE => with_reducible assumption); (case hzkF => with_reducible assumption); (case hzkG => with_reducible assumption); k_whole; intro _ _ _ _ _ _ _; (try dsimp only); (try k_fold)))) | (with_reducible ((with_reducible show wpAny _ _ (call (Value.ref 550) [Value.ref _, Value.int _ _]) _ _ _); k_dflt (first | (refine' read1_ok _ _ _ _ _ _ _ _ _ _ _ _ _ _ _ _ _ _ _ _ _ _ _ _ _ _ _ _ _ _ _ _ _ _ _ _ _ ?hzk1 ?hzk2 ?hzk3 ?hzk4 ?hzk5 ?hzk6 ?hzk7 ?hzk8 ?hzk9 ?hzkA ?hzkB ?hzkC ?hzkD ?_; (case hzk1 => k_asm); (case hzk2 => k_asm); (case hzk3 => k_asm); (case hzk4 => k_asm); (case hzk5 => first | exact rfl | assumption); (case hzk6 => k_asm); (case hzk7 => k_all); (case hzk8 => with_reducible assumption); (case hzk9 => ktr_room); (case hzkA => ktr_units); (case hzkB => with_reducible assumption); (case hzkC => with_reducible assumption); (case hzkD => with_reducible assumption); k_whole; intro t9 _ h9 tk9 F9 N9; (try dsimp only); (try k_fold)) | (refine' read0_ok _ _ _ _ _ _ _ _ _ _ _ _ _ _ _ _ _ _ _ _ _ _ _ _ _ _ _ _ _ _ _ _ _ _ _ _ ?hzk1 ?hzk2 ?hzk3 ?hzk4 ?hzk5 ?hzk6 ?hzk7 ?hzk8 ?hzk9 ?hzkA ?hzkB ?hzkC ?_; (case hzk1 => k_asm); (case hzk2 => k_asm); (case hzk3 => k_asm); (case hzk4 => k_asm); (case hzk5 => first | exact rfl | assumption); (case hzk6 => k_asm); (case hzk7 => k_all); (case hzk8 => with_reducible assumption); (case hzk9 => ktr_room); (case hzkA => ktr_units); (case hzkB => with_reducible assumption); (case hzkC => with_reducible assumption); k_whole; intro t9 h9 tk9 F9 N9; (try dsimp only); (try k_fold))))) | (with_reducible ((with_reducible show wpAny _ _ (inplaceOp Operator.Add (Value.str _ _) (Value.str (Str.mk #[_]) _)) _ _ _); refine iadd1 (by with_reducible assumption) ?_; intro _ _)) | (with_reducible ((with_reducible show wpAny _ _ (PySem.truthy (Value.str _ _)) _ _ _); refine truthy_yes (by with_reducible assumption) (by with_reducible assumption) ?_)) | (with_reducible ((with_reducible show wpAny _ _ (execs _ _) _ _ _); (first | k_gentoks | ((with_reducible refine execs_one ?_); try dsimp only)))) | (with_reducible (with_reducible refine wpAny_If ?_)) | (with_reducible (first | (refine ite_isFalse (by with_reducible assumption) ?_) | (refine ite_pos (by with_reducible assumption) ?_) | (refine ite_neg (by with_reducible assumption) ?_))) | walk1 | (dsimp only; walk1) | (leave1; (try dsimp only)) | fail "no step")
        all_goals exact hbk _ (held (.tok (Fr.re (by k_asm) loc_upd) hr htl (by first | k_asm | exact News.tl (by k_asm)) (by rw [ho, List.append_nil])))
      | note c r hc =>
        obtain ⟨hcc, hp, hr⟩ := drop_head hrem
        obtain ⟨hi, hi2, hno, hr2⟩ := drop_nl hr hc
        have hp2 : pos' + 1 < buf.length := by omega
        have hi1 : pos' + 1 ≤ pos' + 1 + c.length := Nat.le_add_right _ _
        have htok : tok.length < 10000 := by omega
        have q2 := nt hsx_ws
        have q3 := nf hsx_cm
        repeat' ((fail_if_success (with_reducible show Less _ _ _)); (fail_if_success (with_reducible show Held _ _)); (fail_if_success (with_reducible show QQ _ _)); first | (k_unfold; (try dsimp only)) | (k_end; wrow_close) | ((with_reducible show wpAny _ _ _ _ _ (Shared.mk (Shared.heap _) _ _ _ _)); dsimp only) | (with_reducible ((with_reducible show wpAny _ _ (call (Value.ref 558) _) _ _ _); k_dflt (refine' readline_ok _ _ _ _ _ _ _ _ _ _ _ _ _ _ _ _ _ _ _ _ _ _ _ _ _ _ _ _ _ _ _ _ _ _ _ _ ?hzk1 ?hzk2 ?hzk3 ?hzk4 ?hzk5 ?hzk6 ?hzk7 ?hzk8 ?hzk9 ?hzkA ?hzkB ?hzkC ?hzkD ?hzkE ?hzkF ?hzkG ?_; (case hzk1 => k_asm); (case hzk2 => k_asm); (case hzk3 => k_asm); (case hzk4 => k_asm); (case hzk5 => first | exact rfl | assumption); (case hzk6 => first | k_asm | exact News.tl (by k_asm)); (case hzk7 => k_all); (case hzk8 => with_reducible assumption); (case hzk9 => ktr_room); (case hzkA => ktr_units); (case hzkB => with_reducible assumption); (case hzkC => with_reducible assumption); (case hzkD => with_reducible assumption); (case hzkE => with_reducible assumption); (case hzkF => with_reducible assumption); (case hzkG => with_reducible assumption); k_whole; intro _ _ _ _ _ _ _; (try dsimp only); (try k_fold)))) | (with_reducible ((with_reducible show wpAny _ _ (call (Value.ref 550) [Value.ref _, Value.int _ _]) _ _ _); k_dflt (first | (refine' read1_ok _ _ _ _ _ _ _ _ _ _ _ _ _ _ _ _ _ _ _ _ _ _ _ _ _ _ _ _ _ _ _ _ _ _ _ _ _ ?hzk1 ?hzk2 ?hzk3 ?hzk4 ?hzk5 ?hzk6 ?hzk7 ?hzk8 ?hzk9 ?hzkA ?hzkB ?hzkC ?hzkD ?_; (case hzk1 => k_asm); (case hzk2 => k_asm); (case hzk3 => k_asm); (case hzk4 => k_asm); (case hzk5 => first | exact rfl | assumption); (case hzk6 => k_asm); (case hzk7 => k_all); (case hzk8 => with_reducible assumption); (case hzk9 => ktr_room); (case hzkA => ktr_units); (case hzkB => with_reducible assumption); (case hzkC => with_reducible assumption); (case hzkD => with_reducible assumption); k_whole; intro t9 _ h9 tk9 F9 N9; (try dsimp only); (try k_fold)) | (refine' read0_ok _ _ _ _ _ _ _ _ _ _ _ _ _ _ _ _ _ _ _ _ _ _ _ _ _ _ _ _ _ _ _ _ _ _ _ _ ?hzk1 ?hzk2 ?hzk3 ?hzk4 ?hzk5 ?hzk6 ?hzk7 ?hzk8 ?hzk9 ?hzkA ?hzkB ?hzkC ?_; (case hzk1 => k_asm); (case hzk2 => k_asm); (case hzk3 => k_asm); (case hzk4 => k_asm); (case hzk5 => first | exact rfl | assumption); (case hzk6 => k_asm); (case hzk7 => k_all); (case hzk8 => with_reducible assumption); (case hzk9 => ktr_room); (case hzkA => ktr_units); (case hzkB => with_reducible assumption); (case hzkC => with_reducible assumption); k_whole; intro t9 h9 tk9 F9 N9; (try dsimp only); (try k_fold))))) | (with_reducible ((with_reducible show wpAny _ _ (inplaceOp Operator.Add (Value.str _ _) (Value.str (Str.mk #[_]) _)) _ _ _); refine iadd1 (by with_reducible assumption) ?_; intro _ _)) | (with_reducible ((with_reducible show wpAny _ _ (PySem.truthy (Value.str _ _)) _ _ _); refine truthy_yes (by with_reducible assumption) (by with_reducible assumption) ?_)) | (with_reducible ((with_reducible show wpAny _ _ (execs _ _) _ _ _); (first | k_gentoks | ((with_reducible refine execs_one ?_); try dsimp only)))) | (with_reducible (with_reducible refine wpAny_If ?_)) | (with_reducible (first | (refine ite_isFalse (by with_reducible assumption) ?_) | (refine ite_pos (by with_reducible assumption) ?_) | (refine ite_neg (by with_reducible assumption) ?_))) | walk1 | (dsimp only; walk1) | (leave1; (try dsimp only)) | fail "no step")
        all_goals exact hbk _ (held (.tok (Fr.re (by k_asm) loc_upd) hr2 htl (by first | k_asm | exact News.tl (by k_asm)) (by rw [ho, List.append_nil])))
      | more c r w r' hw hA =>
        obtain ⟨hcc, hp, hr⟩ := drop_head hrem
        have htok : tok.length < 10000 := by omega
        have q1 := w_ne hw
        have q2 := nt (w_ws hw)
        have q3 := nt (w_cm hw)
        have q4 := nt (w_qu hw)
        have q5 := nt (w_es hw)
        have q6 := nt (w_pc (c := c))
        have q7 := w_len1 c
        have q9 := w_len2 c
        have q8 := w_pc (c := c)
        have hl := app1_len tok c
        have hl1 : 0 < (tok ++ ⟨#[c]⟩ : Str).length := by omega
        have hl2 : (tok ++ ⟨#[c]⟩ : Str).length ≤ pos' + 1 := by omega
        have ho2 : o = some ((tok ++ ⟨#[c]⟩ : Str).cps.toList ++ w) := by rw [ho, app1_list, List.append_assoc]; rfl
        repeat' ((fail_if_success (with_reducible show Less _ _ _)); (fail_if_success (with_reducible show Held _ _)); (fail_if_success (with_reducible show QQ _ _)); first | (k_unfold; (try dsimp only)) | (k_end; wrow_close) | ((with_reducible show wpAny _ _ _ _ _ (Shared.mk (Shared.heap _) _ _ _ _)); dsimp only) | (with_reducible ((with_reducible show wpAny _ _ (call (Value.ref 558) _) _ _ _); k_dflt (refine' readline_ok _ _ _ _ _ _ _ _ _ _ _ _ _ _ _ _ _ _ _ _ _ _ _ _ _ _ _ _ _ _ _ _ _ _ _ _ ?hzk1 ?hzk2 ?hzk3 ?hzk4 ?hzk5 ?hzk6 ?hzk7 ?hzk8 ?hzk9 ?hzkA ?hzkB ?hzkC ?hzkD ?hzkE ?hzkF ?hzkG ?_; (case hzk1 => k_asm); (case hzk2 => k_asm); (case hzk3 => k_asm); (case hzk4 => k_asm); (case hzk5 => first | exact rfl | assumption); (case hzk6 => first | k_asm | exact News.tl (by k_asm)); (case hzk7 => k_all); (case hzk8 => with_reducible assumption); (case hzk9 => ktr_room); (case hzkA => ktr_units); (case hzkB => with_reducible assumption); (case hzkC => with_reducible assumption); (case hzkD => with_reducible assumption); (case hzkE => with_reducible assumption); (case hzkF => with_reducible assumption); (case hzkG => with_reducible assumption); k_whole; intro _ _ _ _ _ _ _; (try dsimp only); (try k_fold)))) | (with_reducible ((with_reducible show wpAny _ _ (call (Value.ref 550) [Value.ref _, Value.int _ _]) _ _ _); k_dflt (first | (refine' read1_ok _ _ _ _ _ _ _ _ _ _ _ _ _ _ _ _ _ _ _ _ _ _ _ _ _ _ _ _ _ _ _ _ _ _ _ _ _ ?hzk1 ?hzk2 ?hzk3 ?hzk4 ?hzk5 ?hzk6 ?hzk7 ?hzk8 ?hzk9 ?hzkA ?hzkB ?hzkC ?hzkD ?_; (case hzk1 => k_asm); (case hzk2 => k_asm); (case hzk3 => k_asm); (case hzk4 => k_asm); (case hzk5 => first | exact rfl | assumption); (case hzk6 => k_asm); (case hzk7 => k_all); (case hzk8 => with_reducible assumption); (case hzk9 => ktr_room); (case hzkA => ktr_units); (case hzkB => with_reducible assumption); (case hzkC => with_reducible assumption); (case hzkD => with_reducible assumption); k_whole; intro t9 _ h9 tk9 F9 N9; (try dsimp only); (try k_fold)) | (refine' read0_ok _ _ _ _ _ _ _ _ _ _ _ _ _ _ _ _ _ _ _ _ _ _ _ _ _ _ _ _ _ _ _ _ _ _ _ _ ?hzk1 ?hzk2 ?hzk3 ?hzk4 ?hzk5 ?hzk6 ?hzk7 ?hzk8 ?hzk9 ?hzkA ?hzkB ?hzkC ?_; (case hzk1 => k_asm); (case hzk2 => k_asm); (case hzk3 => k_asm); (case hzk4 => k_asm); (case hzk5 => first | exact rfl | assumption); (case hzk6 => k_asm); (case hzk7 => k_all); (case hzk8 => with_reducible assumption); (case hzk9 => ktr_room); (case hzkA => ktr_units); (case hzkB => with_reducible assumption); (case hzkC => with_reducible assumption); k_whole; intro t9 h9 tk9 F9 N9; (try dsimp only); (try k_fold))))) | (with_reducible ((with_reducible show wpAny _ _ (inplaceOp Operator.Add (Value.str _ _) (Value.str (Str.mk #[_]) _)) _ _ _); refine iadd1 (by with_reducible assumption) ?_; intro _ _)) | (with_reducible ((with_reducible show wpAny _ _ (PySem.truthy (Value.str _ _)) _ _ _); refine truthy_yes (by with_reducible assumption) (by with_reducible assumption) ?_)) | (with_reducible ((with_reducible show wpAny _ _ (execs _ _) _ _ _); (first | k_gentoks | ((with_reducible refine execs_one ?_); try dsimp only)))) | (with_reducible (with_reducible refine wpAny_If ?_)) | (with_reducible (first | (refine ite_isFalse (by with_reducible assumption) ?_) | (refine ite_pos (by with_reducible assumption) ?_) | (refine ite_neg (by with_reducible assumption) ?_))) | walk1 | (dsimp only; walk1) | (leave1; (try dsimp only)) | fail "no step")
        all_goals first | exact hnx _ (less r.length (Nat.lt_succ_self _) (.tok (Fr.re (by k_asm) loc_upd) hr hl1 hl2 (by first | k_asm | exact News.tl (by k_asm)) hA ho2)) | exact hcn _ (less r.length (Nat.lt_succ_self _) (.tok (Fr.re (by k_asm) loc_upd) hr hl1 hl2 (by first | k_asm | exact News.tl (by k_asm)) hA ho2))
    · cases hS with
      | eof =>
        have hp := drop_nil hrem
        repeat' ((fail_if_success (with_reducible show Less _ _ _)); (fail_if_success (with_reducible show Held _ _)); (fail_if_success (with_reducible show QQ _ _)); first | (k_unfold; (try dsimp only)) | (k_end; wrow_close) | ((with_reducible show wpAny _ _ _ _ _ (Shared.mk (Shared.heap _) _ _ _ _)); dsimp only) | (with_reducible ((with_reducible show wpAny _ _ (call (Value.ref 558) _) _ _ _); k_dflt (refine' readline_ok _ _ _ _ _ _ _ _ _ _ _ _ _ _ _ _ _ _ _ _ _ _ _ _ _ _ _ _ _ _ _ _ _ _ _ _ ?hzk1 ?hzk2 ?hzk3 ?hzk4 ?hzk5 ?hzk6 ?hzk7 ?hzk8 ?hzk9 ?hzkA ?hzkB ?hzkC ?hzkD ?hzkE ?hzkF ?hzkG ?_; (case hzk1 => k_asm); (case hzk2 => k_asm); (case hzk3 => k_asm); (case hzk4 => k_asm); (case hzk5 => first | exact rfl | assumption); (case hzk6 => first | k_asm | exact News.tl (by k_asm)); (case hzk7 => k_all); (case hzk8 => with_reducible assumption); (case hzk9 => ktr_room); (case hzkA => ktr_units); (case hzkB => with_reducible assumption); (case hzkC => with_reducible assumption); (case hzkD => with_reducible assumption); (case hzkE => with_reducible assumption); (case hzkF => with_reducible assumption); (case hzkG => with_reducible assumption); k_whole; intro _ _ _ _ _ _ _; (try dsimp only); (try k_fold)))) | (with_reducible ((with_reducible show wpAny _ _ (call (Value.ref 550) [Value.ref _, Value.int _ _]) _ _ _); k_dflt (first | (refine' read1_ok _ _ _ _ _ _ _ _ _ _ _ _ _ _ _ _ _ _ _ _ _ _ _ _ _ _ _ _ _ _ _ _ _ _ _ _ _ ?hzk1 ?hzk2 ?hzk3 ?hzk4 ?hzk5 ?hzk6 ?hzk7 ?hzk8 ?hzk9 ?hzkA ?hzkB ?hzkC ?hzkD ?_; (case hzk1 => k_asm); (case hzk2 => k_asm); (case hzk3 => k_asm); (case hzk4 => k_asm); (case hzk5 => first | exact rfl | assumption); (case hzk6 => k_asm); (case hzk7 => k_all); (case hzk8 => with_reducible assumption); (case hzk9 => ktr_room); (case hzkA => ktr_units); (case hzkB => with_reducible assumption); (case hzkC => with_reducible assumption); (case hzkD => with_reducible assumption); k_whole; intro t9 _ h9 tk9 F9 N9; (try dsimp only); (try k_fold)) | (refine' read0_ok _ _ _ _ _ _ _ _ _ _ _ _ _ _ _ _ _ _ _ _ _ _ _ _ _ _ _ _ _ _ _ _ _ _ _ _ ?hzk1 ?hzk2 ?hzk3 ?hzk4 ?hzk5 ?hzk6 ?hzk7 ?hzk8 ?hzk9 ?hzkA ?hzkB ?hzkC ?_; (case hzk1 => k_asm); (case hzk2 => k_asm); (case hzk3 => k_asm); (case hzk4 => k_asm); (case hzk5 => first | exact rfl | assumption); (case hzk6 => k_asm); (case hzk7 => k_all); (case hzk8 => with_reducible assumption); (case hzk9 => ktr_room); (case hzkA => ktr_units); (case hzkB => with_reducible assumption); (case hzkC => with_reducible assumption); k_whole; intro t9 h9 tk9 F9 N9; (try dsimp only); (try k_fold))))) | (with_reducible ((with_reducible show wpAny _ _ (inplaceOp Operator.Add (Value.str _ _) (Value.str (Str.mk #[_]) _)) _ _ _); refine iadd1 (by with_reducible assumption) ?_; intro _ _)) | (with_reducible ((with_reducible show wpAny _ _ (PySem.truthy (Value.str _ _)) _ _ _); refine truthy_yes (by with_reducible assumption) (by with_reducible assumption) ?_)) | (with_reducible ((with_reducible show wpAny _ _ (execs _ _) _ _ _); (first | k_gentoks | ((with_reducible refine execs_one ?_); try dsimp only)))) | (with_reducible (with_reducible refine wpAny_If ?_)) | (with_reducible (first | (refine ite_isFalse (by with_reducible assumption) ?_) | (refine ite_pos (by with_reducible assumption) ?_) | (refine ite_neg (by with_reducible assumption) ?_))) | walk1 | (dsimp only; walk1) | (leave1; (try dsimp only)) | fail "no step")
        all_goals exact hbk _ (held (.non (te := te) (ts := default) (Fr.re (by k_asm) loc_upd) hrem (by k_asm) rfl))
      | blank r o r' hS =>
        obtain ⟨hcc, hp, hr⟩ := drop_head hrem
        have q2 := nf spx_ws
        repeat' ((fail_if_success (with_reducible show Less _ _ _)); (fail_if_success (with_reducible show Held _ _)); (fail_if_success (with_reducible show QQ _ _)); first | (k_unfold; (try dsimp only)) | (k_end; wrow_close) | ((with_reducible show wpAny _ _ _ _ _ (Shared.mk (Shared.heap _) _ _ _ _)); dsimp only) | (with_reducible ((with_reducible show wpAny _ _ (call (Value.ref 558) _) _ _ _); k_dflt (refine' readline_ok _ _ _ _ _ _ _ _ _ _ _ _ _ _ _ _ _ _ _ _ _ _ _ _ _ _ _ _ _ _ _ _ _ _ _ _ ?hzk1 ?hzk2 ?hzk3 ?hzk4 ?hzk5 ?hzk6 ?hzk7 ?hzk8 ?hzk9 ?hzkA ?hzkB ?hzkC ?hzkD ?hzkE ?hzkF ?hzkG ?_; (case hzk1 => k_asm); (case hzk2 => k_asm); (case hzk3 => k_asm); (case hzk4 => k_asm); (case hzk5 => first | exact rfl | assumption); (case hzk6 => first | k_asm | exact News.tl (by k_asm)); (case hzk7 => k_all); (case hzk8 => with_reducible assumption); (case hzk9 => ktr_room); (case hzkA => ktr_units); (case hzkB => with_reducible assumption); (case hzkC => with_reducible assumption); (case hzkD => with_reducible assumption); (case hzkE => with_reducible assumption); (case hzkF => with_reducible assumption); (case hzkG => with_reducible assumption); k_whole; intro _ _ _ _ _ _ _; (try dsimp only); (try k_fold)))) | (with_reducible ((with_reducible show wpAny _ _ (call (Value.ref 550) [Value.ref _, Value.int _ _]) _ _ _); k_dflt (first | (refine' read1_ok _ _ _ _ _ _ _ _ _ _ _ _ _ _ _ _ _ _ _ _ _ _ _ _ _ _ _ _ _ _ _ _ _ _ _ _ _ ?hzk1 ?hzk2 ?hzk3 ?hzk4 ?hzk5 ?hzk6 ?hzk7 ?hzk8 ?hzk9 ?hzkA ?hzkB ?hzkC ?hzkD ?_; (case hzk1 => k_asm); (case hzk2 => k_asm); (case hzk3 => k_asm); (case hzk4 => k_asm); (case hzk5 => first | exact rfl | assumption); (case hzk6 => k_asm); (case hzk7 => k_all); (case hzk8 => with_reducible assumption); (case hzk9 => ktr_room); (case hzkA => ktr_units); (case hzkB => with_reducible assumption); (case hzkC => with_reducible assumption); (case hzkD => with_reducible assumption); k_whole; intro t9 _ h9 tk9 F9 N9; (try dsimp only); (try k_fold)) | (refine' read0_ok _ _ _ _ _ _ _ _ _ _ _ _ _ _ _ _ _ _ _ _ _ _ _ _ _ _ _ _ _ _ _ _ _ _ _ _ ?hzk1 ?hzk2 ?hzk3 ?hzk4 ?hzk5 ?hzk6 ?hzk7 ?hzk8 ?hzk9 ?hzkA ?hzkB ?hzkC ?_; (case hzk1 => k_asm); (case hzk2 => k_asm); (case hzk3 => k_asm); (case hzk4 => k_asm); (case hzk5 => first | exact rfl | assumption); (case hzk6 => k_asm); (case hzk7 => k_all); (case hzk8 => with_reducible assumption); (case hzk9 => ktr_room); (case hzkA => ktr_units); (case hzkB => with_reducible assumption); (case hzkC => with_reducible assumption); k_whole; intro t9 h9 tk9 F9 N9; (try dsimp only); (try k_fold))))) | (with_reducible ((with_reducible show wpAny _ _ (inplaceOp Operator.Add (Value.str _ _) (Value.str (Str.mk #[_]) _)) _ _ _); refine iadd1 (by with_reducible assumption) ?_; intro _ _)) | (with_reducible ((with_reducible show wpAny _ _ (PySem.truthy (Value.str _ _)) _ _ _); refine truthy_yes (by with_reducible assumption) (by with_reducible assumption) ?_)) | (with_reducible ((with_reducible show wpAny _ _ (execs _ _) _ _ _); (first | k_gentoks | ((with_reducible refine execs_one ?_); try dsimp only)))) | (with_reducible (with_reducible refine wpAny_If ?_)) | (with_reducible (first | (refine ite_isFalse (by with_reducible assumption) ?_) | (refine ite_pos (by with_reducible assumption) ?_) | (refine ite_neg (by with_reducible assumption) ?_))) | walk1 | (dsimp only; walk1) | (leave1; (try dsimp only)) | fail "no step")
        all_goals first | exact hnx _ (less r.length (Nat.lt_succ_self _) (.spc (Fr.re (by k_asm) loc_upd) hr (by k_asm) hS)) | exact hcn _ (less r.length (Nat.lt_succ_self _) (.spc (Fr.re (by k_asm) loc_upd) hr (by k_asm) hS))
      | note c r o r' hc hS =>
        obtain ⟨hcc, hp, hr⟩ := drop_head hrem
        obtain ⟨hi, hi2, hno, hr2⟩ := drop_nl hr hc
        have hp2 : pos' + 1 < buf.length := by omega
        have hi1 : pos' + 1 ≤ pos' + 1 + c.length := Nat.le_add_right _ _
        have q2 := nt hsx_ws
        have q3 := nf hsx_cm
        repeat' ((fail_if_success (with_reducible show Less _ _ _)); (fail_if_success (with_reducible show Held _ _)); (fail_if_success (with_reducible show QQ _ _)); first | (k_unfold; (try dsimp only)) | (k_end; wrow_close) | ((with_reducible show wpAny _ _ _ _ _ (Shared.mk (Shared.heap _) _ _ _ _)); dsimp only) | (with_reducible ((with_reducible show wpAny _ _ (call (Value.ref 558) _) _ _ _); k_dflt (refine' readline_ok _ _ _ _ _ _ _ _ _ _ _ _ _ _ _ _ _ _ _ _ _ _ _ _ _ _ _ _ _ _ _ _ _ _ _ _ ?hzk1 ?hzk2 ?hzk3 ?hzk4 ?hzk5 ?hzk6 ?hzk7 ?hzk8 ?hzk9 ?hzkA ?hzkB ?hzkC ?hzkD ?hzkE ?hzkF ?hzkG ?_; (case hzk1 => k_asm); (case hzk2 => k_asm); (case hzk3 => k_asm); (case hzk4 => k_asm); (case hzk5 => first | exact rfl | assumption); (case hzk6 => first | k_asm | exact News.tl (by k_asm)); (case hzk7 => k_all); (case hzk8 => with_reducible assumption); (case hzk9 => ktr_room); (case hzkA => ktr_units); (case hzkB => with_reducible assumption); (case hzkC => with_reducible assumption); (case hzkD => with_reducible assumption); (case hzkE => with_reducible assumption); (case hzkF => with_reducible assumption); (case hzkG => with_reducible assumption); k_whole; intro _ _ _ _ _ _ _; (try dsimp only); (try k_fold)))) | (with_reducible ((with_reducible show wpAny _ _ (call (Value.ref 550) [Value.ref _, Value.int _ _]) _ _ _); k_dflt (first | (refine' read1_ok _ _ _ _ _ _ _ _ _ _ _ _ _ _ _ _ _ _ _ _ _ _ _ _ _ _ _ _ _ _ _ _ _ _ _ _ _ ?hzk1 ?hzk2 ?hzk3 ?hzk4 ?hzk5 ?hzk6 ?hzk7 ?hzk8 ?hzk9 ?hzkA ?hzkB ?hzkC ?hzkD ?_; (case hzk1 => k_asm); (case hzk2 => k_asm); (case hzk3 => k_asm); (case hzk4 => k_asm); (case hzk5 => first | exact rfl | assumption); (case hzk6 => k_asm); (case hzk7 => k_all); (case hzk8 => with_reducible assumption); (case hzk9 => ktr_room); (case hzkA => ktr_units); (case hzkB => with_reducible assumption); (case hzkC => with_reducible assumption); (case hzkD => with_reducible assumption); k_whole; intro t9 _ h9 tk9 F9 N9; (try dsimp only); (try k_fold)) | (refine' read0_ok _ _ _ _ _ _ _ _ _ _ _ _ _ _ _ _ _ _ _ _ _ _ _ _ _ _ _ _ _ _ _ _ _ _ _ _ ?hzk1 ?hzk2 ?hzk3 ?hzk4 ?hzk5 ?hzk6 ?hzk7 ?hzk8 ?hzk9 ?hzkA ?hzkB ?hzkC ?_; (case hzk1 => k_asm); (case hzk2 => k_asm); (case hzk3 => k_asm); (case hzk4 => k_asm); (case hzk5 => first | exact rfl | assumption); (case hzk6 => k_asm); (case hzk7 => k_all); (case hzk8 => with_reducible assumption); (case hzk9 => ktr_room); (case hzkA => ktr_units); (case hzkB => with_reducible assumption); (case hzkC => with_reducible assumption); k_whole; intro t9 h9 tk9 F9 N9; (try dsimp only); (try k_fold))))) | (with_reducible ((with_reducible show wpAny _ _ (inplaceOp Operator.Add (Value.str _ _) (Value.str (Str.mk #[_]) _)) _ _ _); refine iadd1 (by with_reducible assumption) ?_; intro _ _)) | (with_reducible ((with_reducible show wpAny _ _ (PySem.truthy (Value.str _ _)) _ _ _); refine truthy_yes (by with_reducible assumption) (by with_reducible assumption) ?_)) | (with_reducible ((with_reducible show wpAny _ _ (execs _ _) _ _ _); (first | k_gentoks | ((with_reducible refine execs_one ?_); try dsimp only)))) | (with_reducible (with_reducible refine wpAny_If ?_)) | (with_reducible (first | (refine ite_isFalse (by with_reducible assumption) ?_) | (refine ite_pos (by with_reducible assumption) ?_) | (refine ite_neg (by with_reducible assumption) ?_))) | walk1 | (dsimp only; walk1) | (leave1; (try dsimp only)) | fail "no step")
        all_goals first | exact hnx _ (less r.length (by simp only [List.length_cons, List.length_append]; omega) (.spc (Fr.re (by k_asm) loc_upd) hr2 (by k_asm) hS)) | exact hcn _ (less r.length (by simp only [List.length_cons, List.length_append]; omega) (.spc (Fr.re (by k_asm) loc_upd) hr2 (by k_asm) hS))
      | word c r w r' hw hA =>
        obtain ⟨hcc, hp, hr⟩ := drop_head hrem
        have q1 := w_ne hw
        have q2 := nt (w_ws hw)
        have q3 := nt (w_cm hw)
        have q4 := nt (w_qu hw)
        have q5 := nt (w_es hw)
        have q6 := nt (w_pc (c := c))
        have q7 := w_len1 c
        have q9 := w_len2 c
        have q8 := w_pc (c := c)
        repeat' ((fail_if_success (with_reducible show Less _ _ _)); (fail_if_success (with_reducible show Held _ _)); (fail_if_success (with_reducible show QQ _ _)); first | (k_unfold; (try dsimp only)) | (k_end; wrow_close) | ((with_reducible show wpAny _ _ _ _ _ (Shared.mk (Shared.heap _) _ _ _ _)); dsimp only) | (with_reducible ((with_reducible show wpAny _ _ (call (Value.ref 558) _) _ _ _); k_dflt (refine' readline_ok _ _ _ _ _ _ _ _ _ _ _ _ _ _ _ _ _ _ _ _ _ _ _ _ _ _ _ _ _ _ _ _ _ _ _ _ ?hzk1 ?hzk2 ?hzk3 ?hzk4 ?hzk5 ?hzk6 ?hzk7 ?hzk8 ?hzk9 ?hzkA ?hzkB ?hzkC ?hzkD ?hzkE ?hzkF ?hzkG ?_; (case hzk1 => k_asm); (case hzk2 => k_asm); (case hzk3 => k_asm); (case hzk4 => k_asm); (case hzk5 => first | exact rfl | assumption); (case hzk6 => first | k_asm | exact News.tl (by k_asm)); (case hzk7 => k_all); (case hzk8 => with_reducible assumption); (case hzk9 => ktr_room); (case hzkA => ktr_units); (case hzkB => with_reducible assumption); (case hzkC => with_reducible assumption); (case hzkD => with_reducible assumption); (case hzkE => with_reducible assumption); (case hzkF => with_reducible assumption); (case hzkG => with_reducible assumption); k_whole; intro _ _ _ _ _ _ _; (try dsimp only); (try k_fold)))) | (with_reducible ((with_reducible show wpAny _ _ (call (Value.ref 550) [Value.ref _, Value.int _ _]) _ _ _); k_dflt (first | (refine' read1_ok _ _ _ _ _ _ _ _ _ _ _ _ _ _ _ _ _ _ _ _ _ _ _ _ _ _ _ _ _ _ _ _ _ _ _ _ _ ?hzk1 ?hzk2 ?hzk3 ?hzk4 ?hzk5 ?hzk6 ?hzk7 ?hzk8 ?hzk9 ?hzkA ?hzkB ?hzkC ?hzkD ?_; (case hzk1 => k_asm); (case hzk2 => k_asm); (case hzk3 => k_asm); (case hzk4 => k_asm); (case hzk5 => first | exact rfl | assumption); (case hzk6 => k_asm); (case hzk7 => k_all); (case hzk8 => with_reducible assumption); (case hzk9 => ktr_room); (case hzkA => ktr_units); (case hzkB => with_reducible assumption); (case hzkC => with_reducible assumption); (case hzkD => with_reducible assumption); k_whole; intro t9 _ h9 tk9 F9 N9; (try dsimp only); (try k_fold)) | (refine' read0_ok _ _ _ _ _ _ _ _ _ _ _ _ _ _ _ _ _ _ _ _ _ _ _ _ _ _ _ _ _ _ _ _ _ _ _ _ ?hzk1 ?hzk2 ?hzk3 ?hzk4 ?hzk5 ?hzk6 ?hzk7 ?hzk8 ?hzk9 ?hzkA ?hzkB ?hzkC ?_; (case hzk1 => k_asm); (case hzk2 => k_asm); (case hzk3 => k_asm); (case hzk4 => k_asm); (case hzk5 => first | exact rfl | assumption); (case hzk6 => k_asm); (case hzk7 => k_all); (case hzk8 => with_reducible assumption); (case hzk9 => ktr_room); (case hzkA => ktr_units); (case hzkB => with_reducible assumption); (case hzkC => with_reducible assumption); k_whole; intro t9 h9 tk9 F9 N9; (try dsimp only); (try k_fold))))) | (with_reducible ((with_reducible show wpAny _ _ (inplaceOp Operator.Add (Value.str _ _) (Value.str (Str.mk #[_]) _)) _ _ _); refine iadd1 (by with_reducible assumption) ?_; intro _ _)) | (with_reducible ((with_reducible show wpAny _ _ (PySem.truthy (Value.str _ _)) _ _ _); refine truthy_yes (by with_reducible assumption) (by with_reducible assumption) ?_)) | (with_reducible ((with_reducible show wpAny _ _ (execs _ _) _ _ _); (first | k_gentoks | ((with_reducible refine execs_one ?_); try dsimp only)))) | (with_reducible (with_reducible refine wpAny_If ?_)) | (with_reducible (first | (refine ite_isFalse (by with_reducible assumption) ?_) | (refine ite_pos (by with_reducible assumption) ?_) | (refine ite_neg (by with_reducible assumption) ?_))) | walk1 | (dsimp only; walk1) | (leave1; (try dsimp only)) | fail "no step")
        all_goals first | exact hnx _ (less r.length (Nat.lt_succ_self _) (.tok (Fr.re (by k_asm) loc_upd) hr q7 (Nat.succ_le_succ (Nat.zero_le _)) (by k_asm) hA rfl)) | exact hcn _ (less r.length (Nat.lt_succ_self _) (.tok (Fr.re (by k_asm) loc_upd) hr q7 (Nat.succ_le_succ (Nat.zero_le _)) (by k_asm) hA rfl))
end
section
theorem dq_noBool : typeLookup (.type "collections.deque") "__bool__" = pure none := by rw [typeLookup_type, builtinLookup_eq_fast]; kernel_rfl
theorem dq_slot_len : Slot "collections.deque" "__len__" "collections.deque.__len__" :=
  .of (owner := "collections.deque") (n := "__len__") (by rw [typeLookup_type, builtinLookup_eq_fast]; kernel_rfl) (by decide +kernel) (by decide +kernel) (by decide +kernel)
    (by first | exact .inl (by decide +kernel) | exact .inr (by decide +kernel)) (by rw [isSubtype_type]; kernel_rfl)
theorem dq_entry_len : entryFor table "collections.deque.__len__" = some Builtin.«collections.deque.__len__» := by first | exact entryFor_of_fast (by kernel_rfl) | exact entryFor_of_tree (by kernel_rfl)
theorem dq_args_len (a : Value) : argsOk "collections.deque.__len__" ⟨[a], []⟩ := by unfold argsOk; kernel_rfl
noncomputable abbrev dqObj : Obj := { cls := .type "collections.deque", data := .fields #[.none, .int 0 0] }
section
variable {prog : Program} {w : World} {A : Around} {E : Value → Shared → Prop} {s : Shared}
theorem dq_typeIs {q : Addr} (h : s.heap.get? q = some dqObj) : s.TypeIs (.ref q) "collections.deque" := (show ∃ o, s.heap.get? q = some o ∧ o.cls = .type "collections.deque" from ⟨_, h, rfl⟩)
theorem dq_len_body {q : Addr} {Q : Value → Shared → Prop} (hl : s.heap.get? q = some dqObj) (h : Q (.int 0 (s.toks + 1)) { s with toks := s.toks + 1 + 1 }) :
    wpAny (model prog w) A (Builtin.«len» ⟨[.ref q], []⟩) (fun fin s' => ∃ r, fin = .done (.ret r) ∧ Q r s') E s := by
  unfold Builtin.«len»
  refine wpAny_bind (m := oneArg "len" _) (wpAny_pure ?_)
  refine wpAny_bind (m := callSpecial? (.ref q) (Str.ofString "__len__")) (wpAny_callSpecial?_slot (name := Str.ofString "__len__") (dq_typeIs hl) dq_slot_len
    (wpAny_call_entry dq_slot_len (dq_typeIs hl) dq_entry_len ?_ (dq_args_len _)))
  show wpAny _ _ (do retInt (← Builtin.Deque.size (.ref q))) _ _ s
  unfold Builtin.Deque.size
  refine wpAny_bind (wpAny_bind (wpAny_fieldsOf hl rfl ?_))
  refine wpAny_pure (wpAny_bind (wpAny_mkInt (wpAny_pure ⟨_, rfl, ?_⟩)))
  refine wpAny_bind (wpAny_holding (wpAny_pure ?_))
  refine wpAny_bind (wpAny_letGo ?_)
  show wpAny _ _ (if ((0 : Nat) : Int) < 0 then _ else _) _ _ _
  rw [if_neg (by decide)]
  show wpAny _ _ (if ((0 : Nat) : Int) ≥ 2 ^ 63 then _ else _) _ _ _
  rw [if_neg (by decide)]
  exact wpAny_bind (wpAny_mkInt (wpAny_pure ⟨_, rfl, h⟩))
theorem dq_truthy {q : Addr} {Q : Bool → Shared → Prop} (hl : s.heap.get? q = some dqObj) (h : Q false { s with toks := s.toks + 1 + 1 }) : wpAny (model prog w) A (truthy (.ref q)) Q E s := by
  have key : wpAny (model prog w) A (runValue (.builtin "len" ⟨[.ref q], []⟩)) (fun r s' => r = .int 0 (s.toks + 1) ∧ Q false s') E s := by
    refine wpAny_runValue (codeAny_builtin entry_len ?_)
    rw [Around.under_plainId plain_len _]
    exact wpAny_mono (dq_len_body (Q := fun r s' => r = .int 0 (s.toks + 1) ∧ Q false s') hl ⟨rfl, h⟩)
      (fun fin s' h' => by obtain ⟨r, rfl, hq⟩ := h'; exact hq) fun _ _ e => e
  unfold truthy
  first
    | refine wpAny_bind (wpAny_callSpecial?_none (name := Str.ofString "__bool__") (dq_typeIs hl) dq_noBool ?_)
    | refine wpAny_bind (wpAny_pure (wpAny_bind (wpAny_callSpecial?_none (name := Str.ofString "__bool__") (dq_typeIs hl) dq_noBool ?_)))
  first
    | refine wpAny_bind (wpAny_specialOf (name := Str.ofString "__len__") (dq_typeIs hl) dq_slot_len.lookup ?_)
    | refine wpAny_bind (wpAny_pure (wpAny_bind (wpAny_specialOf (name := Str.ofString "__len__") (dq_typeIs hl) dq_slot_len.lookup ?_)))
  first
    | exact wpAny_bind (wpAny_mono key (fun r s' h' => by obtain ⟨rfl, hq⟩ := h'; exact wpAny_pure hq) fun _ _ e => e)
    | exact wpAny_bind (wpAny_pure (wpAny_bind (wpAny_mono key (fun r s' h' => by obtain ⟨rfl, hq⟩ := h'; exact wpAny_pure hq) fun _ _ e => e)))
end
theorem dq_mro : mroOf (.type "collections.deque") = pure [.type "collections.deque", .type "object"] := by rw [mroOf_type]; kernel_rfl
theorem dq_lookup_new : typeLookup (.type "collections.deque") "__new__" = pure (some (.builtin "collections.deque.__new__")) := by rw [typeLookup_type, builtinLookup_eq_fast]; kernel_rfl
theorem dq_slot_init : Slot "collections.deque" "__init__" "collections.deque.__init__" :=
  .of (owner := "collections.deque") (n := "__init__") (by rw [typeLookup_type, builtinLookup_eq_fast]; kernel_rfl) (by decide +kernel) (by decide +kernel) (by decide +kernel)
    (by first | exact .inl (by decide +kernel) | exact .inr (by decide +kernel)) (by rw [isSubtype_type]; kernel_rfl)
theorem dq_called : TypeCalled "collections.deque" "collections.deque.__new__" "collections.deque.__init__" :=
  ⟨by decide +kernel, by decide +kernel, ⟨_, _, dq_mro⟩, madeBy_type dq_mro dq_lookup_new (by decide +kernel), by decide +kernel, by rw [isSubtype_type]; kernel_rfl, dq_slot_init⟩
theorem dq_typeCall : checkTypeCall "collections.deque" ⟨[], []⟩ = pure () := by kernel_rfl
theorem dq_newCall : checkBuiltinCall "collections.deque.__new__" ⟨[.type "collections.deque"], []⟩ = pure () := by kernel_rfl
theorem dq_entry_new : entryFor table "collections.deque.__new__" = some Builtin.«collections.deque.__new__» := by first | exact entryFor_of_fast (by kernel_rfl) | exact entryFor_of_tree (by kernel_rfl)
theorem dq_plain_new : plainId "collections.deque.__new__" = true := by decide +kernel
theorem dq_entry_init : entryFor table "collections.deque.__init__" = some Builtin.«collections.deque.__init__» := by first | exact entryFor_of_fast (by kernel_rfl) | exact entryFor_of_tree (by kernel_rfl)
theorem dq_args_init (a : Value) : argsOk "collections.deque.__init__" ⟨[a], []⟩ := by unfold argsOk; kernel_rfl
theorem dq_sub : isSubtype (.type "collections.deque") (.type "collections.deque") = pure true := by rw [isSubtype_type]; kernel_rfl
theorem dq_noDict : typeHasDict (.type "collections.deque") = false := by kernel_rfl
end
section
section
variable {prog : Program} {w : World} {A : Around} {E : Value → Shared → Prop} {s : Shared}
theorem dq_new {Q₁ : Value → Shared → Prop} (h : Q₁ (.ref s.heap.objs.size) { s with heap := s.heap.push dqObj }) :
    codeAny (model prog w) A (.call (.builtin "collections.deque.__new__") ⟨[.type "collections.deque"], []⟩) (wants Q₁ E) s := by
  refine codeAny_of_tree ?_
  show wpAny _ A.in1 (do checkBuiltinCall "collections.deque.__new__" ⟨[.type "collections.deque"], []⟩; again (.builtin "collections.deque.__new__" ⟨[.type "collections.deque"], []⟩)) _ _ s
  refine wpAny_bind (wpAny_of_eq dq_newCall (wpAny_pure ⟨plainId_quiet dq_plain_new _, codeAny_builtin dq_entry_new ?_⟩))
  rw [Around.under_plainId dq_plain_new _]
  unfold Builtin.«collections.deque.__new__» Builtin.Deque.newArgs
  dsimp only
  refine wpAny_bind (wpAny_bind (m := isType (.type "collections.deque")) (wpAny_pure ?_))
  simp only [Bool.not_true, Bool.false_eq_true, if_false]
  refine wpAny_bind (wpAny_of_eq (a := true) dq_sub ?_)
  simp only [Bool.not_true, Bool.false_eq_true, if_false]
  refine wpAny_pure ?_
  unfold Builtin.Deque.new
  have hz : ¬ ((#[] : Array Value).size > sizeLine) := by decide
  rw [if_neg hz]
  simp only [dq_noDict, Bool.false_eq_true, if_false]
  refine wpAny_bind (wpAny_bind (wpAny_pure ?_))
  exact wpAny_newObj_type (wpAny_pure h) (by first | size_fits | exact True.intro | decide | (show (2 : Nat) ≤ _; decide))
theorem dq_make {h₀ : Heap} {L : Addr} {m : Str → Option Value} {news : List (Addr × Obj)} {Q : Value → Shared → Prop} (F : Fr h₀ L s.heap m) (N : News h₀ L s.heap news)
    (h : ∀ q h', Fr h₀ L h' m → News h₀ L h' ((q, dqObj) :: news) → (∀ p ∈ news, p.1 < q) → Q (.ref q) { s with heap := h' }) : wpAny (model prog w) A (call (.type "collections.deque") []) Q E s := by
  refine callType_codes (Q₁ := fun obj s₁ => obj = .ref s.heap.objs.size ∧ s₁ = { s with heap := s.heap.push dqObj }) dq_called dq_typeCall dq_entry_init (dq_new ⟨rfl, rfl⟩) ?_
  rintro obj s₁ ⟨rfl, rfl⟩
  have hg : (s.heap.push dqObj).get? s.heap.objs.size = some dqObj := Heap.get?_push_size _ rfl
  have hlt : ∀ p ∈ news, p.1 < s.heap.objs.size := fun p hp => Heap.lt_size (N p hp).1
  have key := news_upd (f := Obj.mapFields (·.setIfInBounds 0 .none)) (pre := []) (post := news) (o' := dqObj) (F.push dqObj) (N.push F dqObj) (fun _ hp => (nomatch hp)) (fun p hp => Nat.ne_of_lt (hlt p hp)) rfl rfl
  refine ⟨dq_typeIs hg, dq_args_init _, ?_⟩
  show wpAny _ _ (do setField (.ref s.heap.objs.size) 0 .none; Builtin.Deque.clear (.ref s.heap.objs.size); ret .none) _ _ _
  refine wpAny_bind (wpAny_setField hg rfl (by show 0 < 2; decide) ?_)
  unfold Builtin.Deque.clear Builtin.Deque.items
  have hg2 := (key.2 (s.heap.objs.size, dqObj) (.head _)).1
  refine wpAny_bind (wpAny_bind (wpAny_bind (wpAny_fieldsOf hg2 rfl (wpAny_pure ?_))))
  refine wpAny_pure ?_
  refine wpAny_pure ⟨rfl, ?_⟩
  exact h _ _ key.1 key.2 hlt
end
theorem allne_of_lt {l : List (Addr × Obj)} {d : Addr} (h : ∀ p ∈ l, p.1 < d) : ∀ p ∈ l, p.1 ≠ d := fun p hp => Nat.ne_of_lt (h p hp)
end
section
theorem get4 {h₀ h : Heap} {L : Addr} {a b c d : Addr × Obj} {q : Addr} {o : Obj} {news : List (Addr × Obj)} (N : News h₀ L h (a :: b :: c :: d :: news)) (hm : (q, o) ∈ news) : h.get? q = some o := (N (q, o) (.tail _ (.tail _ (.tail _ (.tail _ hm))))).1
end





section
set_option maxHeartbeats 8000000 in
theorem get_token_ok : ∀ (w : World) (mean : ExcName → Option Value) (mg mb : Str → Option Value) (dp un : Nat) (gd : Option (List Code)) (cn : Str) (cs : Scope) (a : Addr) (ccd : Value) (cl : List (Str × Addr)) (outer : List Env) (A₀ : Around) (base h₀ : Heap) (L : Addr) (m : Str → Option Value) (s : Shared) (Q E : Value → Shared → Prop) (io dio : Addr) (buf : Str) (t1 t2 t3 k1 k2 k3 : Tok) (e1 e2 e3 : Int) (pos : Nat) (news : List (Addr × Obj)) (lx dlx pb fs : Addr) (wc : Str) (H : Nat → Int) (T' V : Nat → Tok) (tl tt ts : Tok) (ln : Int) (o : Option (List Nat)) (r' : List Nat)
    (B : Below A₀ base outer h₀) (F : Fr h₀ L s.heap m) (X : (heap w.params).In h₀) (T : Top VW LO mean mg mb h₀) (hk : cs.kind = .function) (N : News h₀ L s.heap ((io, instObj 604 dio) :: (dio, dictOf [⟨e1, .str "_StringIO__newline" k1, .str "\n" t1⟩, ⟨e2, .str "_StringIO__buf" k2, .str buf t2⟩, ⟨e3, .str "_StringIO__pos" k3, .int pos t3⟩] 3) :: (lx, instObj 739 dlx) :: (dlx, dictOf (lexE H T' V io pb fs wc (.str " " ts) (.int ln tl) (.str "" tt)) 19) :: news)) (hne : ∀ p ∈ news, p.1 ≠ dio) (hne2 : ∀ p ∈ news, p.1 ≠ dlx) (n1 : io ≠ dlx) (n2 : dio ≠ dlx) (n3 : lx ≠ dlx) (n4 : lx ≠ dio) (n5 : dlx ≠ dio) (n6 : io ≠ dio) (hd : dp + 32 < recursionLimit) (hu : un + 256 < cLine) (hsz : buf.length < 10000) (hpb : (pb, dqObj) ∈ news) (hfs : (fs, dqObj) ∈ news)
    (ht : TokS (buf.cps.toList.drop pos) o r')
    (hret1 : ∀ (tok : Str) (t ts tl tt t3 : Tok) (pos' : Nat) (ln' : Int) (h' : Heap) (tk' : Nat), o = some tok.cps.toList → 0 < tok.length → r' = buf.cps.toList.drop pos' → Fr h₀ L h' m → News h₀ L h' ((io, instObj 604 dio) :: (dio, dictOf [⟨e1, .str "_StringIO__newline" k1, .str "\n" t1⟩, ⟨e2, .str "_StringIO__buf" k2, .str buf t2⟩, ⟨e3, .str "_StringIO__pos" k3, .int pos' t3⟩] 3) :: (lx, instObj 739 dlx) :: (dlx, dictOf (lexE H T' V io pb fs wc (.str " " ts) (.int ln' tl) (.str "" tt)) 19) :: news) → Q (.str tok t) { s with heap := h', toks := tk' })
    (hret2 : ∀ (tl tt t3 : Tok) (pos' : Nat) (ln' : Int) (h' : Heap) (tk' : Nat), o = none → r' = buf.cps.toList.drop pos' → Fr h₀ L h' m → News h₀ L h' ((io, instObj 604 dio) :: (dio, dictOf [⟨e1, .str "_StringIO__newline" k1, .str "\n" t1⟩, ⟨e2, .str "_StringIO__buf" k2, .str buf t2⟩, ⟨e3, .str "_StringIO__pos" k3, .int pos' t3⟩] 3) :: (lx, instObj 739 dlx) :: (dlx, dictOf (lexE H T' V io pb fs wc (.none) (.int ln' tl) (.str "" tt)) 19) :: news) → Q .none { s with heap := h', toks := tk' }),
    wpAny (model PySem.Challenge.rw_nq0213_01.prog w) (ktrTop dp un gd cn cs L a ccd cl outer) (call (.ref 700) [.ref lx]) Q E s := by
  intro w mean mg mb dp un gd cn cs a ccd cl outer A₀ base h₀ L m s Q E io dio buf t1 t2 t3 k1 k2 k3 e1 e2 e3 pos news lx dlx pb fs wc H T' V tl tt ts ln o r' B F X T hk N hne hne2 n1 n2 n3 n4 n5 n6 hd hu hsz hpb hfs ht hret1 hret2
  refine wpAny_call ?_
  k_dflt (refine' code_def ?k1 ?k2 ?k3 ?k4 ?k5 ?kA ?kF ?kK ?k6 ?k7 ?k8 ?k9 ?kB ?_ ?c2 ?c3 ?c4 ?c5; (case kA => exact rfl); (case kF => exact rfl); (case kK => first | exact rfl | assumption); (case k1 => k_asm); (case k2 => k_asm); (case k3 => k_asm); (case k4 => k_asm); (case k5 => k_asm); (case k6 => k_is); (case k7 => k_is); (case k8 => ktr_room); (case k9 => first | exact BindsTo.of_eq rfl | exact binds_K (by k_in) rfl (by k_is) rfl rfl rfl); (case c5 => decide); (case kB => exact locs rfl); (case c2 => exact rfl); (case c3 => exact rfl); (case c4 => exact rfl); k_whole)
  intro g1 L1 hp1 FG1 F1 N1 B1 X1 T1
  (try dsimp only)
  (try k_lift B1)
  replace F1 := Fr.re (m' := fun y => if y = "self" then some (.ref lx) else none) F1 (fun y => look_chain [(("self" : Str), (.ref lx : Value))] y)
  (try k_fold)
  repeat' (first | (k_unfold; (try dsimp only)) | (k_end; wrow_close) | (with_reducible ((with_reducible show wpAny _ _ (truthy (Value.ref _)) _ _ _); refine dq_truthy (get4 (by k_asm) (by with_reducible assumption)) ?_)) | (with_reducible ((with_reducible show ∀ (_ _ _ : Tok) (_ : Nat) (_ : Int) (_ : Heap) (_ : Nat), _ = none → _); intro _ _ _ _ _ _ _ _ _ _ _; (try dsimp only); (try k_fold))) | (with_reducible ((with_reducible show ∀ (_ : Str) (_ _ _ _ _ : Tok) (_ : Nat) (_ : Int) (_ : Heap) (_ : Nat), _ = some _ → _); intro _ _ _ _ _ _ _ _ _ _ _ _ _ _ _; (try dsimp only); (try k_fold))) | (with_reducible ((with_reducible show wpAny _ _ (call (Value.ref 707) _) _ _ _); k_dflt (refine' read_token_ok _ _ _ _ _ _ _ _ _ _ _ _ _ _ _ _ _ _ _ _ _ _ _ _ _ _ _ _ _ _ _ _ _ _ _ _ _ _ _ _ _ _ _ _ _ _ _ _ _ ?hzk1 ?hzk2 ?hzk3 ?hzk4 ?hzk5 ?hzk6 ?hzk7 ?hzk8 ?hzk9 ?hzkA ?hzkB ?hzj1 ?hzj2 ?hzj3 ?hzkC ?hzkD ?hzkE ?hzkF ?hzr1 ?hzr2; (case hzk1 => k_asm); (case hzk2 => k_asm); (case hzk3 => k_asm); (case hzk4 => k_asm); (case hzk5 => first | exact rfl | assumption); (case hzk6 => k_asm); (case hzk7 => with_reducible assumption); (case hzk8 => with_reducible assumption); (case hzk9 => with_reducible assumption); (case hzkA => with_reducible assumption); (case hzkB => with_reducible assumption); (case hzj1 => with_reducible assumption); (case hzj2 => with_reducible assumption); (case hzj3 => with_reducible assumption); (case hzkC => ktr_room); (case hzkD => ktr_units); (case hzkE => with_reducible assumption); (case hzkF => with_reducible assumption); k_whole))) | (with_reducible ((with_reducible show wpAny _ _ (call (Value.ref 558) _) _ _ _); k_dflt (refine' readline_ok _ _ _ _ _ _ _ _ _ _ _ _ _ _ _ _ _ _ _ _ _ _ _ _ _ _ _ _ _ _ _ _ _ _ _ _ ?hzk1 ?hzk2 ?hzk3 ?hzk4 ?hzk5 ?hzk6 ?hzk7 ?hzk8 ?hzk9 ?hzkA ?hzkB ?hzkC ?hzkD ?hzkE ?hzkF ?hzkG ?_; (case hzk1 => k_asm); (case hzk2 => k_asm); (case hzk3 => k_asm); (case hzk4 => k_asm); (case hzk5 => first | exact rfl | assumption); (case hzk6 => first | k_asm | exact News.tl (by k_asm)); (case hzk7 => k_all); (case hzk8 => with_reducible assumption); (case hzk9 => ktr_room); (case hzkA => ktr_units); (case hzkB => with_reducible assumption); (case hzkC => with_reducible assumption); (case hzkD => with_reducible assumption); (case hzkE => with_reducible assumption); (case hzkF => with_reducible assumption); (case hzkG => with_reducible assumption); k_whole; intro _ _ _ _ _ _ _; (try dsimp only); (try k_fold)))) | (with_reducible ((with_reducible show wpAny _ _ (call (Value.ref 550) [Value.ref _, Value.int _ _]) _ _ _); k_dflt (first | (refine' read1_ok _ _ _ _ _ _ _ _ _ _ _ _ _ _ _ _ _ _ _ _ _ _ _ _ _ _ _ _ _ _ _ _ _ _ _ _ _ ?hzk1 ?hzk2 ?hzk3 ?hzk4 ?hzk5 ?hzk6 ?hzk7 ?hzk8 ?hzk9 ?hzkA ?hzkB ?hzkC ?hzkD ?_; (case hzk1 => k_asm); (case hzk2 => k_asm); (case hzk3 => k_asm); (case hzk4 => k_asm); (case hzk5 => first | exact rfl | assumption); (case hzk6 => k_asm); (case hzk7 => k_all); (case hzk8 => with_reducible assumption); (case hzk9 => ktr_room); (case hzkA => ktr_units); (case hzkB => with_reducible assumption); (case hzkC => with_reducible assumption); (case hzkD => with_reducible assumption); k_whole; intro t9 _ h9 tk9 F9 N9; (try dsimp only); (try k_fold)) | (refine' read0_ok _ _ _ _ _ _ _ _ _ _ _ _ _ _ _ _ _ _ _ _ _ _ _ _ _ _ _ _ _ _ _ _ _ _ _ _ ?hzk1 ?hzk2 ?hzk3 ?hzk4 ?hzk5 ?hzk6 ?hzk7 ?hzk8 ?hzk9 ?hzkA ?hzkB ?hzkC ?_; (case hzk1 => k_asm); (case hzk2 => k_asm); (case hzk3 => k_asm); (case hzk4 => k_asm); (case hzk5 => first | exact rfl | assumption); (case hzk6 => k_asm); (case hzk7 => k_all); (case hzk8 => with_reducible assumption); (case hzk9 => ktr_room); (case hzkA => ktr_units); (case hzkB => with_reducible assumption); (case hzkC => with_reducible assumption); k_whole; intro t9 h9 tk9 F9 N9; (try dsimp only); (try k_fold))))) | (with_reducible ((with_reducible show wpAny _ _ (inplaceOp Operator.Add (Value.str _ _) (Value.str (Str.mk #[_]) _)) _ _ _); refine iadd1 (by with_reducible assumption) ?_; intro _ _)) | (with_reducible ((with_reducible show wpAny _ _ (PySem.truthy (Value.str _ _)) _ _ _); refine truthy_yes (by with_reducible assumption) (by with_reducible assumption) ?_)) | (with_reducible ((with_reducible show wpAny _ _ (execs _ _) _ _ _); (first | k_gentoks | ((with_reducible refine execs_one ?_); try dsimp only)))) | (with_reducible (with_reducible refine wpAny_If ?_)) | (with_reducible (first | (refine ite_isFalse (by with_reducible assumption) ?_) | (refine ite_pos (by with_reducible assumption) ?_) | (refine ite_neg (by with_reducible assumption) ?_))) | walk1 | (dsimp only; walk1) | (leave1; (try dsimp only)) | fail "no step")
  · exact hret1 _ _ _ _ _ _ _ _ _ _ (by with_reducible assumption) (by with_reducible assumption) (by with_reducible assumption) (by k_asm) (by k_asm)
  · exact hret2 _ _ _ _ _ _ _ (by with_reducible assumption) (by with_reducible assumption) (by k_asm) (by k_asm)
end


section
theorem reground {A₀ : Around} {base h₀ g h' : Heap} {outer : List Env} {L e t : Addr} {m : Str → Option Value} {name : Str} {scope : Scope} {a : Addr} {cd : Value} {cl : List (Str × Addr)} {cls : Value} {vs : List Value} {news : List (Addr × Obj)}
    (K : Below A₀ base outer h₀) (F : Fr h₀ L g m) (R : RaisedS base g (envX name scope L a cd cl :: outer) e cls t vs news h') (hsm : g.UpToSlots h') :
    ∃ h₁, KtsTurn (outer.filterMap (·.frame)) h₀ h₁ ∧ Fr h₁ L h' m ∧ Below A₀ base outer h₁ ∧ News h₁ L h' news := by
  obtain ⟨⟨B, hB, hBG, hl, hfl, _⟩, _⟩ := R
  obtain ⟨h₁, T, F', B'⟩ := kts_ground (name := name) (scope := scope) (a := a) (cd := cd) K F hBG hfl.1 hsm
  refine ⟨h₁, T, F', B', fun q hq => ⟨hfl.1 _ _ (hl q hq).1, fun z => ?_, T.none_ _ ?_⟩⟩
  · obtain ⟨o, _, _, ho, _⟩ := F.ns
    have := (hl q hq).2.1
    rw [z, ho] at this
    cases this
  · exact kts_none F.keep (hl q hq).2.1
set_option maxHeartbeats 8000000 in
theorem next_ok : ∀ (w : World) (mean : ExcName → Option Value) (mg mb : Str → Option Value) (dp un : Nat) (gd : Option (List Code)) (cn : Str) (cs : Scope) (a : Addr) (ccd : Value) (cl : List (Str × Addr)) (outer : List Env) (A₀ : Around) (base h₀ : Heap) (L : Addr) (m : Str → Option Value) (s : Shared) (Q : Option Value → Shared → Prop) (E : Value → Shared → Prop) (io dio : Addr) (buf : Str) (t1 t2 t3 k1 k2 k3 : Tok) (e1 e2 e3 : Int) (pos : Nat) (news : List (Addr × Obj)) (lx dlx pb fs : Addr) (wc : Str) (H : Nat → Int) (T' V : Nat → Tok) (tl tt ts : Tok) (ln : Int) (o : Option (List Nat)) (r' : List Nat)
    (B : Below A₀ base outer h₀) (F : Fr h₀ L s.heap m) (X : (heap w.params).In h₀) (T : Top VW LO mean mg mb h₀) (hk : cs.kind = .function) (N : News h₀ L s.heap ((io, instObj 604 dio) :: (dio, dictOf [⟨e1, .str "_StringIO__newline" k1, .str "\n" t1⟩, ⟨e2, .str "_StringIO__buf" k2, .str buf t2⟩, ⟨e3, .str "_StringIO__pos" k3, .int pos t3⟩] 3) :: (lx, instObj 739 dlx) :: (dlx, dictOf (lexE H T' V io pb fs wc (.str " " ts) (.int ln tl) (.str "" tt)) 19) :: news)) (hne : ∀ p ∈ news, p.1 ≠ dio) (hne2 : ∀ p ∈ news, p.1 ≠ dlx) (n1 : io ≠ dlx) (n2 : dio ≠ dlx) (n3 : lx ≠ dlx) (n4 : lx ≠ dio) (n5 : dlx ≠ dio) (n6 : io ≠ dio) (hd : dp + 48 < recursionLimit) (hu : un + 400 < cLine) (hsz : buf.length < 10000) (hpb : (pb, dqObj) ∈ news) (hfs : (fs, dqObj) ∈ news)
    (ht : TokS (buf.cps.toList.drop pos) o r')
    (hret1 : ∀ (tok : Str) (t ts tl tt t3 : Tok) (pos' : Nat) (ln' : Int) (h' : Heap) (tk' : Nat), o = some tok.cps.toList → 0 < tok.length → r' = buf.cps.toList.drop pos' → Fr h₀ L h' m → News h₀ L h' ((io, instObj 604 dio) :: (dio, dictOf [⟨e1, .str "_StringIO__newline" k1, .str "\n" t1⟩, ⟨e2, .str "_StringIO__buf" k2, .str buf t2⟩, ⟨e3, .str "_StringIO__pos" k3, .int pos' t3⟩] 3) :: (lx, instObj 739 dlx) :: (dlx, dictOf (lexE H T' V io pb fs wc (.str " " ts) (.int ln' tl) (.str "" tt)) 19) :: news) → Q (some (.str tok t)) { s with heap := h', toks := tk' })
    (hret2 : ∀ (tl tt t3 : Tok) (pos' : Nat) (ln' : Int) (h₁ h' : Heap) (tk' : Nat), o = none → r' = buf.cps.toList.drop pos' → KtsTurn (outer.filterMap (·.frame)) h₀ h₁ → Below A₀ base outer h₁ → Fr h₁ L h' m → News h₁ L h' ((io, instObj 604 dio) :: (dio, dictOf [⟨e1, .str "_StringIO__newline" k1, .str "\n" t1⟩, ⟨e2, .str "_StringIO__buf" k2, .str buf t2⟩, ⟨e3, .str "_StringIO__pos" k3, .int pos' t3⟩] 3) :: (lx, instObj 739 dlx) :: (dlx, dictOf (lexE H T' V io pb fs wc (.none) (.int ln' tl) (.str "" tt)) 19) :: news) → Q none { s with heap := h', toks := tk' }),
    wpAny (model PySem.Challenge.rw_nq0213_01.prog w) (ktrTop dp un gd cn cs L a ccd cl outer) (pyNext (.ref lx)) Q E s := by
  intro w mean mg mb dp un gd cn cs a ccd cl outer A₀ base h₀ L m s Q E io dio buf t1 t2 t3 k1 k2 k3 e1 e2 e3 pos news lx dlx pb fs wc H T' V tl tt ts ln o r' B F X T hk N hne hne2 n1 n2 n3 n4 n5 n6 hd hu hsz hpb hfs ht hret1 hret2
  k_dflt (refine' owit_next ?F ?X ?I ?hs ?hf ?_; (case F => k_asm); (case X => k_asm); (case I => k_inst); (case hs => k_is); (case hf => k_is); k_whole)
  refine wpAny_call ?_
  k_dflt (refine' code_def ?k1 ?k2 ?k3 ?k4 ?k5 ?kA ?kF ?kK ?k6 ?k7 ?k8 ?k9 ?kB ?_ ?c2 ?c3 ?c4 ?c5; (case kA => exact rfl); (case kF => exact rfl); (case kK => first | exact rfl | assumption); (case k1 => k_asm); (case k2 => k_asm); (case k3 => k_asm); (case k4 => k_asm); (case k5 => k_asm); (case k6 => k_is); (case k7 => k_is); (case k8 => ktr_room); (case k9 => first | exact BindsTo.of_eq rfl | exact binds_K (by k_in) rfl (by k_is) rfl rfl rfl); (case c5 => decide); (case kB => exact locs rfl); (case c2 => exact rfl); (case c3 => exact rfl); (case c4 => exact rfl); k_whole)
  intro g1 L1 hp1 FG1 F1 N1 B1 X1 T1
  (try dsimp only)
  (try k_lift B1)
  replace F1 := Fr.re (m' := fun y => if y = "self" then some (.ref lx) else none) F1 (fun y => look_chain [(("self" : Str), (.ref lx : Value))] y)
  (try k_fold)
  repeat' ((fail_if_success (with_reducible show wpAny _ _ (leaving _ _) _ _ _)); first | (k_unfold; (try dsimp only)) | (k_end; wrow_close) | (with_reducible ((with_reducible show wpAny _ _ (call (Value.ref 700) _) _ _ _); k_dflt (refine' get_token_ok _ _ _ _ _ _ _ _ _ _ _ _ _ _ _ _ _ _ _ _ _ _ _ _ _ _ _ _ _ _ _ _ _ _ _ _ _ _ _ _ _ _ _ _ _ _ _ _ _ ?hzk1 ?hzk2 ?hzk3 ?hzk4 ?hzk5 ?hzk6 ?hzk7 ?hzk8 ?hzk9 ?hzkA ?hzkB ?hzj1 ?hzj2 ?hzj3 ?hzkC ?hzkD ?hzkE ?hzkG ?hzkH ?hzkF ?hzr1 ?hzr2; (case hzk1 => k_asm); (case hzk2 => k_asm); (case hzk3 => k_asm); (case hzk4 => k_asm); (case hzk5 => first | exact rfl | assumption); (case hzk6 => k_asm); (case hzk7 => with_reducible assumption); (case hzk8 => with_reducible assumption); (case hzk9 => with_reducible assumption); (case hzkA => with_reducible assumption); (case hzkB => with_reducible assumption); (case hzj1 => with_reducible assumption); (case hzj2 => with_reducible assumption); (case hzj3 => with_reducible assumption); (case hzkC => ktr_room); (case hzkD => ktr_units); (case hzkE => with_reducible assumption); (case hzkG => with_reducible assumption); (case hzkH => with_reducible assumption); (case hzkF => with_reducible assumption); k_whole))) | (with_reducible ((with_reducible show wpAny _ _ (truthy (Value.ref _)) _ _ _); refine dq_truthy (get4 (by k_asm) (by with_reducible assumption)) ?_)) | (with_reducible ((with_reducible show ∀ (_ _ _ : Tok) (_ : Nat) (_ : Int) (_ : Heap) (_ : Nat), _ = none → _); intro _ _ _ _ _ _ _ _ _ _ _; (try dsimp only); (try k_fold))) | (with_reducible ((with_reducible show ∀ (_ : Str) (_ _ _ _ _ : Tok) (_ : Nat) (_ : Int) (_ : Heap) (_ : Nat), _ = some _ → _); intro _ _ _ _ _ _ _ _ _ _ _ _ _ _ _; (try dsimp only); (try k_fold))) | (with_reducible ((with_reducible show wpAny _ _ (call (Value.ref 707) _) _ _ _); k_dflt (refine' read_token_ok _ _ _ _ _ _ _ _ _ _ _ _ _ _ _ _ _ _ _ _ _ _ _ _ _ _ _ _ _ _ _ _ _ _ _ _ _ _ _ _ _ _ _ _ _ _ _ _ _ ?hzk1 ?hzk2 ?hzk3 ?hzk4 ?hzk5 ?hzk6 ?hzk7 ?hzk8 ?hzk9 ?hzkA ?hzkB ?hzj1 ?hzj2 ?hzj3 ?hzkC ?hzkD ?hzkE ?hzkF ?hzr1 ?hzr2; (case hzk1 => k_asm); (case hzk2 => k_asm); (case hzk3 => k_asm); (case hzk4 => k_asm); (case hzk5 => first | exact rfl | assumption); (case hzk6 => k_asm); (case hzk7 => with_reducible assumption); (case hzk8 => with_reducible assumption); (case hzk9 => with_reducible assumption); (case hzkA => with_reducible assumption); (case hzkB => with_reducible assumption); (case hzj1 => with_reducible assumption); (case hzj2 => with_reducible assumption); (case hzj3 => with_reducible assumption); (case hzkC => ktr_room); (case hzkD => ktr_units); (case hzkE => with_reducible assumption); (case hzkF => with_reducible assumption); k_whole))) | (with_reducible ((with_reducible show wpAny _ _ (call (Value.ref 558) _) _ _ _); k_dflt (refine' readline_ok _ _ _ _ _ _ _ _ _ _ _ _ _ _ _ _ _ _ _ _ _ _ _ _ _ _ _ _ _ _ _ _ _ _ _ _ ?hzk1 ?hzk2 ?hzk3 ?hzk4 ?hzk5 ?hzk6 ?hzk7 ?hzk8 ?hzk9 ?hzkA ?hzkB ?hzkC ?hzkD ?hzkE ?hzkF ?hzkG ?_; (case hzk1 => k_asm); (case hzk2 => k_asm); (case hzk3 => k_asm); (case hzk4 => k_asm); (case hzk5 => first | exact rfl | assumption); (case hzk6 => first | k_asm | exact News.tl (by k_asm)); (case hzk7 => k_all); (case hzk8 => with_reducible assumption); (case hzk9 => ktr_room); (case hzkA => ktr_units); (case hzkB => with_reducible assumption); (case hzkC => with_reducible assumption); (case hzkD => with_reducible assumption); (case hzkE => with_reducible assumption); (case hzkF => with_reducible assumption); (case hzkG => with_reducible assumption); k_whole; intro _ _ _ _ _ _ _; (try dsimp only); (try k_fold)))) | (with_reducible ((with_reducible show wpAny _ _ (call (Value.ref 550) [Value.ref _, Value.int _ _]) _ _ _); k_dflt (first | (refine' read1_ok _ _ _ _ _ _ _ _ _ _ _ _ _ _ _ _ _ _ _ _ _ _ _ _ _ _ _ _ _ _ _ _ _ _ _ _ _ ?hzk1 ?hzk2 ?hzk3 ?hzk4 ?hzk5 ?hzk6 ?hzk7 ?hzk8 ?hzk9 ?hzkA ?hzkB ?hzkC ?hzkD ?_; (case hzk1 => k_asm); (case hzk2 => k_asm); (case hzk3 => k_asm); (case hzk4 => k_asm); (case hzk5 => first | exact rfl | assumption); (case hzk6 => k_asm); (case hzk7 => k_all); (case hzk8 => with_reducible assumption); (case hzk9 => ktr_room); (case hzkA => ktr_units); (case hzkB => with_reducible assumption); (case hzkC => with_reducible assumption); (case hzkD => with_reducible assumption); k_whole; intro t9 _ h9 tk9 F9 N9; (try dsimp only); (try k_fold)) | (refine' read0_ok _ _ _ _ _ _ _ _ _ _ _ _ _ _ _ _ _ _ _ _ _ _ _ _ _ _ _ _ _ _ _ _ _ _ _ _ ?hzk1 ?hzk2 ?hzk3 ?hzk4 ?hzk5 ?hzk6 ?hzk7 ?hzk8 ?hzk9 ?hzkA ?hzkB ?hzkC ?_; (case hzk1 => k_asm); (case hzk2 => k_asm); (case hzk3 => k_asm); (case hzk4 => k_asm); (case hzk5 => first | exact rfl | assumption); (case hzk6 => k_asm); (case hzk7 => k_all); (case hzk8 => with_reducible assumption); (case hzk9 => ktr_room); (case hzkA => ktr_units); (case hzkB => with_reducible assumption); (case hzkC => with_reducible assumption); k_whole; intro t9 h9 tk9 F9 N9; (try dsimp only); (try k_fold))))) | (with_reducible ((with_reducible show wpAny _ _ (inplaceOp Operator.Add (Value.str _ _) (Value.str (Str.mk #[_]) _)) _ _ _); refine iadd1 (by with_reducible assumption) ?_; intro _ _)) | (with_reducible ((with_reducible show wpAny _ _ (PySem.truthy (Value.str _ _)) _ _ _); refine truthy_yes (by with_reducible assumption) (by with_reducible assumption) ?_)) | (with_reducible ((with_reducible show wpAny _ _ (execs _ _) _ _ _); (first | k_gentoks | ((with_reducible refine execs_one ?_); try dsimp only)))) | (with_reducible (with_reducible refine wpAny_If ?_)) | (with_reducible (first | (refine ite_isFalse (by with_reducible assumption) ?_) | (refine ite_pos (by with_reducible assumption) ?_) | (refine ite_neg (by with_reducible assumption) ?_))) | walk1 | (dsimp only; walk1) | (leave1; (try dsimp only)) | fail "no step")
  · exact hret1 _ _ _ _ _ _ _ _ _ _ (by with_reducible assumption) (by with_reducible assumption) (by with_reducible assumption) (by k_asm) (by k_asm)
  · rename Heap.MadeExc _ _ _ _ _ => mx
    refine leave_raiseS B1 (Heap.MadeExc.of mx) (by k_asm) (by k_asm) ?_
    intro h9 t9 R9 RK9 U9
    obtain ⟨h₁, KT, F8, B8, N8⟩ := reground B FG1 R9 U9
    have hfl := R9
    obtain ⟨⟨Bx, _, _, _, hfx, _⟩, _⟩ := hfl
    obtain ⟨ob, hob, hobc⟩ := hfx.there
    unfold OwitStop
    refine wpAny_isInstance (show ∃ o, h9.get? _ = some o ∧ o.cls = .type "StopIteration" from ⟨ob, hob, hobc⟩) isSubtype_stop ?_
    show (if true = true then _ else _)
    rw [if_pos rfl]
    exact hret2 _ _ _ _ _ _ _ _ (by with_reducible assumption) (by with_reducible assumption) KT B8 F8 N8
end
section
inductive Toks : List Nat → List (List Nat) → Prop
  | nil (r) : TokS r none [] → Toks r []
  | cons (r w r' ws) : TokS r (some w) r' → Toks r' ws → Toks r (w :: ws)
inductive WordsAre : List Value → List (List Nat) → Prop
  | nil : WordsAre [] []
  | cons (t : Tok) (w vs ws) : WordsAre vs ws → WordsAre (.str ⟨w.toArray⟩ t :: vs) (w :: ws)
theorem WordsAre.snoc {t : Tok} {w : List Nat} : ∀ {vs ws}, WordsAre vs ws → WordsAre (vs ++ [.str ⟨w.toArray⟩ t]) (ws ++ [w])
  | _, _, .nil => .cons t w _ _ .nil
  | _, _, .cons t' w' _ _ h => .cons t' w' _ _ h.snoc
theorem str_of_list {tok : Str} {w : List Nat} (h : some w = some tok.cps.toList) : tok = ⟨w.toArray⟩ := by
  have : w = tok.cps.toList := Option.some.inj h
  rw [this]
set_option maxHeartbeats 8000000 in
theorem extend_ok : ∀ (w : World) (mean : ExcName → Option Value) (mg mb : Str → Option Value) (dp un : Nat) (gd : Option (List Code)) (cn : Str) (cs : Scope) (a : Addr) (ccd : Value) (cl : List (Str × Addr)) (outer : List Env) (A₀ : Around) (base h₀ : Heap) (L : Addr) (m : Str → Option Value) (s : Shared) (R : Result → Shared → Prop) (io dio : Addr) (buf : Str) (t1 t2 t3 k1 k2 k3 : Tok) (e1 e2 e3 : Int) (pos : Nat) (news : List (Addr × Obj)) (lx dlx pb fs : Addr) (wc : Str) (H : Nat → Int) (T' V : Nat → Tok) (S : Addr) (res : Value) (rem : List Nat) (ws : List (List Nat)) (htk : Toks rem ws) (acc : Array Value) (c : Nat) (ws₀ : List (List Nat)) (tl tt ts : Tok) (ln : Int)
    (B : Below A₀ base outer h₀) (F : Fr h₀ L s.heap m) (X : (heap w.params).In h₀) (T : Top VW LO mean mg mb h₀) (hk : cs.kind = .function) (N : News h₀ L s.heap ((io, instObj 604 dio) :: (dio, dictOf [⟨e1, .str "_StringIO__newline" k1, .str "\n" t1⟩, ⟨e2, .str "_StringIO__buf" k2, .str buf t2⟩, ⟨e3, .str "_StringIO__pos" k3, .int pos t3⟩] 3) :: (lx, instObj 739 dlx) :: (dlx, dictOf (lexE H T' V io pb fs wc (.str " " ts) (.int ln tl) (.str "" tt)) 19) :: (S, { cls := .type "list", data := .seq acc c }) :: news)) (hne : ∀ p ∈ news, p.1 ≠ dio) (hne2 : ∀ p ∈ news, p.1 ≠ dlx) (n1 : io ≠ dlx) (n2 : dio ≠ dlx) (n3 : lx ≠ dlx) (n4 : lx ≠ dio) (n5 : dlx ≠ dio) (n6 : io ≠ dio) (hd : dp + 48 < recursionLimit) (hu : un + 440 < cLine) (hsz : buf.length < 10000) (hpb : (pb, dqObj) ∈ news) (hfs : (fs, dqObj) ∈ news)
    (hS1 : S ≠ dio) (hS2 : S ≠ dlx) (hS3 : io ≠ S) (hS4 : dio ≠ S) (hS5 : lx ≠ S) (hS6 : dlx ≠ S) (hS7 : ∀ p ∈ news, p.1 ≠ S)
    (hr : rem = buf.cps.toList.drop pos) (hw : WordsAre acc.toList ws₀) (hac : acc.size + ws.length < 10000)
    (hret : ∀ (acc' : Array Value) (c' : Nat) (tl tt t3 : Tok) (pos' : Nat) (ln' : Int) (h₁ h' : Heap) (tk' : Nat), WordsAre acc'.toList (ws₀ ++ ws) → KtsTurn (outer.filterMap (·.frame)) h₀ h₁ → Below A₀ base outer h₁ → Fr h₁ L h' m → News h₁ L h' ((io, instObj 604 dio) :: (dio, dictOf [⟨e1, .str "_StringIO__newline" k1, .str "\n" t1⟩, ⟨e2, .str "_StringIO__buf" k2, .str buf t2⟩, ⟨e3, .str "_StringIO__pos" k3, .int pos' t3⟩] 3) :: (lx, instObj 739 dlx) :: (dlx, dictOf (lexE H T' V io pb fs wc (.none) (.int ln' tl) (.str "" tt)) 19) :: (S, { cls := .type "list", data := .seq acc' c' }) :: news) → R (.ok (.ret res)) { s with heap := h', toks := tk' }),
    codeAny (model PySem.Challenge.rw_nq0213_01.prog w) (ktrTop dp un gd cn cs L a ccd cl outer) (.builtin "list.extend.loop" ⟨[.ref S, .ref lx, res], []⟩) R s := by
  intro w mean mg mb dp un gd cn cs a ccd cl outer A₀ base h₀ L m s R io dio buf t1 t2 t3 k1 k2 k3 e1 e2 e3 pos news lx dlx pb fs wc H T' V S res rem ws htk acc c ws₀ tl tt ts ln B F X T hk N hne hne2 n1 n2 n3 n4 n5 n6 hd hu hsz hpb hfs hS1 hS2 hS3 hS4 hS5 hS6 hS7 hr hw hac hret
  induction htk generalizing s pos t3 acc c ws₀ tl tt ts ln with
  | nil r h1 =>
    refine codeAny_builtin PySem.F.entry_extend_loop ?_
    rw [Around.under_plainId PySem.F.plain_extend_loop _]
    show wpAny _ _ (pyNext (.ref lx) >>= _) _ _ s
    refine wpAny_bind ?_
    subst hr
    refine next_ok w mean mg mb dp (un + 1) gd cn cs a ccd cl outer A₀ base h₀ L m s _ _ io dio buf t1 t2 t3 k1 k2 k3 e1 e2 e3 pos _ lx dlx pb fs wc H T' V tl tt ts ln none [] B F X T hk N ?_ ?_ n1 n2 n3 n4 n5 n6 (by omega) (by omega) hsz (.tail _ hpb) (.tail _ hfs) h1 ?_ ?_
    · intro p hp
      rcases List.mem_cons.mp hp with rfl | hp
      · exact hS1
      · exact hne p hp
    · intro p hp
      rcases List.mem_cons.mp hp with rfl | hp
      · exact hS2
      · exact hne2 p hp
    · intro tok t ts tl tt t3 pos' ln' h' tk' ho
      cases ho
    · intro tl tt t3 pos' ln' h₁ h' tk' _ _ KT B' F' N'
      exact wpAny_pure (hret acc c tl tt t3 pos' ln' h₁ h' tk' (by rw [List.append_nil]; exact hw) KT B' F' N')
  | cons r wd r' ws h1 _ ih =>
    refine codeAny_builtin PySem.F.entry_extend_loop ?_
    rw [Around.under_plainId PySem.F.plain_extend_loop _]
    show wpAny _ _ (pyNext (.ref lx) >>= _) _ _ s
    refine wpAny_bind ?_
    subst hr
    refine next_ok w mean mg mb dp (un + 1) gd cn cs a ccd cl outer A₀ base h₀ L m s _ _ io dio buf t1 t2 t3 k1 k2 k3 e1 e2 e3 pos _ lx dlx pb fs wc H T' V tl tt ts ln (some wd) r' B F X T hk N ?_ ?_ n1 n2 n3 n4 n5 n6 (by omega) (by omega) hsz (.tail _ hpb) (.tail _ hfs) h1 ?_ ?_
    · intro p hp
      rcases List.mem_cons.mp hp with rfl | hp
      · exact hS1
      · exact hne p hp
    · intro p hp
      rcases List.mem_cons.mp hp with rfl | hp
      · exact hS2
      · exact hne2 p hp
    · intro tok t ts tl tt t3 pos' ln' h' tk' ho _ hr' F' N'
      obtain rfl := str_of_list ho
      have hS := (N' (S, { cls := .type "list", data := .seq acc c }) (.tail _ (.tail _ (.tail _ (.tail _ (.head _)))))).1
      have hz : acc.size ≤ sizeLine := by
        have : (10000 : Nat) ≤ sizeLine := by decide
        omega
      show wpAny _ _ (updateSeq S (·.push _) >>= _) _ _ _
      refine wpAny_bind (wpAny_updateSeq hS rfl ?_ hz (by show (acc.push _).size ≤ sizeLine + 1; rw [Array.size_push]; omega))
      have key := news_upd (f := Obj.mapSeq (·.push (.str ⟨wd.toArray⟩ t))) (d := S) (pre := [_, _, _, _]) (post := news) (o' := { cls := .type "list", data := .seq (acc.push (.str ⟨wd.toArray⟩ t)) (c + 1) }) F' N' ?_ hS7 ?_ rfl
      · refine wpAny_pure ⟨plainId_quiet PySem.F.plain_extend_loop _, ?_⟩
        refine ih _ t3 pos' _ _ (ws₀ ++ [wd]) tl tt ts ln' key.1 key.2 hr' ?_ ?_ ?_
        · rw [Array.toList_push]; exact hw.snoc
        · rw [Array.size_push]; simp only [List.length_cons] at hac; omega
        · intro acc' c' tl tt t3 pos'' ln'' h₁ h'' tk'' hW KT B2 F2 N2
          exact hret acc' c' tl tt t3 pos'' ln'' h₁ h'' tk'' (by rw [List.append_assoc] at hW; exact hW) KT B2 F2 N2
      · intro p hp
        simp only [List.mem_cons, List.not_mem_nil, or_false] at hp
        rcases hp with rfl | rfl | rfl | rfl
        · exact hS3
        · exact hS4
        · exact hS5
        · exact hS6
      · show Obj.mk _ _ (Data.seq _ (if ((acc.push _).size == acc.size) = true then c else c + 1)) _ = _
        rw [if_neg (by rw [Array.size_push]; simp)]
    · intro tl tt t3 pos' ln' h₁ h' tk' ho
      cases ho
end
section
theorem perm5 {a b c d x p : Addr × Obj} {l : List (Addr × Obj)} (hp : p ∈ a :: b :: c :: d :: x :: l) : p ∈ x :: a :: b :: c :: d :: l := by
  simp only [List.mem_cons] at hp ⊢
  rcases hp with h | h | h | h | h | h
  · exact .inr (.inl h)
  · exact .inr (.inr (.inl h))
  · exact .inr (.inr (.inr (.inl h)))
  · exact .inr (.inr (.inr (.inr (.inl h))))
  · exact .inl h
  · exact .inr (.inr (.inr (.inr (.inr h))))
set_option maxHeartbeats 8000000 in
theorem iter_ok : ∀ (w : World) (mean : ExcName → Option Value) (mg mb : Str → Option Value) (dp un : Nat) (gd : Option (List Code)) (cn : Str) (cs : Scope) (a : Addr) (ccd : Value) (cl : List (Str × Addr)) (outer : List Env) (A₀ : Around) (base h₀ : Heap) (L : Addr) (m : Str → Option Value) (s : Shared) (Q E : Value → Shared → Prop) (lx dlx : Addr) (od : Obj) (news : List (Addr × Obj))
    (B : Below A₀ base outer h₀) (F : Fr h₀ L s.heap m) (X : (heap w.params).In h₀) (T : Top VW LO mean mg mb h₀) (hk : cs.kind = .function) (N : News h₀ L s.heap news) (h1 : (lx, instObj 739 dlx) ∈ news) (h2 : (dlx, od) ∈ news) (hd : dp + 8 < recursionLimit) (hu : un + 64 < cLine)
    (hret : ∀ (h' : Heap) (tk' : Nat), Fr h₀ L h' m → News h₀ L h' news → Q (.ref lx) { s with heap := h', toks := tk' }),
    wpAny (model PySem.Challenge.rw_nq0213_01.prog w) (ktrTop dp un gd cn cs L a ccd cl outer) (pyIter (.ref lx)) Q E s := by
  intro w mean mg mb dp un gd cn cs a ccd cl outer A₀ base h₀ L m s Q E lx dlx od news B F X T hk N h1 h2 hd hu hret
  k_dflt (refine' owit_iter ?F ?X (InstAt.of_news N h1 h2) ?hs ?hf ?_; (case F => k_asm); (case X => k_asm); (case hs => k_is); (case hf => k_is); k_whole)
  refine wpAny_call ?_
  k_dflt (refine' code_def ?k1 ?k2 ?k3 ?k4 ?k5 ?kA ?kF ?kK ?k6 ?k7 ?k8 ?k9 ?kB ?_ ?c2 ?c3 ?c4 ?c5; (case kA => exact rfl); (case kF => exact rfl); (case kK => first | exact rfl | assumption); (case k1 => k_asm); (case k2 => k_asm); (case k3 => k_asm); (case k4 => k_asm); (case k5 => k_asm); (case k6 => k_is); (case k7 => k_is); (case k8 => ktr_room); (case k9 => first | exact BindsTo.of_eq rfl | exact binds_K (by k_in) rfl (by k_is) rfl rfl rfl); (case c5 => decide); (case kB => exact locs rfl); (case c2 => exact rfl); (case c3 => exact rfl); (case c4 => exact rfl); k_whole)
  intro g1 L1 hp1 FG1 F1 N1 B1 X1 T1
  (try dsimp only)
  (try k_lift B1)
  replace F1 := Fr.re (m' := fun y => if y = "self" then some (.ref lx) else none) F1 (fun y => look_chain [(("self" : Str), (.ref lx : Value))] y)
  (try k_fold)
  repeat' ((fail_if_success (with_reducible show OwitIt _ _ _ _ _ _)); first | (k_unfold; (try dsimp only)) | (k_end; wrow_close) | (with_reducible ((with_reducible show wpAny _ _ (call (Value.ref 700) _) _ _ _); k_dflt (refine' get_token_ok _ _ _ _ _ _ _ _ _ _ _ _ _ _ _ _ _ _ _ _ _ _ _ _ _ _ _ _ _ _ _ _ _ _ _ _ _ _ _ _ _ _ _ _ _ _ _ _ _ ?hzk1 ?hzk2 ?hzk3 ?hzk4 ?hzk5 ?hzk6 ?hzk7 ?hzk8 ?hzk9 ?hzkA ?hzkB ?hzj1 ?hzj2 ?hzj3 ?hzkC ?hzkD ?hzkE ?hzkG ?hzkH ?hzkF ?hzr1 ?hzr2; (case hzk1 => k_asm); (case hzk2 => k_asm); (case hzk3 => k_asm); (case hzk4 => k_asm); (case hzk5 => first | exact rfl | assumption); (case hzk6 => k_asm); (case hzk7 => with_reducible assumption); (case hzk8 => with_reducible assumption); (case hzk9 => with_reducible assumption); (case hzkA => with_reducible assumption); (case hzkB => with_reducible assumption); (case hzj1 => with_reducible assumption); (case hzj2 => with_reducible assumption); (case hzj3 => with_reducible assumption); (case hzkC => ktr_room); (case hzkD => ktr_units); (case hzkE => with_reducible assumption); (case hzkG => with_reducible assumption); (case hzkH => with_reducible assumption); (case hzkF => with_reducible assumption); k_whole))) | (with_reducible ((with_reducible show wpAny _ _ (truthy (Value.ref _)) _ _ _); refine dq_truthy (get4 (by k_asm) (by with_reducible assumption)) ?_)) | (with_reducible ((with_reducible show ∀ (_ _ _ : Tok) (_ : Nat) (_ : Int) (_ : Heap) (_ : Nat), _ = none → _); intro _ _ _ _ _ _ _ _ _ _ _; (try dsimp only); (try k_fold))) | (with_reducible ((with_reducible show ∀ (_ : Str) (_ _ _ _ _ : Tok) (_ : Nat) (_ : Int) (_ : Heap) (_ : Nat), _ = some _ → _); intro _ _ _ _ _ _ _ _ _ _ _ _ _ _ _; (try dsimp only); (try k_fold))) | (with_reducible ((with_reducible show wpAny _ _ (call (Value.ref 707) _) _ _ _); k_dflt (refine' read_token_ok _ _ _ _ _ _ _ _ _ _ _ _ _ _ _ _ _ _ _ _ _ _ _ _ _ _ _ _ _ _ _ _ _ _ _ _ _ _ _ _ _ _ _ _ _ _ _ _ _ ?hzk1 ?hzk2 ?hzk3 ?hzk4 ?hzk5 ?hzk6 ?hzk7 ?hzk8 ?hzk9 ?hzkA ?hzkB ?hzj1 ?hzj2 ?hzj3 ?hzkC ?hzkD ?hzkE ?hzkF ?hzr1 ?hzr2; (case hzk1 => k_asm); (case hzk2 => k_asm); (case hzk3 => k_asm); (case hzk4 => k_asm); (case hzk5 => first | exact rfl | assumption); (case hzk6 => k_asm); (case hzk7 => with_reducible assumption); (case hzk8 => with_reducible assumption); (case hzk9 => with_reducible assumption); (case hzkA => with_reducible assumption); (case hzkB => with_reducible assumption); (case hzj1 => with_reducible assumption); (case hzj2 => with_reducible assumption); (case hzj3 => with_reducible assumption); (case hzkC => ktr_room); (case hzkD => ktr_units); (case hzkE => with_reducible assumption); (case hzkF => with_reducible assumption); k_whole))) | (with_reducible ((with_reducible show wpAny _ _ (call (Value.ref 558) _) _ _ _); k_dflt (refine' readline_ok _ _ _ _ _ _ _ _ _ _ _ _ _ _ _ _ _ _ _ _ _ _ _ _ _ _ _ _ _ _ _ _ _ _ _ _ ?hzk1 ?hzk2 ?hzk3 ?hzk4 ?hzk5 ?hzk6 ?hzk7 ?hzk8 ?hzk9 ?hzkA ?hzkB ?hzkC ?hzkD ?hzkE ?hzkF ?hzkG ?_; (case hzk1 => k_asm); (case hzk2 => k_asm); (case hzk3 => k_asm); (case hzk4 => k_asm); (case hzk5 => first | exact rfl | assumption); (case hzk6 => first | k_asm | exact News.tl (by k_asm)); (case hzk7 => k_all); (case hzk8 => with_reducible assumption); (case hzk9 => ktr_room); (case hzkA => ktr_units); (case hzkB => with_reducible assumption); (case hzkC => with_reducible assumption); (case hzkD => with_reducible assumption); (case hzkE => with_reducible assumption); (case hzkF => with_reducible assumption); (case hzkG => with_reducible assumption); k_whole; intro _ _ _ _ _ _ _; (try dsimp only); (try k_fold)))) | (with_reducible ((with_reducible show wpAny _ _ (call (Value.ref 550) [Value.ref _, Value.int _ _]) _ _ _); k_dflt (first | (refine' read1_ok _ _ _ _ _ _ _ _ _ _ _ _ _ _ _ _ _ _ _ _ _ _ _ _ _ _ _ _ _ _ _ _ _ _ _ _ _ ?hzk1 ?hzk2 ?hzk3 ?hzk4 ?hzk5 ?hzk6 ?hzk7 ?hzk8 ?hzk9 ?hzkA ?hzkB ?hzkC ?hzkD ?_; (case hzk1 => k_asm); (case hzk2 => k_asm); (case hzk3 => k_asm); (case hzk4 => k_asm); (case hzk5 => first | exact rfl | assumption); (case hzk6 => k_asm); (case hzk7 => k_all); (case hzk8 => with_reducible assumption); (case hzk9 => ktr_room); (case hzkA => ktr_units); (case hzkB => with_reducible assumption); (case hzkC => with_reducible assumption); (case hzkD => with_reducible assumption); k_whole; intro t9 _ h9 tk9 F9 N9; (try dsimp only); (try k_fold)) | (refine' read0_ok _ _ _ _ _ _ _ _ _ _ _ _ _ _ _ _ _ _ _ _ _ _ _ _ _ _ _ _ _ _ _ _ _ _ _ _ ?hzk1 ?hzk2 ?hzk3 ?hzk4 ?hzk5 ?hzk6 ?hzk7 ?hzk8 ?hzk9 ?hzkA ?hzkB ?hzkC ?_; (case hzk1 => k_asm); (case hzk2 => k_asm); (case hzk3 => k_asm); (case hzk4 => k_asm); (case hzk5 => first | exact rfl | assumption); (case hzk6 => k_asm); (case hzk7 => k_all); (case hzk8 => with_reducible assumption); (case hzk9 => ktr_room); (case hzkA => ktr_units); (case hzkB => with_reducible assumption); (case hzkC => with_reducible assumption); k_whole; intro t9 h9 tk9 F9 N9; (try dsimp only); (try k_fold))))) | (with_reducible ((with_reducible show wpAny _ _ (inplaceOp Operator.Add (Value.str _ _) (Value.str (Str.mk #[_]) _)) _ _ _); refine iadd1 (by with_reducible assumption) ?_; intro _ _)) | (with_reducible ((with_reducible show wpAny _ _ (PySem.truthy (Value.str _ _)) _ _ _); refine truthy_yes (by with_reducible assumption) (by with_reducible assumption) ?_)) | (with_reducible ((with_reducible show wpAny _ _ (execs _ _) _ _ _); (first | k_gentoks | ((with_reducible refine execs_one ?_); try dsimp only)))) | (with_reducible (with_reducible refine wpAny_If ?_)) | (with_reducible (first | (refine ite_isFalse (by with_reducible assumption) ?_) | (refine ite_pos (by with_reducible assumption) ?_) | (refine ite_neg (by with_reducible assumption) ?_))) | walk1 | (dsimp only; walk1) | (leave1; (try dsimp only)) | fail "no step")
  all_goals k_dflt (refine' owit_it ?F ?X (InstAt.of_news (by k_asm) h1 h2) ?hs ?_; (case F => k_asm); (case X => k_asm); (case hs => k_is); k_whole)
  all_goals exact hret _ _ (by k_asm) (by k_asm)
set_option maxHeartbeats 8000000 in
theorem list_ok : ∀ (w : World) (mean : ExcName → Option Value) (mg mb : Str → Option Value) (dp un : Nat) (gd : Option (List Code)) (cn : Str) (cs : Scope) (a : Addr) (ccd : Value) (cl : List (Str × Addr)) (outer : List Env) (A₀ : Around) (base h₀ : Heap) (L : Addr) (m : Str → Option Value) (s : Shared) (Q E : Value → Shared → Prop) (io dio : Addr) (buf : Str) (t1 t2 t3 k1 k2 k3 : Tok) (e1 e2 e3 : Int) (pos : Nat) (news : List (Addr × Obj)) (lx dlx pb fs : Addr) (wc : Str) (H : Nat → Int) (T' V : Nat → Tok) (rem : List Nat) (ws : List (List Nat)) (htk : Toks rem ws) (tl tt ts : Tok) (ln : Int)
    (B : Below A₀ base outer h₀) (F : Fr h₀ L s.heap m) (X : (heap w.params).In h₀) (T : Top VW LO mean mg mb h₀) (hk : cs.kind = .function) (N : News h₀ L s.heap ((io, instObj 604 dio) :: (dio, dictOf [⟨e1, .str "_StringIO__newline" k1, .str "\n" t1⟩, ⟨e2, .str "_StringIO__buf" k2, .str buf t2⟩, ⟨e3, .str "_StringIO__pos" k3, .int pos t3⟩] 3) :: (lx, instObj 739 dlx) :: (dlx, dictOf (lexE H T' V io pb fs wc (.str " " ts) (.int ln tl) (.str "" tt)) 19) :: news)) (hne : ∀ p ∈ news, p.1 ≠ dio) (hne2 : ∀ p ∈ news, p.1 ≠ dlx) (n1 : io ≠ dlx) (n2 : dio ≠ dlx) (n3 : lx ≠ dlx) (n4 : lx ≠ dio) (n5 : dlx ≠ dio) (n6 : io ≠ dio) (hd : dp + 64 < recursionLimit) (hu : un + 460 < cLine) (hsz : buf.length < 10000) (hpb : (pb, dqObj) ∈ news) (hfs : (fs, dqObj) ∈ news)
    (hr : rem = buf.cps.toList.drop pos) (hac : ws.length < 9000)
    (hret : ∀ (S : Addr) (acc : Array Value) (c : Nat) (tl tt t3 : Tok) (pos' : Nat) (ln' : Int) (h₁ h' : Heap) (tk' : Nat), WordsAre acc.toList ws → KtsTurn (outer.filterMap (·.frame)) h₀ h₁ → Below A₀ base outer h₁ → Fr h₁ L h' m → News h₁ L h' ((io, instObj 604 dio) :: (dio, dictOf [⟨e1, .str "_StringIO__newline" k1, .str "\n" t1⟩, ⟨e2, .str "_StringIO__buf" k2, .str buf t2⟩, ⟨e3, .str "_StringIO__pos" k3, .int pos' t3⟩] 3) :: (lx, instObj 739 dlx) :: (dlx, dictOf (lexE H T' V io pb fs wc (.none) (.int ln' tl) (.str "" tt)) 19) :: (S, { cls := .type "list", data := .seq acc c }) :: news) → (∀ p ∈ news, p.1 < S) → Q (.ref S) { s with heap := h', toks := tk' }),
    wpAny (model PySem.Challenge.rw_nq0213_01.prog w) (ktrTop dp un gd cn cs L a ccd cl outer) (call (.type "list") [.ref lx]) Q E s := by
  intro w mean mg mb dp un gd cn cs a ccd cl outer A₀ base h₀ L m s Q E io dio buf t1 t2 t3 k1 k2 k3 e1 e2 e3 pos news lx dlx pb fs wc H T' V rem ws htk tl tt ts ln B F X T hk N hne hne2 n1 n2 n3 n4 n5 n6 hd hu hsz hpb hfs hr hac hret
  refine callType_codes (Q₁ := fun obj s₁ => obj = .ref s.heap.objs.size ∧ s₁ = { s with heap := s.heap.push { cls := .type "list", data := .seq #[] } }) PySem.F.called_list (PySem.F.typeCall_list_1 _) PySem.F.entry_list_init (code_list_new _ ⟨rfl, rfl⟩) ?_
  rintro obj s₁ ⟨rfl, rfl⟩
  have hS : (s.heap.push { cls := .type "list", data := .seq #[] }).get? s.heap.objs.size = some { cls := .type "list", data := .seq #[] } := Heap.get?_push_size _ rfl
  have hlt : ∀ p ∈ ((io, instObj 604 dio) :: (dio, dictOf [⟨e1, .str "_StringIO__newline" k1, .str "\n" t1⟩, ⟨e2, .str "_StringIO__buf" k2, .str buf t2⟩, ⟨e3, .str "_StringIO__pos" k3, .int pos t3⟩] 3) :: (lx, instObj 739 dlx) :: (dlx, dictOf (lexE H T' V io pb fs wc (.str " " ts) (.int ln tl) (.str "" tt)) 19) :: news), p.1 < s.heap.objs.size := fun p hp => Heap.lt_size (N p hp).1
  have F1 := F.push { cls := .type "list", data := .seq #[] }
  have N1 := N.push F { cls := .type "list", data := .seq #[] }
  generalize hSz : s.heap.objs.size = S at *
  generalize s.heap.push { cls := .type "list", data := .seq #[] } = h1 at *
  refine ⟨⟨_, hS, rfl⟩, PySem.F.args_list_init_2 _ _, ?_⟩
  show wpAny _ _ (do let old ← Builtin.List.listItems (.ref S); Builtin.List.listUpdate (.ref S) (fun _ => #[]); letGo old.toList.reverse; Builtin.List.listExtendWith (.ref S) (.ref lx) .none) _ _ _
  refine wpAny_bind ?_
  unfold Builtin.List.listItems
  refine wpAny_bind (wpAny_seqItems hS rfl (wpAny_pure ?_))
  show wpAny _ _ (updateSeq S (fun _ => #[]) >>= fun _ => letGo (#[] : Array Value).toList.reverse >>= fun _ => Builtin.List.listExtendWith (.ref S) (.ref lx) .none) _ _ _
  refine wpAny_bind (wpAny_updateSeq hS rfl ?_)
  have kk1 := news_upd (f := Obj.mapSeq (fun _ => (#[] : Array Value))) (d := S) (pre := []) (o' := { cls := .type "list", data := .seq #[] 0 }) F1 N1 (fun _ hp => (nomatch hp)) (fun p hp => Nat.ne_of_lt (hlt p hp)) rfl rfl
  obtain ⟨F2, N2⟩ := kk1
  generalize h1.update S (Obj.mapSeq (fun _ => (#[] : Array Value))) = h2 at *
  refine wpAny_bind (wpAny_letGo ?_)
  unfold Builtin.List.listExtendWith
  have I2 : InstAt h2 lx (instObj 739 dlx) 739 _ := InstAt.of_news N2 (.tail _ (.tail _ (.tail _ (.head _)))) (.tail _ (.tail _ (.tail _ (.tail _ (.head _)))))
  refine wpAny_bind (I2.type.here ?_)
  have hSl : lx < S := hlt (lx, instObj 739 dlx) (.tail _ (.tail _ (.head _)))
  have q1 : Builtin.List.listSameRef (.ref S) (.ref lx) = false := by simp [Builtin.List.listSameRef, Nat.ne_of_gt hSl]
  have q2 : (Value.ref 739 == Value.type "list") = false := by decide
  have q3 : (Value.ref 739 == Value.type "tuple") = false := by decide
  simp only [q1, q2, q3, Bool.or_false, Bool.false_eq_true, if_false]
  refine wpAny_bind ?_
  refine iter_ok w mean mg mb dp (un + 2) gd cn cs a ccd cl outer A₀ base h₀ L m _ _ _ lx dlx _ _ B F2 X T hk N2 (.tail _ (.tail _ (.tail _ (.head _)))) (.tail _ (.tail _ (.tail _ (.tail _ (.head _))))) (by omega) (by omega) ?_
  intro h3 tk3 F3 N3
  have X3 := X.keeps F3.keep
  have I3 : InstAt h3 lx (instObj 739 dlx) 739 _ := InstAt.of_news N3 (.tail _ (.tail _ (.tail _ (.head _)))) (.tail _ (.tail _ (.tail _ (.tail _ (.head _)))))
  have f1 : findIn (heap w.params) (.ref 739) "__len__" = some none := by k_is
  have f2 : findIn (heap w.params) (.ref 739) "__length_hint__" = some none := by k_is
  refine wpAny_bind (wpAny_holding ?_)
  unfold Builtin.List.listLengthHint
  refine wpAny_bind (wpAny_bind (I3.type.here ((looks_findIn X3 f1).here ?_)))
  show wpAny _ _ (specialOf (Value.ref lx) (Str.ofString "__length_hint__") >>= _) _ _ _
  refine wpAny_bind (wpAny_bind (I3.type.here ((looks_findIn X3 f2).here ?_)))
  refine wpAny_pure ?_
  show wpAny _ _ (rule "list.extend.makes-room" >>= fun _ => Builtin.List.listTouch (.ref S) >>= fun _ => again (.builtin "list.extend.loop" ⟨[.ref S, .ref lx, .none], []⟩)) _ _ _
  refine wpAny_bind (wpAny_rule ?_)
  refine wpAny_bind ?_
  show wpAny _ _ (updateSeq S (·.push .none) >>= fun _ => updateSeq S (·.pop)) _ _ _
  have hS3 := (N3 _ (.head _)).1
  refine wpAny_bind (wpAny_updateSeq hS3 rfl ?_)
  have kk3 := news_upd (f := Obj.mapSeq (·.push Value.none)) (d := S) (pre := []) (o' := { cls := .type "list", data := .seq #[.none] 1 }) F3 N3 (fun _ hp => (nomatch hp)) (fun p hp => Nat.ne_of_lt (hlt p hp)) rfl rfl
  obtain ⟨F4, N4⟩ := kk3
  have hS4 := (N4 _ (.head _)).1
  refine wpAny_updateSeq hS4 rfl ?_
  have k4 := news_upd (f := Obj.mapSeq (·.pop)) (d := S) (pre := []) (o' := { cls := .type "list", data := .seq #[] 2 }) F4 N4 (fun _ hp => (nomatch hp)) (fun p hp => Nat.ne_of_lt (hlt p hp)) rfl rfl
  obtain ⟨F5, N5⟩ := k4
  refine wpAny_pure ⟨plainId_quiet PySem.F.plain_extend_loop _, ?_⟩
  have hio := hlt (io, instObj 604 dio) (.head _)
  have hdio := hlt _ (.tail _ (.head _))
  have hdlx := hlt _ (.tail _ (.tail _ (.tail _ (.head _))))
  have N6 : News h₀ L _ ((io, instObj 604 dio) :: (dio, dictOf [⟨e1, .str "_StringIO__newline" k1, .str "\n" t1⟩, ⟨e2, .str "_StringIO__buf" k2, .str buf t2⟩, ⟨e3, .str "_StringIO__pos" k3, .int pos t3⟩] 3) :: (lx, instObj 739 dlx) :: (dlx, dictOf (lexE H T' V io pb fs wc (.str " " ts) (.int ln tl) (.str "" tt)) 19) :: (S, { cls := .type "list", data := .seq #[] 2 }) :: news) := fun p hp => N5 p (perm5 hp)
  refine extend_ok w mean mg mb dp (un + 1) gd cn cs a ccd cl outer A₀ base h₀ L m _ _ io dio buf t1 t2 t3 k1 k2 k3 e1 e2 e3 pos news lx dlx pb fs wc H T' V S .none rem ws htk #[] 2 [] tl tt ts ln B F5 X T hk N6 hne hne2 n1 n2 n3 n4 n5 n6 (by omega) (by omega) hsz hpb hfs (Nat.ne_of_gt hdio) (Nat.ne_of_gt hdlx) (Nat.ne_of_lt hio) (Nat.ne_of_lt hdio) (Nat.ne_of_lt hSl) (Nat.ne_of_lt hdlx) (fun p hp => Nat.ne_of_lt (hlt p (.tail _ (.tail _ (.tail _ (.tail _ hp)))))) hr .nil (by simp; omega) ?_
  intro acc' c' tl tt t3 pos' ln' h₁ h' tk' hW KT B' F' N'
  exact ⟨rfl, hret S acc' c' tl tt t3 pos' ln' h₁ h' tk' hW KT B' F' N' (fun p hp => hlt p (.tail _ (.tail _ (.tail _ (.tail _ hp)))))⟩
end
section
theorem around_weak {α : Type} {M : Model} {A A' : Around} {t : Sem α} {Q : α → Shared → Prop} {E : Value → Shared → Prop} {s : Shared} (h : wpAny M A' t Q E s)
    (hh : A'.handled = A.handled) (hd : A.depth ≤ A'.depth) (hf : A'.frames = none) (hg : A'.guards = none) (hu : A.units ≤ A'.units) : wpAny M A t Q E s := by
  intro Γ p hΓ
  refine h Γ p ⟨hΓ.1.trans hh.symm, Nat.le_trans hΓ.2.1 hd, ?_, ?_, Nat.le_trans hΓ.2.2.2.2 hu⟩
  · intro l e
    rw [hf] at e
    cases e
  · intro g e
    rw [hg] at e
    cases e
noncomputable def IoNew (Q : Value → Shared → Prop) (s : Shared) : Prop :=
  ∀ (h' : Heap) (io dio : Addr), X.Mem s.heap h' [] [(io, instObj 604 dio), (dio, dictOf [] 0)] → Q (.ref io) { s with heap := h' }
local macro_rules | `(tactic| x_close) => `(tactic| (rename IoNew _ _ => q9; exact q9 _ _ _ (by assumption)))
set_option maxHeartbeats 0 in
theorem io_new (w : World) (s : Shared) (Q E : Value → Shared → Prop) (KX : (heap w.params).In s.heap) (hQ : IoNew Q s) :
    wpAny (model PySem.Challenge.rw_nq0213_01.prog w) { handled := none, depth := 680, frames := none, guards := none, units := 5000 } (call (.builtin "object.__new__") [.ref 604]) Q E s := by
  x_run
set_option maxHeartbeats 8000000 in
theorem objnew_ok : ∀ (w : World) (mean : ExcName → Option Value) (mg mb : Str → Option Value) (dp un : Nat) (gd : Option (List Code)) (cn : Str) (cs : Scope) (a : Addr) (ccd : Value) (cl : List (Str × Addr)) (outer : List Env) (A₀ : Around) (base h₀ : Heap) (L : Addr) (m : Str → Option Value) (s : Shared) (Q E : Value → Shared → Prop) (news : List (Addr × Obj))
    (B : Below A₀ base outer h₀) (F : Fr h₀ L s.heap m) (X : (heap w.params).In h₀) (T : Top VW LO mean mg mb h₀) (hk : cs.kind = .function) (N : News h₀ L s.heap news) (hd : dp < 660) (hu : un < 4000)
    (hret : ∀ (io dio : Addr) (h' : Heap), Fr h₀ L h' m → News h₀ L h' ((io, instObj 604 dio) :: (dio, dictOf [] 0) :: news) → io ≠ dio → (∀ p ∈ news, p.1 ≠ io) → (∀ p ∈ news, p.1 ≠ dio) → Q (.ref io) { s with heap := h' }),
    wpAny (model PySem.Challenge.rw_nq0213_01.prog w) (ktrTop dp un gd cn cs L a ccd cl outer) (call (.builtin "object.__new__") [.ref 604]) Q E s := by
  intro w mean mg mb dp un gd cn cs a ccd cl outer A₀ base h₀ L m s Q E news B F X T hk N hd hu hret
  refine around_weak (io_new w s Q E (X.keeps F.keep) ?_) rfl (by show dp ≤ 680; omega) rfl rfl (by show un ≤ 5000; omega)
  intro h' io dio D
  have kp : ∀ b o, s.heap.get? b = some o → h'.get? b = some o := fun b o e => D.keep b o e (by show (_ || true) = true; rw [Bool.or_true])
  obtain ⟨q1, q2⟩ := D.nw _ (.head _)
  obtain ⟨r1, r2⟩ := D.nw _ (.tail _ (.head _))
  have fr : ∀ {b : Addr}, s.heap.get? b = none → h₀.get? b = none := fun {b} e => by
    cases q : h₀.get? b with
    | none => rfl
    | some o => have := F.keep b o q; rw [e] at this; cases this
  have nl : ∀ {b : Addr}, s.heap.get? b = none → b ≠ L := fun {b} e z => by
    obtain ⟨o, _, _, ho, _⟩ := F.ns
    rw [z, ho] at e
    cases e
  refine hret io dio h' (F.keeps kp) ?_ ?_ ?_ ?_
  · intro p hp
    rcases List.mem_cons.mp hp with rfl | hp
    · exact ⟨q1, nl q2, fr q2⟩
    · rcases List.mem_cons.mp hp with rfl | hp
      · exact ⟨r1, nl r2, fr r2⟩
      · exact ⟨kp _ _ (N p hp).1, (N p hp).2.1, (N p hp).2.2⟩
  · rintro rfl
    rw [q1] at r1
    cases r1
  · intro p hp z
    have := (N p hp).1
    rw [z, q2] at this
    cases this
  · intro p hp z
    have := (N p hp).1
    rw [z, r2] at this
    cases this
theorem recLim : 900 < recursionLimit := by decide

set_option maxHeartbeats 8000000 in
theorem ionew_ok : ∀ (w : World) (mean : ExcName → Option Value) (mg mb : Str → Option Value) (dp un : Nat) (gd : Option (List Code)) (cn : Str) (cs : Scope) (a : Addr) (ccd : Value) (cl : List (Str × Addr)) (outer : List Env) (A₀ : Around) (base h₀ : Heap) (L : Addr) (m : Str → Option Value) (s : Shared) (Q E : Value → Shared → Prop) (news : List (Addr × Obj)) (text : Str) (t : Tok)
    (B : Below A₀ base outer h₀) (F : Fr h₀ L s.heap m) (X : (heap w.params).In h₀) (T : Top VW LO mean mg mb h₀) (hk : cs.kind = .function) (N : News h₀ L s.heap news) (hd : dp < 560) (hu : un < 3000)
    (hret : ∀ (io dio : Addr) (h' : Heap) (tk' : Nat), Fr h₀ L h' m → News h₀ L h' ((io, instObj 604 dio) :: (dio, dictOf [] 0) :: news) → io ≠ dio → (∀ p ∈ news, p.1 ≠ io) → (∀ p ∈ news, p.1 ≠ dio) → Q (.ref io) { s with heap := h', toks := tk' }),
    wpAny (model PySem.Challenge.rw_nq0213_01.prog w) (ktrTop dp un gd cn cs L a ccd cl outer) (call (.ref 97) [.ref 604, .str text t]) Q E s := by
  intro w mean mg mb dp un gd cn cs a ccd cl outer A₀ base h₀ L m s Q E news text t B F X T hk N hd hu hret
  refine wpAny_call ?_
  k_dflt (refine' kp_both ?k1 ?k2 ?k3 ?k4 ?k5 ?kA ?kF ?kK ?k6 ?k7 ?k8 ?kV ?kX ?kQ ?kM ?kN ?kD ?kR ?kP ?kS ?kT ?kB ?_ ?c2 ?c3 ?c4 ?c5; (case kA => exact rfl); (case kF => exact rfl); (case kK => first | exact rfl | assumption); (case k1 => k_asm); (case k2 => k_asm); (case k3 => k_asm); (case k4 => k_asm); (case k5 => k_asm); (case k6 => k_is); (case k7 => k_is); (case k8 => (have := recLim; ktr_room)); (case kV => kp_lit); (case kX => kp_lit); (case kQ => exact rfl); (case kM => exact rfl); (case kN => exact rfl); (case kD => kp_flats); (case kR => exact rfl); (case kP => exact rfl); (case kS => exact fun _ => rfl); (case kT => exact fun _ _ => rfl); (case kB => exact fun _ _ => locs rfl); (case c5 => decide); (case c2 => exact rfl); (case c3 => exact rfl); (case c4 => exact rfl); k_whole)
  intro C1 D1 o1 g1 L1 hp1 tk1 l1 l2 lo1 hs1 fs1 FG1 F1 N1 B1 X1 T1
  (try dsimp only)
  (try k_lift B1)
  replace F1 := Fr.re (m' := fun y => if y = "kwargs" then some (.ref D1) else if y = "args" then some (.ref C1) else if y = "cls" then some (.ref 604) else none) F1 (fun y => look_chain [(("kwargs" : Str), (.ref D1 : Value)), (("args" : Str), (.ref C1 : Value)), (("cls" : Str), (.ref 604 : Value))] y)
  (try k_fold)
  have N2 : News g1 L1 hp1 news := fun p hp => N1 p (.tail _ (.tail _ hp))
  clear N1
  repeat' (first | (k_unfold; (try dsimp only)) | (k_end; wrow_close) | (with_reducible ((with_reducible show wpAny _ _ (call (Value.builtin "object.__new__") _) _ _ _); (k_dflt (refine' objnew_ok _ _ _ _ _ _ _ _ _ _ _ _ _ _ _ _ _ _ _ _ _ _ ?hzk1 ?hzk2 ?hzk3 ?hzk4 ?hzk5 ?hzk6 ?hzk7 ?hzk8 ?_; (case hzk1 => k_asm); (case hzk2 => k_asm); (case hzk3 => k_asm); (case hzk4 => k_asm); (case hzk5 => first | exact rfl | assumption); (case hzk6 => k_asm); (case hzk7 => ktr_room); (case hzk8 => ktr_units); k_whole; intro _ _ _ _ _ _ _ _; (try dsimp only); (try k_fold))))) | (with_reducible ((with_reducible show wpAny _ _ (call (Value.ref 700) _) _ _ _); k_dflt (refine' get_token_ok _ _ _ _ _ _ _ _ _ _ _ _ _ _ _ _ _ _ _ _ _ _ _ _ _ _ _ _ _ _ _ _ _ _ _ _ _ _ _ _ _ _ _ _ _ _ _ _ _ ?hzk1 ?hzk2 ?hzk3 ?hzk4 ?hzk5 ?hzk6 ?hzk7 ?hzk8 ?hzk9 ?hzkA ?hzkB ?hzj1 ?hzj2 ?hzj3 ?hzkC ?hzkD ?hzkE ?hzkG ?hzkH ?hzkF ?hzr1 ?hzr2; (case hzk1 => k_asm); (case hzk2 => k_asm); (case hzk3 => k_asm); (case hzk4 => k_asm); (case hzk5 => first | exact rfl | assumption); (case hzk6 => k_asm); (case hzk7 => with_reducible assumption); (case hzk8 => with_reducible assumption); (case hzk9 => with_reducible assumption); (case hzkA => with_reducible assumption); (case hzkB => with_reducible assumption); (case hzj1 => with_reducible assumption); (case hzj2 => with_reducible assumption); (case hzj3 => with_reducible assumption); (case hzkC => ktr_room); (case hzkD => ktr_units); (case hzkE => with_reducible assumption); (case hzkG => with_reducible assumption); (case hzkH => with_reducible assumption); (case hzkF => with_reducible assumption); k_whole))) | (with_reducible ((with_reducible show wpAny _ _ (truthy (Value.ref _)) _ _ _); refine dq_truthy (get4 (by k_asm) (by with_reducible assumption)) ?_)) | (with_reducible ((with_reducible show ∀ (_ _ _ : Tok) (_ : Nat) (_ : Int) (_ : Heap) (_ : Nat), _ = none → _); intro _ _ _ _ _ _ _ _ _ _ _; (try dsimp only); (try k_fold))) | (with_reducible ((with_reducible show ∀ (_ : Str) (_ _ _ _ _ : Tok) (_ : Nat) (_ : Int) (_ : Heap) (_ : Nat), _ = some _ → _); intro _ _ _ _ _ _ _ _ _ _ _ _ _ _ _; (try dsimp only); (try k_fold))) | (with_reducible ((with_reducible show wpAny _ _ (call (Value.ref 707) _) _ _ _); k_dflt (refine' read_token_ok _ _ _ _ _ _ _ _ _ _ _ _ _ _ _ _ _ _ _ _ _ _ _ _ _ _ _ _ _ _ _ _ _ _ _ _ _ _ _ _ _ _ _ _ _ _ _ _ _ ?hzk1 ?hzk2 ?hzk3 ?hzk4 ?hzk5 ?hzk6 ?hzk7 ?hzk8 ?hzk9 ?hzkA ?hzkB ?hzj1 ?hzj2 ?hzj3 ?hzkC ?hzkD ?hzkE ?hzkF ?hzr1 ?hzr2; (case hzk1 => k_asm); (case hzk2 => k_asm); (case hzk3 => k_asm); (case hzk4 => k_asm); (case hzk5 => first | exact rfl | assumption); (case hzk6 => k_asm); (case hzk7 => with_reducible assumption); (case hzk8 => with_reducible assumption); (case hzk9 => with_reducible assumption); (case hzkA => with_reducible assumption); (case hzkB => with_reducible assumption); (case hzj1 => with_reducible assumption); (case hzj2 => with_reducible assumption); (case hzj3 => with_reducible assumption); (case hzkC => ktr_room); (case hzkD => ktr_units); (case hzkE => with_reducible assumption); (case hzkF => with_reducible assumption); k_whole))) | (with_reducible ((with_reducible show wpAny _ _ (call (Value.ref 558) _) _ _ _); k_dflt (refine' readline_ok _ _ _ _ _ _ _ _ _ _ _ _ _ _ _ _ _ _ _ _ _ _ _ _ _ _ _ _ _ _ _ _ _ _ _ _ ?hzk1 ?hzk2 ?hzk3 ?hzk4 ?hzk5 ?hzk6 ?hzk7 ?hzk8 ?hzk9 ?hzkA ?hzkB ?hzkC ?hzkD ?hzkE ?hzkF ?hzkG ?_; (case hzk1 => k_asm); (case hzk2 => k_asm); (case hzk3 => k_asm); (case hzk4 => k_asm); (case hzk5 => first | exact rfl | assumption); (case hzk6 => first | k_asm | exact News.tl (by k_asm)); (case hzk7 => k_all); (case hzk8 => with_reducible assumption); (case hzk9 => ktr_room); (case hzkA => ktr_units); (case hzkB => with_reducible assumption); (case hzkC => with_reducible assumption); (case hzkD => with_reducible assumption); (case hzkE => with_reducible assumption); (case hzkF => with_reducible assumption); (case hzkG => with_reducible assumption); k_whole; intro _ _ _ _ _ _ _; (try dsimp only); (try k_fold)))) | (with_reducible ((with_reducible show wpAny _ _ (call (Value.ref 550) [Value.ref _, Value.int _ _]) _ _ _); k_dflt (first | (refine' read1_ok _ _ _ _ _ _ _ _ _ _ _ _ _ _ _ _ _ _ _ _ _ _ _ _ _ _ _ _ _ _ _ _ _ _ _ _ _ ?hzk1 ?hzk2 ?hzk3 ?hzk4 ?hzk5 ?hzk6 ?hzk7 ?hzk8 ?hzk9 ?hzkA ?hzkB ?hzkC ?hzkD ?_; (case hzk1 => k_asm); (case hzk2 => k_asm); (case hzk3 => k_asm); (case hzk4 => k_asm); (case hzk5 => first | exact rfl | assumption); (case hzk6 => k_asm); (case hzk7 => k_all); (case hzk8 => with_reducible assumption); (case hzk9 => ktr_room); (case hzkA => ktr_units); (case hzkB => with_reducible assumption); (case hzkC => with_reducible assumption); (case hzkD => with_reducible assumption); k_whole; intro t9 _ h9 tk9 F9 N9; (try dsimp only); (try k_fold)) | (refine' read0_ok _ _ _ _ _ _ _ _ _ _ _ _ _ _ _ _ _ _ _ _ _ _ _ _ _ _ _ _ _ _ _ _ _ _ _ _ ?hzk1 ?hzk2 ?hzk3 ?hzk4 ?hzk5 ?hzk6 ?hzk7 ?hzk8 ?hzk9 ?hzkA ?hzkB ?hzkC ?_; (case hzk1 => k_asm); (case hzk2 => k_asm); (case hzk3 => k_asm); (case hzk4 => k_asm); (case hzk5 => first | exact rfl | assumption); (case hzk6 => k_asm); (case hzk7 => k_all); (case hzk8 => with_reducible assumption); (case hzk9 => ktr_room); (case hzkA => ktr_units); (case hzkB => with_reducible assumption); (case hzkC => with_reducible assumption); k_whole; intro t9 h9 tk9 F9 N9; (try dsimp only); (try k_fold))))) | (with_reducible ((with_reducible show wpAny _ _ (inplaceOp Operator.Add (Value.str _ _) (Value.str (Str.mk #[_]) _)) _ _ _); refine iadd1 (by with_reducible assumption) ?_; intro _ _)) | (with_reducible ((with_reducible show wpAny _ _ (PySem.truthy (Value.str _ _)) _ _ _); refine truthy_yes (by with_reducible assumption) (by with_reducible assumption) ?_)) | (with_reducible ((with_reducible show wpAny _ _ (execs _ _) _ _ _); (first | k_gentoks | ((with_reducible refine execs_one ?_); try dsimp only)))) | (with_reducible (with_reducible refine wpAny_If ?_)) | (with_reducible (first | (refine ite_isFalse (by with_reducible assumption) ?_) | (refine ite_pos (by with_reducible assumption) ?_) | (refine ite_neg (by with_reducible assumption) ?_))) | walk1 | (dsimp only; walk1) | (leave1; (try dsimp only)) | fail "no step")
  all_goals exact hret _ _ _ _ (by k_asm) (by k_asm) (by with_reducible assumption) (by with_reducible assumption) (by with_reducible assumption)
end
section
noncomputable def ownNew (K : Frag) (C : Addr) : Bool := match K.lookup C with
  | some ⟨_, _, .cls cd, sl⟩ => !cd.mro.isEmpty && sl.toList[4]? == some (some .none)
  | _ => false
theorem ownNew_of {K : Frag} {M : Model} {h : Heap} {C : Addr} (X : K.In h) (e : ownNew K C = true) :
    ∃ oc od cd sl, h.get? C = some ⟨oc, od, .cls cd, sl⟩ ∧ cd.mro.isEmpty = false ∧ Looks M h (mroOf (.ref C)) cd.mro ∧ Looks M h (Bind.madeBy (.ref C)) none := by
  unfold ownNew at e
  split at e
  · rename_i oc od cd sl ho
    simp only [Bool.and_eq_true, Bool.not_eq_true', beq_iff_eq] at e
    obtain ⟨e1, e3⟩ := e
    have hC := X _ _ ho
    have hm : Looks M h (mroOf (.ref C)) cd.mro := ((Looks.ld (part := none) hC).andThen .now).andThen .now
    refine ⟨oc, od, cd, sl, hC, e1, hm, ?_⟩
    intro A Q E s k q
    unfold Bind.madeBy
    refine wpAny_bind (hm A _ E s k ?_)
    obtain ⟨x, r, hl⟩ : ∃ x r, cd.mro = x :: r := by
      cases hq : cd.mro with
      | nil => rw [hq] at e1; cases e1
      | cons x r => exact ⟨x, r, rfl⟩
    rw [hl, List.forIn_cons]
    refine wpAny_bind (wpAny_bind (wpAny_bind (wpAny_bind (wpAny_loadPart (k _ _ hC) (wpAny_pure ?_)))))
    dsimp only
    rw [← Array.getElem?_toList, e3]
    exact wpAny_pure (wpAny_pure (wpAny_pure q))
  · cases e
theorem cu604 {text : Str} {t : Tok} : (Code.builtin "type.__call__" { pos := [Value.ref 604, Value.str text t] }).cUnits ≤ 100 := by
  show _ ≤ 100
  first | decide | (have : (Code.builtin "type.__call__" { pos := [Value.ref 604, Value.str text t] }).cUnits = 1 := by kernel_rfl
                    rw [this]; decide)
set_option maxHeartbeats 8000000 in
theorem ioinit_ok : ∀ (w : World) (mean : ExcName → Option Value) (mg mb : Str → Option Value) (dp un : Nat) (gd : Option (List Code)) (cn : Str) (cs : Scope) (a : Addr) (ccd : Value) (cl : List (Str × Addr)) (outer : List Env) (A₀ : Around) (base h₀ : Heap) (L : Addr) (m : Str → Option Value) (s : Shared) (Q E : Value → Shared → Prop) (io dio : Addr) (news : List (Addr × Obj)) (text : Str) (t : Tok)
    (B : Below A₀ base outer h₀) (F : Fr h₀ L s.heap m) (X : (heap w.params).In h₀) (T : Top VW LO mean mg mb h₀) (hk : cs.kind = .function) (N : News h₀ L s.heap ((io, instObj 604 dio) :: (dio, dictOf [] 0) :: news)) (n6 : io ≠ dio) (hne : ∀ p ∈ news, p.1 ≠ dio) (hd : dp + 8 < recursionLimit) (hu : un + 64 < cLine)
    (hret : ∀ (t1 t2 t3 k1 k2 k3 : Tok) (e1 e2 e3 : Int) (h' : Heap) (tk' : Nat), Fr h₀ L h' m → News h₀ L h' ((io, instObj 604 dio) :: (dio, dictOf [⟨e1, .str "_StringIO__newline" k1, .str "\n" t1⟩, ⟨e2, .str "_StringIO__buf" k2, .str text t2⟩, ⟨e3, .str "_StringIO__pos" k3, .int ((0 : Nat) : Int) t3⟩] 3) :: news) → Q .none { s with heap := h', toks := tk' }),
    wpAny (model PySem.Challenge.rw_nq0213_01.prog w) (ktrTop dp un gd cn cs L a ccd cl outer) (call (.ref 374) [.ref io, .str text t]) Q E s := by
  intro w mean mg mb dp un gd cn cs a ccd cl outer A₀ base h₀ L m s Q E io dio news text t B F X T hk N n6 hne hd hu hret
  refine wpAny_call ?_
  k_dflt k_enter
  repeat' (first | (k_unfold; (try dsimp only)) | (k_end; wrow_close) | (with_reducible ((with_reducible show wpAny _ _ (call (Value.ref 700) _) _ _ _); k_dflt (refine' get_token_ok _ _ _ _ _ _ _ _ _ _ _ _ _ _ _ _ _ _ _ _ _ _ _ _ _ _ _ _ _ _ _ _ _ _ _ _ _ _ _ _ _ _ _ _ _ _ _ _ _ ?hzk1 ?hzk2 ?hzk3 ?hzk4 ?hzk5 ?hzk6 ?hzk7 ?hzk8 ?hzk9 ?hzkA ?hzkB ?hzj1 ?hzj2 ?hzj3 ?hzkC ?hzkD ?hzkE ?hzkG ?hzkH ?hzkF ?hzr1 ?hzr2; (case hzk1 => k_asm); (case hzk2 => k_asm); (case hzk3 => k_asm); (case hzk4 => k_asm); (case hzk5 => first | exact rfl | assumption); (case hzk6 => k_asm); (case hzk7 => with_reducible assumption); (case hzk8 => with_reducible assumption); (case hzk9 => with_reducible assumption); (case hzkA => with_reducible assumption); (case hzkB => with_reducible assumption); (case hzj1 => with_reducible assumption); (case hzj2 => with_reducible assumption); (case hzj3 => with_reducible assumption); (case hzkC => ktr_room); (case hzkD => ktr_units); (case hzkE => with_reducible assumption); (case hzkG => with_reducible assumption); (case hzkH => with_reducible assumption); (case hzkF => with_reducible assumption); k_whole))) | (with_reducible ((with_reducible show wpAny _ _ (truthy (Value.ref _)) _ _ _); refine dq_truthy (get4 (by k_asm) (by with_reducible assumption)) ?_)) | (with_reducible ((with_reducible show ∀ (_ _ _ : Tok) (_ : Nat) (_ : Int) (_ : Heap) (_ : Nat), _ = none → _); intro _ _ _ _ _ _ _ _ _ _ _; (try dsimp only); (try k_fold))) | (with_reducible ((with_reducible show ∀ (_ : Str) (_ _ _ _ _ : Tok) (_ : Nat) (_ : Int) (_ : Heap) (_ : Nat), _ = some _ → _); intro _ _ _ _ _ _ _ _ _ _ _ _ _ _ _; (try dsimp only); (try k_fold))) | (with_reducible ((with_reducible show wpAny _ _ (call (Value.ref 707) _) _ _ _); k_dflt (refine' read_token_ok _ _ _ _ _ _ _ _ _ _ _ _ _ _ _ _ _ _ _ _ _ _ _ _ _ _ _ _ _ _ _ _ _ _ _ _ _ _ _ _ _ _ _ _ _ _ _ _ _ ?hzk1 ?hzk2 ?hzk3 ?hzk4 ?hzk5 ?hzk6 ?hzk7 ?hzk8 ?hzk9 ?hzkA ?hzkB ?hzj1 ?hzj2 ?hzj3 ?hzkC ?hzkD ?hzkE ?hzkF ?hzr1 ?hzr2; (case hzk1 => k_asm); (case hzk2 => k_asm); (case hzk3 => k_asm); (case hzk4 => k_asm); (case hzk5 => first | exact rfl | assumption); (case hzk6 => k_asm); (case hzk7 => with_reducible assumption); (case hzk8 => with_reducible assumption); (case hzk9 => with_reducible assumption); (case hzkA => with_reducible assumption); (case hzkB => with_reducible assumption); (case hzj1 => with_reducible assumption); (case hzj2 => with_reducible assumption); (case hzj3 => with_reducible assumption); (case hzkC => ktr_room); (case hzkD => ktr_units); (case hzkE => with_reducible assumption); (case hzkF => with_reducible assumption); k_whole))) | (with_reducible ((with_reducible show wpAny _ _ (call (Value.ref 558) _) _ _ _); k_dflt (refine' readline_ok _ _ _ _ _ _ _ _ _ _ _ _ _ _ _ _ _ _ _ _ _ _ _ _ _ _ _ _ _ _ _ _ _ _ _ _ ?hzk1 ?hzk2 ?hzk3 ?hzk4 ?hzk5 ?hzk6 ?hzk7 ?hzk8 ?hzk9 ?hzkA ?hzkB ?hzkC ?hzkD ?hzkE ?hzkF ?hzkG ?_; (case hzk1 => k_asm); (case hzk2 => k_asm); (case hzk3 => k_asm); (case hzk4 => k_asm); (case hzk5 => first | exact rfl | assumption); (case hzk6 => first | k_asm | exact News.tl (by k_asm)); (case hzk7 => k_all); (case hzk8 => with_reducible assumption); (case hzk9 => ktr_room); (case hzkA => ktr_units); (case hzkB => with_reducible assumption); (case hzkC => with_reducible assumption); (case hzkD => with_reducible assumption); (case hzkE => with_reducible assumption); (case hzkF => with_reducible assumption); (case hzkG => with_reducible assumption); k_whole; intro _ _ _ _ _ _ _; (try dsimp only); (try k_fold)))) | (with_reducible ((with_reducible show wpAny _ _ (call (Value.ref 550) [Value.ref _, Value.int _ _]) _ _ _); k_dflt (first | (refine' read1_ok _ _ _ _ _ _ _ _ _ _ _ _ _ _ _ _ _ _ _ _ _ _ _ _ _ _ _ _ _ _ _ _ _ _ _ _ _ ?hzk1 ?hzk2 ?hzk3 ?hzk4 ?hzk5 ?hzk6 ?hzk7 ?hzk8 ?hzk9 ?hzkA ?hzkB ?hzkC ?hzkD ?_; (case hzk1 => k_asm); (case hzk2 => k_asm); (case hzk3 => k_asm); (case hzk4 => k_asm); (case hzk5 => first | exact rfl | assumption); (case hzk6 => k_asm); (case hzk7 => k_all); (case hzk8 => with_reducible assumption); (case hzk9 => ktr_room); (case hzkA => ktr_units); (case hzkB => with_reducible assumption); (case hzkC => with_reducible assumption); (case hzkD => with_reducible assumption); k_whole; intro t9 _ h9 tk9 F9 N9; (try dsimp only); (try k_fold)) | (refine' read0_ok _ _ _ _ _ _ _ _ _ _ _ _ _ _ _ _ _ _ _ _ _ _ _ _ _ _ _ _ _ _ _ _ _ _ _ _ ?hzk1 ?hzk2 ?hzk3 ?hzk4 ?hzk5 ?hzk6 ?hzk7 ?hzk8 ?hzk9 ?hzkA ?hzkB ?hzkC ?_; (case hzk1 => k_asm); (case hzk2 => k_asm); (case hzk3 => k_asm); (case hzk4 => k_asm); (case hzk5 => first | exact rfl | assumption); (case hzk6 => k_asm); (case hzk7 => k_all); (case hzk8 => with_reducible assumption); (case hzk9 => ktr_room); (case hzkA => ktr_units); (case hzkB => with_reducible assumption); (case hzkC => with_reducible assumption); k_whole; intro t9 h9 tk9 F9 N9; (try dsimp only); (try k_fold))))) | (with_reducible ((with_reducible show wpAny _ _ (inplaceOp Operator.Add (Value.str _ _) (Value.str (Str.mk #[_]) _)) _ _ _); refine iadd1 (by with_reducible assumption) ?_; intro _ _)) | (with_reducible ((with_reducible show wpAny _ _ (PySem.truthy (Value.str _ _)) _ _ _); refine truthy_yes (by with_reducible assumption) (by with_reducible assumption) ?_)) | (with_reducible ((with_reducible show wpAny _ _ (execs _ _) _ _ _); (first | k_gentoks | ((with_reducible refine execs_one ?_); try dsimp only)))) | (with_reducible (with_reducible refine wpAny_If ?_)) | (with_reducible (first | (refine ite_isFalse (by with_reducible assumption) ?_) | (refine ite_pos (by with_reducible assumption) ?_) | (refine ite_neg (by with_reducible assumption) ?_))) | walk1 | (dsimp only; walk1) | (leave1; (try dsimp only)) | fail "no step")
  all_goals exact hret _ _ _ _ _ _ _ _ _ _ _ (by k_asm) (by k_asm)
set_option maxHeartbeats 8000000 in
theorem mkio_ok : ∀ (w : World) (mean : ExcName → Option Value) (mg mb : Str → Option Value) (dp un : Nat) (gd : Option (List Code)) (cn : Str) (cs : Scope) (a : Addr) (ccd : Value) (cl : List (Str × Addr)) (outer : List Env) (A₀ : Around) (base h₀ : Heap) (L : Addr) (m : Str → Option Value) (s : Shared) (Q E : Value → Shared → Prop) (news : List (Addr × Obj)) (text : Str) (t : Tok)
    (B : Below A₀ base outer h₀) (F : Fr h₀ L s.heap m) (X : (heap w.params).In h₀) (T : Top VW LO mean mg mb h₀) (hk : cs.kind = .function) (N : News h₀ L s.heap news) (hd : dp < 460) (hu : un < 2000)
    (hret : ∀ (io dio : Addr) (t1 t2 t3 k1 k2 k3 : Tok) (e1 e2 e3 : Int) (h' : Heap) (tk' : Nat), Fr h₀ L h' m → News h₀ L h' ((io, instObj 604 dio) :: (dio, dictOf [⟨e1, .str "_StringIO__newline" k1, .str "\n" t1⟩, ⟨e2, .str "_StringIO__buf" k2, .str text t2⟩, ⟨e3, .str "_StringIO__pos" k3, .int ((0 : Nat) : Int) t3⟩] 3) :: news) → io ≠ dio → (∀ p ∈ news, p.1 ≠ io) → (∀ p ∈ news, p.1 ≠ dio) → Q (.ref io) { s with heap := h', toks := tk' }),
    wpAny (model PySem.Challenge.rw_nq0213_01.prog w) (ktrTop dp un gd cn cs L a ccd cl outer) (call (.ref 604) [.str text t]) Q E s := by
  intro w mean mg mb dp un gd cn cs a ccd cl outer A₀ base h₀ L m s Q E news text t B F X T hk N hd hu hret
  have XS := X.keeps F.keep
  obtain ⟨oc, od, cd, sl, hC, e4, hm, made9⟩ := ownNew_of (M := model PySem.Challenge.rw_nq0213_01.prog w) (C := 604) XS (by kernel_rfl)
  have call9 : Looks (model PySem.Challenge.rw_nq0213_01.prog w) s.heap (specialOf (.ref 604) "__call__") (some (.builtin "type.__call__")) := looks_specialIn XS (by k_is)
  have typ9 : Looks (model PySem.Challenge.rw_nq0213_01.prog w) s.heap (isInstance (.ref 604) (.type "type")) true := looks_instIn XS (by k_is)
  have self9 : Looks (model PySem.Challenge.rw_nq0213_01.prog w) s.heap (isSubtype (.ref 604) (.ref 604)) true := looks_subIn XS (by k_is)
  obtain ⟨hh, g, d, tk, os⟩ := s
  refine wpAny_call (codeAny_of_tree ?_)
  show wpAny _ _ (callAny (.ref 604) _) _ _ _
  refine nd_load hC ?_
  show wpAny _ _ (callAny.viaDunder (.ref 604) _) _ _ _
  unfold callAny.viaDunder
  refine wpAny_bind (call9.at ?_)
  dsimp only
  rw [tc_bind]
  refine wpAny_bind (wpAny_pure (wpAny_bind (wpAny_pure ?_)))
  refine wpAny_pure (a := Fin.again (.call (.builtin "type.__call__") ⟨[.ref 604, .str text t], []⟩)) (And.intro rfl ?_)
  refine codeAny_call_builtin_at (Code.quiet_builtin _ (by decide +kernel)) entry_typeCall (check_slot tc_kind tc_split typ9 (tc_args _ _ _) ?_)
  unfold Builtin.«type.__call__»
  repeat ((fail_if_success (with_reducible show wpAny _ _ (getAttr _ _ _) _ _ _)); first | simp only [e4, Bool.false_eq_true, if_false] | with_reducible refine wpAny_call ?_ | lk)
  k_dflt (refine' cls_sm (K := heap w.params) F X ?k3 ?k4 ?k5 ?k6 ?k7 ?_; (case k3 => k_is); (case k4 => k_is); (case k5 => k_is); (case k6 => k_is); (case k7 => k_handed); k_whole)
  refine wpAny_bind (wpAny_holding ?_)
  refine ionew_ok w mean mg mb _ _ _ cn cs a ccd cl outer A₀ base h₀ L m _ _ _ news text t B F X T hk N (by simp only [depth_under_make]; show dp + 1 < 560; omega) ?hu ?_
  case hu => exact Nat.lt_of_le_of_lt (Nat.add_le_add_left cu604 un) (by omega)
  intro io dio h' tk' F' N' n6 m1 m2
  have X' := X.keeps F'.keep
  have I' : InstAt h' io (instObj 604 dio) 604 _ := InstAt.of_news N' (.head _) (.tail _ (.head _))
  have t1 := I'.type (M := model PySem.Challenge.rw_nq0213_01.prog w)
  have s1 : Looks (model PySem.Challenge.rw_nq0213_01.prog w) h' (isSubtype (.ref 604) (.ref 604)) true := looks_subIn X' (by k_is)
  have i1 : Looks (model PySem.Challenge.rw_nq0213_01.prog w) h' (typeLookup (.ref 604) "__init__") (some (.ref 374)) := looks_findIn X' (by k_is)
  have b1 : Looks (model PySem.Challenge.rw_nq0213_01.prog w) h' (bindSpecial (.ref 374) (.ref io)) (.ref 374, [.ref io]) := bind_fn X' _ (by k_is)
  unfold isInstance callSpecial? specialOf
  repeat ((fail_if_success (with_reducible show wpAny _ _ (PySem.call _ _ _) _ _ _)); first | simp only [Bool.not_true, Bool.false_eq_true, if_false] | lk)
  refine ioinit_ok w mean mg mb _ _ _ cn cs a ccd cl outer A₀ base h₀ L m _ _ _ io dio news text t B F' X T hk N' n6 m2 (by have := recLim; show dp + 1 + 8 < recursionLimit; omega) ?hu2 ?_
  case hu2 => exact Nat.lt_of_le_of_lt (Nat.add_le_add_right (Nat.add_le_add_left cu604 un) 64) (by have := cLine_is; omega)
  intro t1 t2 t3 k1 k2 k3 e1 e2 e3 h'' tk'' F'' N''
  refine wpAny_pure ?_
  show wpAny _ _ (ret (.ref io)) _ _ _
  exact wpAny_pure (hret io dio t1 t2 t3 k1 k2 k3 e1 e2 e3 h'' tk'' F'' N'' n6 m1 m2)
end

local macro_rules | `(tactic| k_all) => `(tactic| exact allne_of_lt (by with_reducible assumption))


section
theorem units_under_kw (A : Around) (c : Addr) (pos : List Value) (kw : List (Str × Value)) : (A.under (.builtin "type.__call__" ⟨.ref c :: pos, kw⟩)).units = A.units + 1 := by first | rfl | kernel_rfl
local macro_rules | `(tactic| ktr_units) => `(tactic| ((try simp only [units_under_kw, units_in1, units_deeper, Around.mark_units, units_caller]); (try dsimp only [ktrTop]); omega))
set_option maxHeartbeats 8000000 in
theorem mklex_ok : ∀ (w : World) (mean : ExcName → Option Value) (mg mb : Str → Option Value) (dp un : Nat) (gd : Option (List Code)) (cn : Str) (cs : Scope) (a : Addr) (ccd : Value) (cl : List (Str × Addr)) (outer : List Env) (A₀ : Around) (base h₀ : Heap) (L : Addr) (m : Str → Option Value) (s : Shared) (Q E : Value → Shared → Prop) (news : List (Addr × Obj)) (text : Str) (t : Tok)
    (B : Below A₀ base outer h₀) (F : Fr h₀ L s.heap m) (X : (heap w.params).In h₀) (T : Top VW LO mean mg mb h₀) (hk : cs.kind = .function) (N : News h₀ L s.heap news) (hd : dp < 360) (hu : un < 1000)
    (hret : ∀ (lx dlx pb fs : Addr) (wc : Str) (io dio : Addr) (t1 t2 t3 k1 k2 k3 : Tok) (e1 e2 e3 : Int) (x0 x1 x2 x3 x4 x5 x6 x7 x8 x9 x10 x11 x12 x13 x14 x15 x16 x17 x18 : Int) (y0 y1 y2 y3 y4 y5 y6 y7 y8 y9 y10 y11 y12 y13 y14 y15 y16 y17 y18 z4 z5 z6 z8 z9 z10 z11 z13 z14 z15 z18 : Tok) (h' : Heap) (tk' : Nat), Fr h₀ L h' m → News h₀ L h' ((fs, dqObj) :: (pb, dqObj) :: (io, instObj 604 dio) :: (dio, dictOf [⟨e1, .str "_StringIO__newline" k1, .str "\n" t1⟩, ⟨e2, .str "_StringIO__buf" k2, .str text t2⟩, ⟨e3, .str "_StringIO__pos" k3, .int ((0 : Nat) : Int) t3⟩] 3) :: (lx, instObj 739 dlx) :: (dlx, dictOf [⟨x0, .str "instream" y0, .ref io⟩, ⟨x1, .str "infile" y1, .none⟩, ⟨x2, .str "posix" y2, .bool true⟩, ⟨x3, .str "eof" y3, .none⟩, ⟨x4, .str "commenters" y4, .str "#" z4⟩, ⟨x5, .str "wordchars" y5, .str wc z5⟩, ⟨x6, .str "whitespace" y6, .str " \t\r\n" z6⟩, ⟨x7, .str "whitespace_split" y7, .bool false⟩, ⟨x8, .str "quotes" y8, .str "'\"" z8⟩, ⟨x9, .str "escape" y9, .str "\\" z9⟩, ⟨x10, .str "escapedquotes" y10, .str "\"" z10⟩, ⟨x11, .str "state" y11, .str " " z11⟩, ⟨x12, .str "pushback" y12, .ref pb⟩, ⟨x13, .str "lineno" y13, .int 1 z13⟩, ⟨x14, .str "debug" y14, .int 0 z14⟩, ⟨x15, .str "token" y15, .str "" z15⟩, ⟨x16, .str "filestack" y16, .ref fs⟩, ⟨x17, .str "source" y17, .none⟩, ⟨x18, .str "_punctuation_chars" y18, .str "" z18⟩] 19) :: news) → (∀ p ∈ news, p.1 ≠ dlx) → (∀ p ∈ news, p.1 ≠ dio) → Q (.ref lx) { s with heap := h', toks := tk' }),
    wpAny (model PySem.Challenge.rw_nq0213_01.prog w) (ktrTop dp un gd cn cs L a ccd cl outer) (call (.ref 739) [.str text t] [("posix", .bool true)]) Q E s := by
  intro w mean mg mb dp un gd cn cs a ccd cl outer A₀ base h₀ L m s Q E news text t B F X T hk N hd hu hret
  repeat' (first | (k_unfold; (try dsimp only)) | (k_end; wrow_close) | ((with_reducible show wpAny _ _ _ _ _ (Shared.mk (Shared.heap _) _ _ _ _)); dsimp only) | (with_reducible ((with_reducible show wpAny _ _ (call (Value.type "collections.deque") _) _ _ _); (k_dflt (refine' dq_make ?hzk1 ?hzk2 ?_; (case hzk1 => k_asm); (case hzk2 => k_asm); k_whole); intro _ _ _ _ l9; (try k_lt l9)))) | (with_reducible ((with_reducible show wpAny _ _ (call (Value.ref 604) _) _ _ _); k_dflt (refine' mkio_ok _ _ _ _ _ _ _ _ _ _ _ _ _ _ _ _ _ _ _ _ _ _ _ _ ?hzk1 ?hzk2 ?hzk3 ?hzk4 ?hzk5 ?hzk6 ?hzk7 ?hzk8 ?_; (case hzk1 => k_asm); (case hzk2 => k_asm); (case hzk3 => k_asm); (case hzk4 => k_asm); (case hzk5 => first | exact rfl | assumption); (case hzk6 => k_asm); (case hzk7 => ktr_room); (case hzk8 => ktr_units); k_whole; intro _ _ _ _ _ _ _ _ _ _ _ _ _ _ _ _ b9 c9; (have y19 := Ne.symm (b9 _ (List.Mem.tail _ (List.Mem.head _)))); (have y29 := Ne.symm (c9 _ (List.Mem.tail _ (List.Mem.head _)))); (have y39 := b9 _ (List.Mem.head _)); (have y49 := c9 _ (List.Mem.head _)); (try dsimp only at y19 y29 y39 y49); (try dsimp only); (try k_fold)))) | (with_reducible ((with_reducible show wpAny _ _ (call (Value.ref 700) _) _ _ _); k_dflt (refine' get_token_ok _ _ _ _ _ _ _ _ _ _ _ _ _ _ _ _ _ _ _ _ _ _ _ _ _ _ _ _ _ _ _ _ _ _ _ _ _ _ _ _ _ _ _ _ _ _ _ _ _ ?hzk1 ?hzk2 ?hzk3 ?hzk4 ?hzk5 ?hzk6 ?hzk7 ?hzk8 ?hzk9 ?hzkA ?hzkB ?hzj1 ?hzj2 ?hzj3 ?hzkC ?hzkD ?hzkE ?hzkG ?hzkH ?hzkF ?hzr1 ?hzr2; (case hzk1 => k_asm); (case hzk2 => k_asm); (case hzk3 => k_asm); (case hzk4 => k_asm); (case hzk5 => first | exact rfl | assumption); (case hzk6 => k_asm); (case hzk7 => with_reducible assumption); (case hzk8 => with_reducible assumption); (case hzk9 => with_reducible assumption); (case hzkA => with_reducible assumption); (case hzkB => with_reducible assumption); (case hzj1 => with_reducible assumption); (case hzj2 => with_reducible assumption); (case hzj3 => with_reducible assumption); (case hzkC => ktr_room); (case hzkD => ktr_units); (case hzkE => with_reducible assumption); (case hzkG => with_reducible assumption); (case hzkH => with_reducible assumption); (case hzkF => with_reducible assumption); k_whole))) | (with_reducible ((with_reducible show wpAny _ _ (truthy (Value.ref _)) _ _ _); refine dq_truthy (get4 (by k_asm) (by with_reducible assumption)) ?_)) | (with_reducible ((with_reducible show ∀ (_ _ _ : Tok) (_ : Nat) (_ : Int) (_ : Heap) (_ : Nat), _ = none → _); intro _ _ _ _ _ _ _ _ _ _ _; (try dsimp only); (try k_fold))) | (with_reducible ((with_reducible show ∀ (_ : Str) (_ _ _ _ _ : Tok) (_ : Nat) (_ : Int) (_ : Heap) (_ : Nat), _ = some _ → _); intro _ _ _ _ _ _ _ _ _ _ _ _ _ _ _; (try dsimp only); (try k_fold))) | (with_reducible ((with_reducible show wpAny _ _ (call (Value.ref 707) _) _ _ _); k_dflt (refine' read_token_ok _ _ _ _ _ _ _ _ _ _ _ _ _ _ _ _ _ _ _ _ _ _ _ _ _ _ _ _ _ _ _ _ _ _ _ _ _ _ _ _ _ _ _ _ _ _ _ _ _ ?hzk1 ?hzk2 ?hzk3 ?hzk4 ?hzk5 ?hzk6 ?hzk7 ?hzk8 ?hzk9 ?hzkA ?hzkB ?hzj1 ?hzj2 ?hzj3 ?hzkC ?hzkD ?hzkE ?hzkF ?hzr1 ?hzr2; (case hzk1 => k_asm); (case hzk2 => k_asm); (case hzk3 => k_asm); (case hzk4 => k_asm); (case hzk5 => first | exact rfl | assumption); (case hzk6 => k_asm); (case hzk7 => with_reducible assumption); (case hzk8 => with_reducible assumption); (case hzk9 => with_reducible assumption); (case hzkA => with_reducible assumption); (case hzkB => with_reducible assumption); (case hzj1 => with_reducible assumption); (case hzj2 => with_reducible assumption); (case hzj3 => with_reducible assumption); (case hzkC => ktr_room); (case hzkD => ktr_units); (case hzkE => with_reducible assumption); (case hzkF => with_reducible assumption); k_whole))) | (with_reducible ((with_reducible show wpAny _ _ (call (Value.ref 558) _) _ _ _); k_dflt (refine' readline_ok _ _ _ _ _ _ _ _ _ _ _ _ _ _ _ _ _ _ _ _ _ _ _ _ _ _ _ _ _ _ _ _ _ _ _ _ ?hzk1 ?hzk2 ?hzk3 ?hzk4 ?hzk5 ?hzk6 ?hzk7 ?hzk8 ?hzk9 ?hzkA ?hzkB ?hzkC ?hzkD ?hzkE ?hzkF ?hzkG ?_; (case hzk1 => k_asm); (case hzk2 => k_asm); (case hzk3 => k_asm); (case hzk4 => k_asm); (case hzk5 => first | exact rfl | assumption); (case hzk6 => first | k_asm | exact News.tl (by k_asm)); (case hzk7 => k_all); (case hzk8 => with_reducible assumption); (case hzk9 => ktr_room); (case hzkA => ktr_units); (case hzkB => with_reducible assumption); (case hzkC => with_reducible assumption); (case hzkD => with_reducible assumption); (case hzkE => with_reducible assumption); (case hzkF => with_reducible assumption); (case hzkG => with_reducible assumption); k_whole; intro _ _ _ _ _ _ _; (try dsimp only); (try k_fold)))) | (with_reducible ((with_reducible show wpAny _ _ (call (Value.ref 550) [Value.ref _, Value.int _ _]) _ _ _); k_dflt (first | (refine' read1_ok _ _ _ _ _ _ _ _ _ _ _ _ _ _ _ _ _ _ _ _ _ _ _ _ _ _ _ _ _ _ _ _ _ _ _ _ _ ?hzk1 ?hzk2 ?hzk3 ?hzk4 ?hzk5 ?hzk6 ?hzk7 ?hzk8 ?hzk9 ?hzkA ?hzkB ?hzkC ?hzkD ?_; (case hzk1 => k_asm); (case hzk2 => k_asm); (case hzk3 => k_asm); (case hzk4 => k_asm); (case hzk5 => first | exact rfl | assumption); (case hzk6 => k_asm); (case hzk7 => k_all); (case hzk8 => with_reducible assumption); (case hzk9 => ktr_room); (case hzkA => ktr_units); (case hzkB => with_reducible assumption); (case hzkC => with_reducible assumption); (case hzkD => with_reducible assumption); k_whole; intro t9 _ h9 tk9 F9 N9; (try dsimp only); (try k_fold)) | (refine' read0_ok _ _ _ _ _ _ _ _ _ _ _ _ _ _ _ _ _ _ _ _ _ _ _ _ _ _ _ _ _ _ _ _ _ _ _ _ ?hzk1 ?hzk2 ?hzk3 ?hzk4 ?hzk5 ?hzk6 ?hzk7 ?hzk8 ?hzk9 ?hzkA ?hzkB ?hzkC ?_; (case hzk1 => k_asm); (case hzk2 => k_asm); (case hzk3 => k_asm); (case hzk4 => k_asm); (case hzk5 => first | exact rfl | assumption); (case hzk6 => k_asm); (case hzk7 => k_all); (case hzk8 => with_reducible assumption); (case hzk9 => ktr_room); (case hzkA => ktr_units); (case hzkB => with_reducible assumption); (case hzkC => with_reducible assumption); k_whole; intro t9 h9 tk9 F9 N9; (try dsimp only); (try k_fold))))) | (with_reducible ((with_reducible show wpAny _ _ (inplaceOp Operator.Add (Value.str _ _) (Value.str (Str.mk #[_]) _)) _ _ _); refine iadd1 (by with_reducible assumption) ?_; intro _ _)) | (with_reducible ((with_reducible show wpAny _ _ (PySem.truthy (Value.str _ _)) _ _ _); refine truthy_yes (by with_reducible assumption) (by with_reducible assumption) ?_)) | (with_reducible ((with_reducible show wpAny _ _ (execs _ _) _ _ _); (first | k_gentoks | ((with_reducible refine execs_one ?_); try dsimp only)))) | (with_reducible (with_reducible refine wpAny_If ?_)) | (with_reducible (first | (refine ite_isFalse (by with_reducible assumption) ?_) | (refine ite_pos (by with_reducible assumption) ?_) | (refine ite_neg (by with_reducible assumption) ?_))) | walk1 | (dsimp only; walk1) | (leave1; (try dsimp only)) | fail "no step")
  all_goals (rename (∀ p ∈ _ :: _ :: news, p.1 ≠ _) => cc9; exact hret _ _ _ _ _ _ _ _ _ _ _ _ _ _ _ _ _ _ _ _ _ _ _ _ _ _ _ _ _ _ _ _ _ _ _ _ _ _ _ _ _ _ _ _ _ _ _ _ _ _ _ _ _ _ _ _ _ _ _ _ _ _ _ _ _ _ _ (by k_asm) (by k_asm) (allne_of_lt (by with_reducible assumption)) (fun p hp => cc9 p (.tail _ (.tail _ hp))))
end
section
section
variable {prog : Program} {w : World} {A A₀ : Around} {s : Shared} {K : Frag} {L : Addr} {h₀ base : Heap} {m mg mb : Str → Option Value} {news : List (Addr × Obj)} {p : Program} {loose : List Str} {mean : ExcName → Option Value}
  {env : Env} {outer : List Env} {R : Result → Shared → Prop} {name qual : Str} {params : Arguments} {body : List Stmt} {scope : Scope} {dV kV doc pm cdv ct oc : Value} {an od : Option Addr} {osl : Array (Option Value)} {f : Addr} {args : Args} {binds : List (Str × Value)}
/-- a def entered; the post is the caller's own, with the caller's ground at hand -/
theorem code_defT
    (B : Below A₀ base outer h₀) (F : Fr h₀ L s.heap m) (X₀ : K.In h₀) (N : News h₀ L s.heap news) (T : Top p loose mean mg mb h₀) (hA : A.frames = some (env :: outer)) (hf : env.frame = some L) (hke : env.scope.kind = .function)
    (ho : K.lookup f = some ⟨oc, od, .func (fnOf name qual params body scope dV kV doc pm an cdv ct), osl⟩) (hcd : codeIn K cdv qual = true) (hroom : A.depth < recursionLimit)
    (hbind : BindsTo s (fnOf name qual params body scope dV kV doc pm an cdv ct) args binds) (hloc : ∀ y ∈ binds, scope.names.lookup y.1 = some .local)
    (h : ∀ g L' h₁, Fr h₀ L g m → Fr g L' h₁ (fun y => binds.reverse.lookup y) → News g L' h₁ news → Below A base (env :: outer) g → K.In g → Top p loose mean mg mb g →
      wpAny (model prog w) (A.deeper (envOf qual scope L' f cdv)) (execs body (envOf qual scope L' f cdv))
        (fun fl s' => R (.ok (.ret (match fl with | .ret v => v | _ => .none))) s')
        (fun e s' => wpAny (model prog w) (A.deeper (envOf qual scope L' f cdv)) (leaving (envOf qual scope L' f cdv) e) (fun _ s'' => R (.error e) s'') (fun e' s'' => R (.error e') s'') s')
        { s with heap := h₁, toks := s.toks + binds.length })
    (hco : scope.isCoroutine = false) (hgen : scope.isGenerator = false) (hk : scope.kind = .function)
    (hcell : ∀ x ∈ scope.names, x.2 ≠ .cell) : codeAny (model prog w) A (.call (.ref f) args) R s := by
  obtain ⟨FG, BG, st, _⟩ := groundX (R := R) B F N hA hf hke
  have X := X₀.keeps F.keep
  refine codeAny_call_def (fd := fnOf name qual params body scope dV kV doc pm an cdv ct) (body := body) (binds := binds) hroom (X _ _ ho) rfl (T.nolimit.keeps F.keep) (codeRec_of X hcd) rfl hbind hcell hloc (fun h₁ hns hk₁ => ?_) hco hgen hk
  exact h _ s.heap.objs.size h₁ FG ⟨hns, fun b o e => hk₁ b o (of_hideAll _ e), Nat.le_of_eq (hideAll_size _ _)⟩
    (fun p hp => ⟨hk₁ _ _ (N p hp).1, Nat.ne_of_lt (Heap.lt_size (N p hp).1), hideAll_none _ (List.mem_map_of_mem hp)⟩) BG (X₀.keeps st) (T.keeps st)
end

theorem frames_mem {env : Env} {outer : List Env} {L b : Addr} (hf : env.frame = some L) (hm : b ∈ (env :: outer).filterMap (·.frame)) : b = L ∨ b ∈ outer.filterMap (·.frame) := by
  rw [List.filterMap_cons, hf] at hm
  exact List.mem_cons.mp hm

/-- a callee whose ground has turned leaves: the caller's ground turns with it -/
theorem leave_turn {A₀ : Around} {base h₀ g g' h' : Heap} {outer : List Env} {env : Env} {L L' : Addr} {m m' : Str → Option Value} {news' : List (Addr × Obj)}
    (B : Below A₀ base outer h₀) (FG : Fr h₀ L g m) (hf : env.frame = some L) (KT : KtsTurn ((env :: outer).filterMap (·.frame)) g g') (F' : Fr g' L' h' m') (N' : News g' L' h' news') :
    ∃ h₀', KtsTurn (outer.filterMap (·.frame)) h₀ h₀' ∧ Below A₀ base outer h₀' ∧ Fr h₀' L h' m ∧ News h₀' L h' news' := by
  have nL₀ : h₀.get? L = none := kts_self FG
  obtain ⟨oL, es, ep, hLg, hLd, hLk, hLf⟩ := FG.ns
  obtain ⟨sl, hs⟩ := KT.up hLg
  obtain ⟨T₁, S₁⟩ := kts_turn_at (h := h') (fs := outer.filterMap (·.frame)) (g := h₀)
    (fun b hb => by
      obtain ⟨_, o, ho', _⟩ := B.frames.mem hb
      exact ⟨o, ho'⟩)
    (fun b o e nmem => F'.keep b o (KT.other b o (FG.keep b o e) (fun q => by
      rcases frames_mem hf q with z | z
      · rw [z, nL₀] at e
        cases e
      · exact nmem z)))
    (fun b o e _ => by
      obtain ⟨sl', hs'⟩ := KT.up (FG.keep b o e)
      exact ⟨sl', F'.keep _ _ hs'⟩)
  refine ⟨_, T₁, ⟨B.stack, fun b o e => T₁.other b o (B.stays b o e) (fun hm => by
    rw [(B.frames.mem hm).1] at e
    cases e), B.frames.of_keeps fun b o e _ => ?_⟩, ⟨⟨_, es, ep, F'.keep _ _ hs, hLd, hLk, hLf⟩, S₁, by rw [T₁.size]; exact FG.above⟩, fun q hq => ⟨(N' q hq).1, fun z => ?_, T₁.none_ _ ?_⟩⟩
  · obtain ⟨sl, hs⟩ := T₁.up e
    exact ⟨_, hs, rfl⟩
  · have := (N' q hq).2.2
    rw [z, hs] at this
    cases this
  · cases e : h₀.get? q.1 with
    | none => rfl
    | some o =>
      obtain ⟨sl', hs'⟩ := KT.up (FG.keep _ _ e)
      have := (N' q hq).2.2
      rw [hs'] at this
      cases this

theorem KtsTurn.nil_fr {h₀ h₁ h : Heap} {L : Addr} {m : Str → Option Value} (KT : KtsTurn [] h₀ h₁) (F : Fr h₁ L h m) : Fr h₀ L h m :=
  ⟨F.ns, fun b o e => F.keep b o (KT.other b o e (fun q => nomatch q)), by rw [← KT.size]; exact F.above⟩
theorem KtsTurn.nil_news {h₀ h₁ h : Heap} {L : Addr} {news : List (Addr × Obj)} (KT : KtsTurn [] h₀ h₁) (N : News h₁ L h news) : News h₀ L h news := fun q hq => ⟨(N q hq).1, (N q hq).2.1, by
  cases e : h₀.get? q.1 with
  | none => rfl
  | some o =>
    have := KT.other _ _ e (fun z => nomatch z)
    rw [(N q hq).2.2] at this
    cases this⟩
end
section
theorem perm6 {α : Type} {a b c d e f : α} {l : List α} {p : α} (hp : p ∈ c :: d :: e :: f :: a :: b :: l) : p ∈ a :: b :: c :: d :: e :: f :: l := by
  simp only [List.mem_cons] at hp ⊢
  rcases hp with h | h | h | h | h | h | h <;> simp [h]
theorem news_perm6 {h₀ h : Heap} {L : Addr} {a b c d e f : Addr × Obj} {l : List (Addr × Obj)} (N : News h₀ L h (a :: b :: c :: d :: e :: f :: l)) : News h₀ L h (c :: d :: e :: f :: a :: b :: l) := fun p hp => N p (perm6 hp)
theorem news_ne {h₀ h : Heap} {L a b : Addr} {o o' : Obj} {l : List (Addr × Obj)} (N : News h₀ L h l) (ha : (a, o) ∈ l) (hb : (b, o') ∈ l) (hne : o ≠ o') : a ≠ b := fun e => by
  have h1 := (N _ ha).1
  have h2 := (N _ hb).1
  dsimp only at h1 h2
  rw [e, h2] at h1
  exact hne (Option.some.inj h1).symm
theorem dq_dict {es : List DictEntry} {n : Nat} : dqObj ≠ dictOf es n := fun e => by
  have := congrArg (fun o : Obj => o.cls) e
  revert this
  show Value.type "collections.deque" = Value.type "dict" → False
  decide
theorem inst_dict {C d : Addr} {es : List DictEntry} {n : Nat} : instObj C d ≠ dictOf es n := fun e => by
  have := congrArg (fun o : Obj => o.cls) e
  revert this
  show Value.ref C = Value.type "dict" → False
  intro h
  cases h
theorem dict_dict {es es' : List DictEntry} {n n' : Nat} (h : n ≠ n') : dictOf es n ≠ dictOf es' n' := fun e => by
  have := congrArg (fun o : Obj => match o.data with | .dict _ k => k | _ => 0) e
  exact h this
set_option maxHeartbeats 8000000 in
theorem split_ok : ∀ (w : World) (mean : ExcName → Option Value) (mg mb : Str → Option Value) (dp un : Nat) (gd : Option (List Code)) (cn : Str) (cs : Scope) (a : Addr) (ccd : Value) (cl : List (Str × Addr)) (outer : List Env) (A₀ : Around) (base h₀ : Heap) (L : Addr) (m : Str → Option Value) (s : Shared) (Q E : Value → Shared → Prop) (news : List (Addr × Obj)) (text : Str) (t : Tok) (ws : List (List Nat)) (htk : Toks text.cps.toList ws)
    (B : Below A₀ base outer h₀) (F : Fr h₀ L s.heap m) (XB : (heap w.params).In base) (TB : Top VW LO mean mg mb base) (hk : cs.kind = .function) (N : News h₀ L s.heap news) (hd : dp < 350) (hu : un < 900) (hsz : text.length < 10000) (hac : ws.length < 9000)
    (hret : ∀ (S : Addr) (acc : Array Value) (c : Nat) (h₁ h' : Heap) (tk' : Nat), WordsAre acc.toList ws → KtsTurn (outer.filterMap (·.frame)) h₀ h₁ → Below A₀ base outer h₁ → Fr h₁ L h' m → News h₁ L h' ((S, { cls := .type "list", data := .seq acc c }) :: news) → (∀ p ∈ news, p.1 < S) → Q (.ref S) { s with heap := h', toks := tk' }),
    wpAny (model PySem.Challenge.rw_nq0213_01.prog w) (ktrTop dp un gd cn cs L a ccd cl outer) (call (.ref 751) [.str text t] [("comments", .bool true)]) Q E s := by
  intro w mean mg mb dp un gd cn cs a ccd cl outer A₀ base h₀ L m s Q E news text t ws htk B F XB TB hk N hd hu hsz hac hret
  have X := XB.keeps B.stays
  have T := TB.keeps B.stays
  refine wpAny_call ?_
  k_dflt (refine' code_defT ?k1 ?k2 ?k3 ?k4 ?k5 ?kA ?kF ?kK ?k6 ?k7 ?k8 ?k9 ?kB ?_ ?c2 ?c3 ?c4 ?c5; (case kA => exact rfl); (case kF => exact rfl); (case kK => first | exact rfl | assumption); (case k1 => k_asm); (case k2 => k_asm); (case k3 => k_asm); (case k4 => k_asm); (case k5 => k_asm); (case k6 => k_is); (case k7 => k_is); (case k8 => ktr_room); (case k9 => first | exact BindsTo.of_eq rfl | exact binds_K (by k_in) rfl (by k_is) rfl rfl rfl); (case c5 => decide); (case kB => exact locs rfl); (case c2 => exact rfl); (case c3 => exact rfl); (case c4 => exact rfl); k_whole)
  intro g1 L1 hp1 FG1 F1 N1 B1 X1 T1
  (try dsimp only)
  (try k_lift B1)
  replace F1 := Fr.re (m' := fun y => if y = "posix" then some (.bool true) else if y = "comments" then some (.bool true) else if y = "s" then some (.str text t) else none) F1 (fun y => look_chain [(("posix" : Str), (.bool true : Value)), (("comments" : Str), (.bool true : Value)), (("s" : Str), (.str text t : Value))] y)
  (try k_fold)
  repeat' ((fail_if_success (with_reducible show wpAny _ _ (call (Value.ref 739) _ _) _ _ _)); first | (k_unfold; (try dsimp only)) | (k_end; wrow_close) | (with_reducible ((with_reducible show wpAny _ _ (call (Value.type "collections.deque") _) _ _ _); (k_dflt (refine' dq_make ?hzk1 ?hzk2 ?_; (case hzk1 => k_asm); (case hzk2 => k_asm); k_whole); intro _ _ _ _ l9; (try k_lt l9)))) | (with_reducible ((with_reducible show wpAny _ _ (call (Value.ref 604) _) _ _ _); k_dflt (refine' mkio_ok _ _ _ _ _ _ _ _ _ _ _ _ _ _ _ _ _ _ _ _ _ _ _ _ ?hzk1 ?hzk2 ?hzk3 ?hzk4 ?hzk5 ?hzk6 ?hzk7 ?hzk8 ?_; (case hzk1 => k_asm); (case hzk2 => k_asm); (case hzk3 => k_asm); (case hzk4 => k_asm); (case hzk5 => first | exact rfl | assumption); (case hzk6 => k_asm); (case hzk7 => ktr_room); (case hzk8 => ktr_units); k_whole; intro _ _ _ _ _ _ _ _ _ _ _ _ _ _ _ _ b9 c9; (have y19 := Ne.symm (b9 _ (List.Mem.tail _ (List.Mem.head _)))); (have y29 := Ne.symm (c9 _ (List.Mem.tail _ (List.Mem.head _)))); (have y39 := b9 _ (List.Mem.head _)); (have y49 := c9 _ (List.Mem.head _)); (try dsimp only at y19 y29 y39 y49); (try dsimp only); (try k_fold)))) | (with_reducible ((with_reducible show wpAny _ _ (call (Value.ref 700) _) _ _ _); k_dflt (refine' get_token_ok _ _ _ _ _ _ _ _ _ _ _ _ _ _ _ _ _ _ _ _ _ _ _ _ _ _ _ _ _ _ _ _ _ _ _ _ _ _ _ _ _ _ _ _ _ _ _ _ _ ?hzk1 ?hzk2 ?hzk3 ?hzk4 ?hzk5 ?hzk6 ?hzk7 ?hzk8 ?hzk9 ?hzkA ?hzkB ?hzj1 ?hzj2 ?hzj3 ?hzkC ?hzkD ?hzkE ?hzkG ?hzkH ?hzkF ?hzr1 ?hzr2; (case hzk1 => k_asm); (case hzk2 => k_asm); (case hzk3 => k_asm); (case hzk4 => k_asm); (case hzk5 => first | exact rfl | assumption); (case hzk6 => k_asm); (case hzk7 => with_reducible assumption); (case hzk8 => with_reducible assumption); (case hzk9 => with_reducible assumption); (case hzkA => with_reducible assumption); (case hzkB => with_reducible assumption); (case hzj1 => with_reducible assumption); (case hzj2 => with_reducible assumption); (case hzj3 => with_reducible assumption); (case hzkC => ktr_room); (case hzkD => ktr_units); (case hzkE => with_reducible assumption); (case hzkG => with_reducible assumption); (case hzkH => with_reducible assumption); (case hzkF => with_reducible assumption); k_whole))) | (with_reducible ((with_reducible show wpAny _ _ (truthy (Value.ref _)) _ _ _); refine dq_truthy (get4 (by k_asm) (by with_reducible assumption)) ?_)) | (with_reducible ((with_reducible show ∀ (_ _ _ : Tok) (_ : Nat) (_ : Int) (_ : Heap) (_ : Nat), _ = none → _); intro _ _ _ _ _ _ _ _ _ _ _; (try dsimp only); (try k_fold))) | (with_reducible ((with_reducible show ∀ (_ : Str) (_ _ _ _ _ : Tok) (_ : Nat) (_ : Int) (_ : Heap) (_ : Nat), _ = some _ → _); intro _ _ _ _ _ _ _ _ _ _ _ _ _ _ _; (try dsimp only); (try k_fold))) | (with_reducible ((with_reducible show wpAny _ _ (call (Value.ref 707) _) _ _ _); k_dflt (refine' read_token_ok _ _ _ _ _ _ _ _ _ _ _ _ _ _ _ _ _ _ _ _ _ _ _ _ _ _ _ _ _ _ _ _ _ _ _ _ _ _ _ _ _ _ _ _ _ _ _ _ _ ?hzk1 ?hzk2 ?hzk3 ?hzk4 ?hzk5 ?hzk6 ?hzk7 ?hzk8 ?hzk9 ?hzkA ?hzkB ?hzj1 ?hzj2 ?hzj3 ?hzkC ?hzkD ?hzkE ?hzkF ?hzr1 ?hzr2; (case hzk1 => k_asm); (case hzk2 => k_asm); (case hzk3 => k_asm); (case hzk4 => k_asm); (case hzk5 => first | exact rfl | assumption); (case hzk6 => k_asm); (case hzk7 => with_reducible assumption); (case hzk8 => with_reducible assumption); (case hzk9 => with_reducible assumption); (case hzkA => with_reducible assumption); (case hzkB => with_reducible assumption); (case hzj1 => with_reducible assumption); (case hzj2 => with_reducible assumption); (case hzj3 => with_reducible assumption); (case hzkC => ktr_room); (case hzkD => ktr_units); (case hzkE => with_reducible assumption); (case hzkF => with_reducible assumption); k_whole))) | (with_reducible ((with_reducible show wpAny _ _ (call (Value.ref 558) _) _ _ _); k_dflt (refine' readline_ok _ _ _ _ _ _ _ _ _ _ _ _ _ _ _ _ _ _ _ _ _ _ _ _ _ _ _ _ _ _ _ _ _ _ _ _ ?hzk1 ?hzk2 ?hzk3 ?hzk4 ?hzk5 ?hzk6 ?hzk7 ?hzk8 ?hzk9 ?hzkA ?hzkB ?hzkC ?hzkD ?hzkE ?hzkF ?hzkG ?_; (case hzk1 => k_asm); (case hzk2 => k_asm); (case hzk3 => k_asm); (case hzk4 => k_asm); (case hzk5 => first | exact rfl | assumption); (case hzk6 => first | k_asm | exact News.tl (by k_asm)); (case hzk7 => k_all); (case hzk8 => with_reducible assumption); (case hzk9 => ktr_room); (case hzkA => ktr_units); (case hzkB => with_reducible assumption); (case hzkC => with_reducible assumption); (case hzkD => with_reducible assumption); (case hzkE => with_reducible assumption); (case hzkF => with_reducible assumption); (case hzkG => with_reducible assumption); k_whole; intro _ _ _ _ _ _ _; (try dsimp only); (try k_fold)))) | (with_reducible ((with_reducible show wpAny _ _ (call (Value.ref 550) [Value.ref _, Value.int _ _]) _ _ _); k_dflt (first | (refine' read1_ok _ _ _ _ _ _ _ _ _ _ _ _ _ _ _ _ _ _ _ _ _ _ _ _ _ _ _ _ _ _ _ _ _ _ _ _ _ ?hzk1 ?hzk2 ?hzk3 ?hzk4 ?hzk5 ?hzk6 ?hzk7 ?hzk8 ?hzk9 ?hzkA ?hzkB ?hzkC ?hzkD ?_; (case hzk1 => k_asm); (case hzk2 => k_asm); (case hzk3 => k_asm); (case hzk4 => k_asm); (case hzk5 => first | exact rfl | assumption); (case hzk6 => k_asm); (case hzk7 => k_all); (case hzk8 => with_reducible assumption); (case hzk9 => ktr_room); (case hzkA => ktr_units); (case hzkB => with_reducible assumption); (case hzkC => with_reducible assumption); (case hzkD => with_reducible assumption); k_whole; intro t9 _ h9 tk9 F9 N9; (try dsimp only); (try k_fold)) | (refine' read0_ok _ _ _ _ _ _ _ _ _ _ _ _ _ _ _ _ _ _ _ _ _ _ _ _ _ _ _ _ _ _ _ _ _ _ _ _ ?hzk1 ?hzk2 ?hzk3 ?hzk4 ?hzk5 ?hzk6 ?hzk7 ?hzk8 ?hzk9 ?hzkA ?hzkB ?hzkC ?_; (case hzk1 => k_asm); (case hzk2 => k_asm); (case hzk3 => k_asm); (case hzk4 => k_asm); (case hzk5 => first | exact rfl | assumption); (case hzk6 => k_asm); (case hzk7 => k_all); (case hzk8 => with_reducible assumption); (case hzk9 => ktr_room); (case hzkA => ktr_units); (case hzkB => with_reducible assumption); (case hzkC => with_reducible assumption); k_whole; intro t9 h9 tk9 F9 N9; (try dsimp only); (try k_fold))))) | (with_reducible ((with_reducible show wpAny _ _ (inplaceOp Operator.Add (Value.str _ _) (Value.str (Str.mk #[_]) _)) _ _ _); refine iadd1 (by with_reducible assumption) ?_; intro _ _)) | (with_reducible ((with_reducible show wpAny _ _ (PySem.truthy (Value.str _ _)) _ _ _); refine truthy_yes (by with_reducible assumption) (by with_reducible assumption) ?_)) | (with_reducible ((with_reducible show wpAny _ _ (execs _ _) _ _ _); (first | k_gentoks | ((with_reducible refine execs_one ?_); try dsimp only)))) | (with_reducible (with_reducible refine wpAny_If ?_)) | (with_reducible (first | (refine ite_isFalse (by with_reducible assumption) ?_) | (refine ite_pos (by with_reducible assumption) ?_) | (refine ite_neg (by with_reducible assumption) ?_))) | walk1 | (dsimp only; walk1) | (leave1; (try dsimp only)) | fail "no step")
  show wpAny _ _ (call (Value.ref 739) _ [("posix", .bool true)]) _ _ _
  k_dflt (refine' mklex_ok _ _ _ _ _ _ _ _ _ _ _ _ _ _ _ _ _ _ _ _ _ _ _ _ ?k1 ?k2 ?k3 ?k4 ?k5 ?k6 ?k7 ?k8 ?_; (case k1 => k_asm); (case k2 => k_asm); (case k3 => k_asm); (case k4 => k_asm); (case k5 => first | exact rfl | assumption); (case k6 => k_asm); (case k7 => ktr_room); (case k8 => ktr_units); k_whole)
  intro lx dlx pb fs wc io dio t1 t2 t3 k1 k2 k3 e1 e2 e3 x0 x1 x2 x3 x4 x5 x6 x7 x8 x9 x10 x11 x12 x13 x14 x15 x16 x17 x18 y0 y1 y2 y3 y4 y5 y6 y7 y8 y9 y10 y11 y12 y13 y14 y15 y16 y17 y18 z4 z5 z6 z8 z9 z10 z11 z13 z14 z15 z18 h9 tk9 F9 N9 nd9 ne9
  have i1 : fs ≠ dlx := news_ne N9 (by repeat (first | exact List.Mem.head _ | refine List.Mem.tail _ ?_)) (by repeat (first | exact List.Mem.head _ | refine List.Mem.tail _ ?_)) dq_dict
  have i2 : pb ≠ dlx := news_ne N9 (by repeat (first | exact List.Mem.head _ | refine List.Mem.tail _ ?_)) (by repeat (first | exact List.Mem.head _ | refine List.Mem.tail _ ?_)) dq_dict
  have i3 : io ≠ dlx := news_ne N9 (by repeat (first | exact List.Mem.head _ | refine List.Mem.tail _ ?_)) (by repeat (first | exact List.Mem.head _ | refine List.Mem.tail _ ?_)) inst_dict
  have i4 : dio ≠ dlx := news_ne N9 (by repeat (first | exact List.Mem.head _ | refine List.Mem.tail _ ?_)) (by repeat (first | exact List.Mem.head _ | refine List.Mem.tail _ ?_)) (dict_dict (by decide))
  have i5 : lx ≠ dlx := news_ne N9 (by repeat (first | exact List.Mem.head _ | refine List.Mem.tail _ ?_)) (by repeat (first | exact List.Mem.head _ | refine List.Mem.tail _ ?_)) inst_dict
  have i6 : fs ≠ dio := news_ne N9 (by repeat (first | exact List.Mem.head _ | refine List.Mem.tail _ ?_)) (by repeat (first | exact List.Mem.head _ | refine List.Mem.tail _ ?_)) dq_dict
  have i7 : pb ≠ dio := news_ne N9 (by repeat (first | exact List.Mem.head _ | refine List.Mem.tail _ ?_)) (by repeat (first | exact List.Mem.head _ | refine List.Mem.tail _ ?_)) dq_dict
  have i8 : io ≠ dio := news_ne N9 (by repeat (first | exact List.Mem.head _ | refine List.Mem.tail _ ?_)) (by repeat (first | exact List.Mem.head _ | refine List.Mem.tail _ ?_)) inst_dict
  have i9 : lx ≠ dio := news_ne N9 (by repeat (first | exact List.Mem.head _ | refine List.Mem.tail _ ?_)) (by repeat (first | exact List.Mem.head _ | refine List.Mem.tail _ ?_)) inst_dict
  (try dsimp only)
  (try k_fold)
  repeat' ((fail_if_success (with_reducible show wpAny _ _ (call (Value.type "list") _ _) _ _ _)); first | (k_unfold; (try dsimp only)) | (k_end; wrow_close) | (with_reducible ((with_reducible show wpAny _ _ (call (Value.type "collections.deque") _) _ _ _); (k_dflt (refine' dq_make ?hzk1 ?hzk2 ?_; (case hzk1 => k_asm); (case hzk2 => k_asm); k_whole); intro _ _ _ _ l9; (try k_lt l9)))) | (with_reducible ((with_reducible show wpAny _ _ (call (Value.ref 604) _) _ _ _); k_dflt (refine' mkio_ok _ _ _ _ _ _ _ _ _ _ _ _ _ _ _ _ _ _ _ _ _ _ _ _ ?hzk1 ?hzk2 ?hzk3 ?hzk4 ?hzk5 ?hzk6 ?hzk7 ?hzk8 ?_; (case hzk1 => k_asm); (case hzk2 => k_asm); (case hzk3 => k_asm); (case hzk4 => k_asm); (case hzk5 => first | exact rfl | assumption); (case hzk6 => k_asm); (case hzk7 => ktr_room); (case hzk8 => ktr_units); k_whole; intro _ _ _ _ _ _ _ _ _ _ _ _ _ _ _ _ b9 c9; (have y19 := Ne.symm (b9 _ (List.Mem.tail _ (List.Mem.head _)))); (have y29 := Ne.symm (c9 _ (List.Mem.tail _ (List.Mem.head _)))); (have y39 := b9 _ (List.Mem.head _)); (have y49 := c9 _ (List.Mem.head _)); (try dsimp only at y19 y29 y39 y49); (try dsimp only); (try k_fold)))) | (with_reducible ((with_reducible show wpAny _ _ (call (Value.ref 700) _) _ _ _); k_dflt (refine' get_token_ok _ _ _ _ _ _ _ _ _ _ _ _ _ _ _ _ _ _ _ _ _ _ _ _ _ _ _ _ _ _ _ _ _ _ _ _ _ _ _ _ _ _ _ _ _ _ _ _ _ ?hzk1 ?hzk2 ?hzk3 ?hzk4 ?hzk5 ?hzk6 ?hzk7 ?hzk8 ?hzk9 ?hzkA ?hzkB ?hzj1 ?hzj2 ?hzj3 ?hzkC ?hzkD ?hzkE ?hzkG ?hzkH ?hzkF ?hzr1 ?hzr2; (case hzk1 => k_asm); (case hzk2 => k_asm); (case hzk3 => k_asm); (case hzk4 => k_asm); (case hzk5 => first | exact rfl | assumption); (case hzk6 => k_asm); (case hzk7 => with_reducible assumption); (case hzk8 => with_reducible assumption); (case hzk9 => with_reducible assumption); (case hzkA => with_reducible assumption); (case hzkB => with_reducible assumption); (case hzj1 => with_reducible assumption); (case hzj2 => with_reducible assumption); (case hzj3 => with_reducible assumption); (case hzkC => ktr_room); (case hzkD => ktr_units); (case hzkE => with_reducible assumption); (case hzkG => with_reducible assumption); (case hzkH => with_reducible assumption); (case hzkF => with_reducible assumption); k_whole))) | (with_reducible ((with_reducible show wpAny _ _ (truthy (Value.ref _)) _ _ _); refine dq_truthy (get4 (by k_asm) (by with_reducible assumption)) ?_)) | (with_reducible ((with_reducible show ∀ (_ _ _ : Tok) (_ : Nat) (_ : Int) (_ : Heap) (_ : Nat), _ = none → _); intro _ _ _ _ _ _ _ _ _ _ _; (try dsimp only); (try k_fold))) | (with_reducible ((with_reducible show ∀ (_ : Str) (_ _ _ _ _ : Tok) (_ : Nat) (_ : Int) (_ : Heap) (_ : Nat), _ = some _ → _); intro _ _ _ _ _ _ _ _ _ _ _ _ _ _ _; (try dsimp only); (try k_fold))) | (with_reducible ((with_reducible show wpAny _ _ (call (Value.ref 707) _) _ _ _); k_dflt (refine' read_token_ok _ _ _ _ _ _ _ _ _ _ _ _ _ _ _ _ _ _ _ _ _ _ _ _ _ _ _ _ _ _ _ _ _ _ _ _ _ _ _ _ _ _ _ _ _ _ _ _ _ ?hzk1 ?hzk2 ?hzk3 ?hzk4 ?hzk5 ?hzk6 ?hzk7 ?hzk8 ?hzk9 ?hzkA ?hzkB ?hzj1 ?hzj2 ?hzj3 ?hzkC ?hzkD ?hzkE ?hzkF ?hzr1 ?hzr2; (case hzk1 => k_asm); (case hzk2 => k_asm); (case hzk3 => k_asm); (case hzk4 => k_asm); (case hzk5 => first | exact rfl | assumption); (case hzk6 => k_asm); (case hzk7 => with_reducible assumption); (case hzk8 => with_reducible assumption); (case hzk9 => with_reducible assumption); (case hzkA => with_reducible assumption); (case hzkB => with_reducible assumption); (case hzj1 => with_reducible assumption); (case hzj2 => with_reducible assumption); (case hzj3 => with_reducible assumption); (case hzkC => ktr_room); (case hzkD => ktr_units); (case hzkE => with_reducible assumption); (case hzkF => with_reducible assumption); k_whole))) | (with_reducible ((with_reducible show wpAny _ _ (call (Value.ref 558) _) _ _ _); k_dflt (refine' readline_ok _ _ _ _ _ _ _ _ _ _ _ _ _ _ _ _ _ _ _ _ _ _ _ _ _ _ _ _ _ _ _ _ _ _ _ _ ?hzk1 ?hzk2 ?hzk3 ?hzk4 ?hzk5 ?hzk6 ?hzk7 ?hzk8 ?hzk9 ?hzkA ?hzkB ?hzkC ?hzkD ?hzkE ?hzkF ?hzkG ?_; (case hzk1 => k_asm); (case hzk2 => k_asm); (case hzk3 => k_asm); (case hzk4 => k_asm); (case hzk5 => first | exact rfl | assumption); (case hzk6 => first | k_asm | exact News.tl (by k_asm)); (case hzk7 => k_all); (case hzk8 => with_reducible assumption); (case hzk9 => ktr_room); (case hzkA => ktr_units); (case hzkB => with_reducible assumption); (case hzkC => with_reducible assumption); (case hzkD => with_reducible assumption); (case hzkE => with_reducible assumption); (case hzkF => with_reducible assumption); (case hzkG => with_reducible assumption); k_whole; intro _ _ _ _ _ _ _; (try dsimp only); (try k_fold)))) | (with_reducible ((with_reducible show wpAny _ _ (call (Value.ref 550) [Value.ref _, Value.int _ _]) _ _ _); k_dflt (first | (refine' read1_ok _ _ _ _ _ _ _ _ _ _ _ _ _ _ _ _ _ _ _ _ _ _ _ _ _ _ _ _ _ _ _ _ _ _ _ _ _ ?hzk1 ?hzk2 ?hzk3 ?hzk4 ?hzk5 ?hzk6 ?hzk7 ?hzk8 ?hzk9 ?hzkA ?hzkB ?hzkC ?hzkD ?_; (case hzk1 => k_asm); (case hzk2 => k_asm); (case hzk3 => k_asm); (case hzk4 => k_asm); (case hzk5 => first | exact rfl | assumption); (case hzk6 => k_asm); (case hzk7 => k_all); (case hzk8 => with_reducible assumption); (case hzk9 => ktr_room); (case hzkA => ktr_units); (case hzkB => with_reducible assumption); (case hzkC => with_reducible assumption); (case hzkD => with_reducible assumption); k_whole; intro t9 _ h9 tk9 F9 N9; (try dsimp only); (try k_fold)) | (refine' read0_ok _ _ _ _ _ _ _ _ _ _ _ _ _ _ _ _ _ _ _ _ _ _ _ _ _ _ _ _ _ _ _ _ _ _ _ _ ?hzk1 ?hzk2 ?hzk3 ?hzk4 ?hzk5 ?hzk6 ?hzk7 ?hzk8 ?hzk9 ?hzkA ?hzkB ?hzkC ?_; (case hzk1 => k_asm); (case hzk2 => k_asm); (case hzk3 => k_asm); (case hzk4 => k_asm); (case hzk5 => first | exact rfl | assumption); (case hzk6 => k_asm); (case hzk7 => k_all); (case hzk8 => with_reducible assumption); (case hzk9 => ktr_room); (case hzkA => ktr_units); (case hzkB => with_reducible assumption); (case hzkC => with_reducible assumption); k_whole; intro t9 h9 tk9 F9 N9; (try dsimp only); (try k_fold))))) | (with_reducible ((with_reducible show wpAny _ _ (inplaceOp Operator.Add (Value.str _ _) (Value.str (Str.mk #[_]) _)) _ _ _); refine iadd1 (by with_reducible assumption) ?_; intro _ _)) | (with_reducible ((with_reducible show wpAny _ _ (PySem.truthy (Value.str _ _)) _ _ _); refine truthy_yes (by with_reducible assumption) (by with_reducible assumption) ?_)) | (with_reducible ((with_reducible show wpAny _ _ (execs _ _) _ _ _); (first | k_gentoks | ((with_reducible refine execs_one ?_); try dsimp only)))) | (with_reducible (with_reducible refine wpAny_If ?_)) | (with_reducible (first | (refine ite_isFalse (by with_reducible assumption) ?_) | (refine ite_pos (by with_reducible assumption) ?_) | (refine ite_neg (by with_reducible assumption) ?_))) | walk1 | (dsimp only; walk1) | (leave1; (try dsimp only)) | fail "no step")
  rename (News g1 L1 _ (_ :: _ :: _ :: _ :: _ :: _ :: news)) => NN
  have NP := news_perm6 NN
  k_dflt (refine' list_ok w mean mg mb _ _ _ _ _ _ _ _ _ _ base g1 L1 _ _ _ _ io dio text t1 t2 t3 k1 k2 k3 e1 e2 e3 0 ((fs, dqObj) :: (pb, dqObj) :: news) lx dlx pb fs wc (fun n => [x0, x1, x2, x3, x4, x5, x6, x7, x8, x9, x10, x11, x12, x13, x14, x15, x16, x17, x18].getD n 0) (fun n => [y0, y1, y2, y3, y4, y5, y6, y7, y8, y9, y10, y11, y12, y13, y14, y15, y16, y17, y18].getD n y0) (fun n => [y0, y0, y0, y0, z4, z5, z6, y0, z8, z9, z10, z11, y0, z13, z14, z15, y0, y0, z18].getD n y0) text.cps.toList ws htk z13 z15 z11 1 ?k1 ?k2 ?k3 ?k4 ?k5 NP ?h1 ?h2 i3 i4 i5 i9 (Ne.symm i4) i8 ?k6 ?k7 hsz (.tail _ (.head _)) (.head _) rfl hac ?_; (case k1 => k_asm); (case k2 => k_asm); (case k3 => k_asm); (case k4 => k_asm); (case k5 => exact rfl); (case k6 => ktr_room); (case k7 => ktr_units); k_whole)
  case h1 =>
    intro p hp
    rcases List.mem_cons.mp hp with rfl | hp
    · exact i6
    rcases List.mem_cons.mp hp with rfl | hp
    · exact i7
    exact ne9 p hp
  case h2 =>
    intro p hp
    rcases List.mem_cons.mp hp with rfl | hp
    · exact i1
    rcases List.mem_cons.mp hp with rfl | hp
    · exact i2
    exact nd9 p hp
  intro S acc c tl tt t3' pos' ln' h₁ h' tk' hW KT B' F' N' hl
  obtain ⟨h₀', KT', B'', F'', N''⟩ := leave_turn B FG1 rfl KT F' N'
  exact hret S acc c h₀' h' tk' hW KT' B'' F'' (fun p hp => N'' p (by
    rcases List.mem_cons.mp hp with rfl | hp
    · exact .tail _ (.tail _ (.tail _ (.tail _ (.head _))))
    · exact .tail _ (.tail _ (.tail _ (.tail _ (.tail _ (.tail _ (.tail _ hp)))))))) (fun p hp => hl p (.tail _ (.tail _ hp)))
end
section
theorem fr_but {h₀ h h' : Heap} {L it : Addr} {m : Str → Option Value} (F : Fr h₀ L h m) (h0 : h₀.get? it = none) (hL : it ≠ L) (hs : Heap.ExtBut it h h') : Fr h₀ L h' m := by
  obtain ⟨o, a1, a2, ho, r⟩ := F.ns
  refine ⟨⟨o, a1, a2, hs _ _ (Ne.symm hL) ho, r⟩, fun b o e => hs b o (fun z => ?_) (F.keep b o e), F.above⟩
  rw [z, h0] at e
  cases e
theorem news_but {h₀ h h' : Heap} {L it : Addr} {news : List (Addr × Obj)} (N : News h₀ L h news) (hne : ∀ p ∈ news, p.1 ≠ it) (hs : Heap.ExtBut it h h') : News h₀ L h' news :=
  fun p hp => ⟨hs _ _ (hne p hp) (N p hp).1, (N p hp).2⟩
theorem news_with {h₀ h : Heap} {L it : Addr} {o o' : Obj} {news news' : List (Addr × Obj)} (N : News h₀ L h news) (e : h.get? it = some o) (h1 : it ≠ L) (h2 : h₀.get? it = none) : News h₀ L h ((it, o) :: news) := fun p hp => by
  rcases List.mem_cons.mp hp with rfl | hp
  · exact ⟨e, h1, h2⟩
  · exact N p hp
noncomputable abbrev rgObj (x left step : Int) : Obj := { cls := .type "range_iterator", dict := none, data := .fields #[rawInt x, rawInt left, rawInt step], slots := #[] }
section
variable {prog : Program} {w : World} {A : Around} {E : Value → Shared → Prop} {s : Shared} {h₀ : Heap} {L it : Addr} {m : Str → Option Value} {news : List (Addr × Obj)} {Q : Option Value → Shared → Prop}
theorem rng_next {x left step : Int} (F : Fr h₀ L s.heap m) (N : News h₀ L s.heap ((it, rgObj x left step) :: news)) (hne : ∀ p ∈ news, p.1 ≠ it) (hl : 0 < left)
    (hQ : ∀ h', Fr h₀ L h' m → News h₀ L h' ((it, rgObj (x + step) (left - 1) step) :: news) → Q (some (.int x s.toks)) { s with heap := h', toks := s.toks + 1 }) : wpAny (model prog w) A (pyNext (.ref it)) Q E s := by
  obtain ⟨h1, h2, h3⟩ := N _ (.head _)
  refine wpAny_pyNext_range_item (x := x) (left := left) (step := step) h1 hl fun h' hit hs => ?_
  exact hQ h' (fr_but F h3 h2 hs.extBut) (news_with (news' := news) (o' := rgObj 0 0 0) (news_but (fun p hp => N p (.tail _ hp)) hne hs.extBut) hit h2 h3)
theorem rng_end {x left step : Int} (hh : A.handled = none) (F : Fr h₀ L s.heap m) (N : News h₀ L s.heap ((it, rgObj x left step) :: news)) (hne : ∀ p ∈ news, p.1 ≠ it) (hl : left ≤ 0)
    (hQ : ∀ h', Fr h₀ L h' m → News h₀ L h' news → Q none { s with heap := h' }) : wpAny (model prog w) A (pyNext (.ref it)) Q E s := by
  obtain ⟨h1, h2, h3⟩ := N _ (.head _)
  refine wpAny_pyNext_range_end (x := x) (left := left) (step := step) hh h1 hl fun h' hs => ?_
  exact hQ h' (fr_but F h3 h2 hs) (news_but (fun p hp => N p (.tail _ hp)) hne hs)
/-- an iterator of a list, at place i -/
noncomputable def LitAt (o : Obj) (l : Addr) (i : Nat) : Prop := o.cls = .type "list_iterator" ∧ o.data = .fields #[.ref l, .int i 0]
theorem lst_next {o : Obj} {l : Addr} {i : Nat} {items : Array Value} {x : Value} (F : Fr h₀ L s.heap m) (N : News h₀ L s.heap ((it, o) :: news)) (hne : ∀ p ∈ news, p.1 ≠ it) (ho : LitAt o l i) (hl : s.heap.IsList l items) (hx : items[i]? = some x)
    (hQ : ∀ h' o', Fr h₀ L h' m → LitAt o' l (i + 1) → News h₀ L h' ((it, o') :: news) → Q (some x) { s with heap := h' }) : wpAny (model prog w) A (pyNext (.ref it)) Q E s := by
  obtain ⟨h1, h2, h3⟩ := N _ (.head _)
  refine wpAny_pyNext_list_item (l := l) (i := i) ⟨o, h1, ho.1, ho.2⟩ hl hx fun h' hit hs => ?_
  obtain ⟨o', e, c1, c2⟩ := hit
  exact hQ h' o' (fr_but F h3 h2 hs.extBut) ⟨c1, c2⟩ (news_with (news' := news) (o' := rgObj 0 0 0) (news_but (fun p hp => N p (.tail _ hp)) hne hs.extBut) e h2 h3)
theorem lst_end {o : Obj} {l : Addr} {i : Nat} {items : Array Value} (hh : A.handled = none) (F : Fr h₀ L s.heap m) (N : News h₀ L s.heap ((it, o) :: news)) (hne : ∀ p ∈ news, p.1 ≠ it) (ho : LitAt o l i) (hl : s.heap.IsList l items) (hx : items[i]? = none)
    (hQ : ∀ h', Fr h₀ L h' m → News h₀ L h' news → Q none { s with heap := h' }) : wpAny (model prog w) A (pyNext (.ref it)) Q E s := by
  obtain ⟨h1, h2, h3⟩ := N _ (.head _)
  refine wpAny_pyNext_list_end (l := l) (i := i) hh ⟨o, h1, ho.1, ho.2⟩ hl hx fun h' hs => ?_
  exact hQ h' (fr_but F h3 h2 hs) (news_but (fun p hp => N p (.tail _ hp)) hne hs)
end
theorem for_inv {prog : Program} {w : World} {A : Around} {E : Value → Shared → Prop} {s : Shared} {env : Env} {target : Expr} {it : Value} {body : List Stmt} {Q : Flow → Shared → Prop}
    (I : Nat → Shared → Prop) (J : Shared → Prop) (n : Nat) (h : I n s)
    (turn : ∀ n s, I n s → wpAny (model prog w) A (pyNext it) (fun r s₁ => match r with
      | none => J s₁
      | some v => wpAny (model prog w) A (assign target env v) (fun _ s₂ => wpAny (model prog w) A (execs body env) (fun f s₃ => match f with
        | .next => Less I n s₃ | .cont => Less I n s₃ | .brk => Held J s₃ | .ret _ => False) (fun _ _ => False) s₂) (fun _ _ => False) s₁) (fun _ _ => False) s)
    (post : ∀ s', J s' → Q .next s') (ht : ∀ v, letOwnedTupleGo target it v = pure ()) :
    codeAny (model prog w) A (.forLoop target it body [] env) (fun r s' => match r with | .ok f => Q f s' | .error e => cameBackBy (model prog w) A env E e s') s := by
  refine codeAny_forLoop I (fun n s hI => ?_) n h ht
  have no : ∀ (e : Value) (s' : Shared), False → notedBy (model prog w) A env (fun e s' => match (Except.error e : Result) with | .ok f => Q f s' | .error e => cameBackBy (model prog w) A env E e s') e s' := fun _ _ x => x.elim
  refine wpAny_mono (turn n s hI) (fun r s₁ h₁ => ?_) (fun _ _ x => x.elim)
  cases r with
  | none => exact wpAny_execs_nil (post _ h₁)
  | some v =>
    refine wpAny_mono h₁ (fun _ s₂ h₂ => wpAny_mono h₂ (fun f s₃ h₃ => ?_) (fun _ _ x => x.elim)) (fun _ _ x => x.elim)
    cases f with
    | next => exact h₃
    | cont => exact h₃
    | brk => exact post _ h₃
    | ret v => exact h₃.elim
/-- the same with letters for what comes after: the walk's goals stay small -/
theorem for_inv_q {prog : Program} {w : World} {A : Around} {E : Value → Shared → Prop} {s : Shared} {env : Env} {target : Expr} {it : Value} {body : List Stmt} {Q : Flow → Shared → Prop}
    (I : Nat → Shared → Prop) (J : Shared → Prop) (n : Nat) (h : I n s)
    (turn : ∀ n s, I n s → ∀ QP : Option Value → Shared → Prop, (∀ s₁, J s₁ → QP none s₁) →
      (∀ v s₁, (∀ QQ : Flow → Shared → Prop, (∀ s₃, Less I n s₃ → QQ .next s₃) → (∀ s₃, Less I n s₃ → QQ .cont s₃) → (∀ s₃, Held J s₃ → QQ .brk s₃) →
        wpAny (model prog w) A (assign target env v) (fun _ s₂ => wpAny (model prog w) A (execs body env) QQ (fun _ _ => False) s₂) (fun _ _ => False) s₁) → QP (some v) s₁) →
      wpAny (model prog w) A (pyNext it) QP (fun _ _ => False) s)
    (post : ∀ s', J s' → Q .next s') (ht : ∀ v, letOwnedTupleGo target it v = pure ()) :
    codeAny (model prog w) A (.forLoop target it body [] env) (fun r s' => match r with | .ok f => Q f s' | .error e => cameBackBy (model prog w) A env E e s') s :=
  for_inv I J n h (fun n s hI => turn n s hI _ (fun _ h => h) (fun _ _ h => h _ (fun _ h => h) (fun _ h => h) (fun _ h => h))) post ht
end
section
theorem entry_search : entryFor table "re.Pattern.search" = some Builtin.«re.Pattern.search» := entryFor_of_tree (by kernel_rfl)
theorem kind_search : builtinKind "re.Pattern.search" = some .method := by kernel_rfl
theorem sub_pm : isSubtype (.type "re.Pattern") (.type "module") = pure false := by rw [isSubtype_type]; kernel_rfl
noncomputable def sigS : Manifest.Signature := (Manifest.signature? "re.Pattern.search").get (by decide +kernel)
theorem sig_search : Manifest.signature? "re.Pattern.search" = some sigS := by kernel_rfl
theorem var_search : Manifest.varargsMethods.contains "re.Pattern.search" = false := by kernel_rfl
theorem args_search (v u : Value) : Bind.checkArgs "re.Pattern.search" { sigS with full := s!"{Bind.lastOf "re.Pattern"}.{Bind.lastOf "re.Pattern.search"}" } ⟨[v, u], []⟩ = pure () := by kernel_rfl
section
variable {w : World} {A : Around} {s : Shared} {E : Value → Shared → Prop}
noncomputable abbrev patObj (t1 t2 : Tok) : Obj := { cls := .type "re.Pattern", data := .fields #[.str "[^\\w@%+=:,./-]" t1, .int 256 t2, .int 0 0, .none, .none, .ref 55, .int 0 0] }
theorem chk_search {Q : Unit → Shared → Prop} {x : Value} {t1 t2 : Tok} (ho : s.heap.get? 56 = some (patObj t1 t2)) (hQ : Q () s) :
    wpAny (model PySem.Challenge.rw_nq0213_01.prog w) A (checkBoundCall "re.Pattern.search" ⟨[.ref 56, x], []⟩) Q E s := by
  have hT : s.TypeIs (.ref 56) "re.Pattern" := ⟨_, ho, rfl⟩
  unfold checkBoundCall
  rw [sig_search, kind_search]
  show wpAny _ A (isInstance (.ref 56) (.type "module") >>= _) _ _ _
  refine wpAny_bind (wpAny_isInstance hT sub_pm ?_)
  rw [var_search]
  show wpAny _ A (isType (.ref 56) >>= _) _ _ _
  refine wpAny_bind ?_
  show wpAny _ A (loadPart 56 (some headPart) >>= _) _ _ _
  refine wpAny_bind (wpAny_loadPart ho (wpAny_pure ?_))
  show wpAny _ A (typeOf (.ref 56) >>= _) _ _ _
  refine wpAny_bind (wpAny_typeOf hT ?_)
  exact wpAny_of_eq (args_search _ _) hQ
end
noncomputable abbrev reCode : Array Nat := #[14, 17, 4, 1, 1, 21, 9, 0, 604043296, 1, 0, 0, 0, 0, 0, 8, 4, 0, 13, 14, 21, 9, 0, 604043296, 1, 0, 0, 0, 0, 0, 8, 4, 0, 1]
noncomputable abbrev codeItems : Array Value := #[.int 14 0, .int 17 0, .int 4 0, .int 1 0, .int 1 0, .int 21 0, .int 9 0, .int 0 0, .int 604043296 0, .int 1 0, .int 0 0, .int 0 0, .int 0 0, .int 0 0, .int 0 0, .int 8 0, .int 4 0, .int 0 0, .int 13 0, .int 14 0, .int 21 0, .int 9 0, .int 0 0, .int 604043296 0, .int 1 0, .int 0 0, .int 0 0, .int 0 0, .int 0 0, .int 0 0, .int 8 0, .int 4 0, .int 0 0, .int 1 0]
theorem ok_fst {ε S : Type} {x : Except ε (Bool × S)} (h : (x.map Prod.fst) = .ok false) : ∃ s', x = .ok (false, s') := by
  cases x with
  | error e => cases h
  | ok v =>
    obtain ⟨b, s'⟩ := v
    have : b = false := by injection h
    exact ⟨s', by rw [this]⟩
theorem re_inSet {c : Nat} (h : isW c) (seen : Sre.Seen) : ∃ seen', Sre.inSet reCode c reCode.size 5 true seen = .ok (false, seen') := by
  have key : ∀ c : Nat, isW c → c = 45 ∨ c = 48 ∨ c = 49 ∨ c = 50 ∨ c = 51 ∨ c = 52 ∨ c = 53 ∨ c = 54 ∨ c = 55 ∨ c = 56 ∨ c = 57 := by
    intro c h
    have h1 : c < 58 := by
      rcases h with rfl | h
      · decide
      · exact Nat.lt_succ_of_le h.2
    have h2 : c = 45 ∨ 48 ≤ c := h.imp id (·.1)
    exact (by decide : ∀ c : Fin 58, (c.val = 45 ∨ 48 ≤ c.val) → c.val = 45 ∨ c.val = 48 ∨ c.val = 49 ∨ c.val = 50 ∨ c.val = 51 ∨ c.val = 52 ∨ c.val = 53 ∨ c.val = 54 ∨ c.val = 55 ∨ c.val = 56 ∨ c.val = 57) ⟨c, h1⟩ h2
  rcases key c h with rfl | rfl | rfl | rfl | rfl | rfl | rfl | rfl | rfl | rfl | rfl <;> exact ok_fst rfl
theorem re_admitted (m : Sre.M) (hc : m.code = reCode) (hw : ∀ i, i < m.lim → isW (m.text.getD i 0)) : ∀ (fuel s : Nat) (seen : Sre.Seen), ∃ seen', Sre.M.admitted m fuel s seen = .ok (none, seen')
  | 0, _, seen => ⟨seen, rfl⟩
  | fuel + 1, s, seen => by
    unfold Sre.M.admitted
    by_cases h : s ≥ m.lim
    · rw [if_pos h]; exact ⟨seen, rfl⟩
    · rw [if_neg h, hc]
      obtain ⟨seen', e⟩ := re_inSet (hw s (by omega)) seen
      rw [e]
      exact re_admitted m hc hw fuel (s + 1) seen'
theorem re_from (m : Sre.M) (hc : m.code = reCode) (hw : ∀ i, i < m.lim → isW (m.text.getD i 0)) : ∃ seen', m.attemptFrom 0 true = ({ m with seen := seen' } : Sre.M).say false := by
  unfold Sre.M.attemptFrom
  have h3 : m.hasFirstSet = true := by unfold Sre.M.hasFirstSet; rw [hc]; decide
  rw [h3]
  simp only [Bool.not_true, Bool.false_eq_true, if_false]
  obtain ⟨seen', e⟩ := re_admitted m hc hw (m.lim + 1 - 0) 0 m.seen
  rw [e]
  exact ⟨seen', rfl⟩
theorem re_search (text : Array Nat) (hpos : 0 < text.size) (hw : ∀ i, i < text.size → isW (text.getD i 0)) : (Sre.forSearch reCode text 0 0 text.size false).answer = some false ∧ (Sre.forSearch reCode text 0 0 text.size false).frames = [] ∧ (Sre.forSearch reCode text 0 0 text.size false).outcome = none := by
  unfold Sre.forSearch
  have h0 : (Sre.header reCode).1 = 1 := by decide
  have h2 : ¬ (0 > text.size ∨ text.size - 0 < (Sre.header reCode).1) := by rw [h0]; omega
  simp only [Bool.or_eq_true, decide_eq_true_eq]
  rw [if_neg h2]
  suffices hh : ∀ m : Sre.M, m.code = reCode → m.lim = text.size → m.text = text → m.outcome = none → m.frames = [] → (m.attemptFrom 0 true).answer = some false ∧ (m.attemptFrom 0 true).frames = [] ∧ (m.attemptFrom 0 true).outcome = none from hh _ rfl rfl rfl rfl rfl
  intro m hc hl ht ho hf
  obtain ⟨seen', e⟩ := re_from m hc (by rw [hl, ht]; exact hw)
  rw [e]
  exact ⟨rfl, hf, ho⟩
open Builtin.Re in
theorem re_end {w : World} {A : Around} {s : Shared} {E : Value → Shared → Prop} {m : Sre.M} {Q : Option Sre.M → Shared → Prop} (h1 : m.answer = some false) (h2 : m.frames = []) (h3 : m.outcome = none) (hQ : Q none s) :
    wpAny (model PySem.Challenge.rw_nq0213_01.prog w) A (reRunToEnd m) Q E s := by
  unfold reRunToEnd
  have e1 : m.step = { m with outcome := some .failed } := by
    unfold Sre.M.step
    rw [h3, h1, h2]
    rfl
  have e2 : m.runFor reTurnSteps = { m with outcome := some .failed } := by
    show Sre.M.runFor 4 m = _
    unfold Sre.M.runFor
    rw [h3]
    simp only [Option.isSome_none, Bool.false_eq_true, if_false]
    rw [e1]
    rfl
  have e3 : reDrive (2 ^ 64) m = pure { m with outcome := some .failed } := by
    show reDrive (18446744073709551615 + 1) m = _
    unfold reDrive
    rw [e2]
    rfl
  rw [e3]
  refine wpAny_bind (wpAny_pure ?_)
  refine wpAny_bind (wpAny_mono (Q := fun _ s' => s' = s) (E := E) ?_ ?_ fun _ _ h => h)
  · generalize List.range Sre.names.size = l
    induction l with
    | nil => exact wpAny_pure rfl
    | cons i l ih =>
      rw [List.forIn_cons]
      refine wpAny_bind ?_
      split
      · exact wpAny_bind (wpAny_rule (wpAny_pure ih))
      · exact wpAny_pure ih
  · rintro _ s' rfl
    exact wpAny_pure hQ
theorem plain_search : plainId "re.Pattern.search" = true := by decide +kernel
theorem named_search (v : Value) : Builtin.Re.reNamed "re.Pattern.search" "search" ["string", "pos", "endpos"] 1 [v] [] = pure [some v, none, none] := by kernel_rfl
open Builtin.Re in
theorem search_any {w : World} {A : Around} {s : Shared} {E : Value → Shared → Prop} {x : Str} {t : Tok} {Q : Value → Shared → Prop} (X : (heap w.params).In s.heap) (hpos : 0 < x.length) (hx : ∀ c ∈ x.cps.toList, isW c) (hsz : x.length < 10000) (hQ : Q .none s) :
    wpAny (model PySem.Challenge.rw_nq0213_01.prog w) A (call (.ref 759) [.str x t]) Q E s := by
  have h759 : s.heap.get? 759 = some { cls := .type "builtin_function_or_method", data := .fields #[.builtin "re.Pattern.search", .ref 56] } := X _ _ (by k_is)
  have h56 : s.heap.get? 56 = some (patObj 345 382) := X _ _ (by k_is)
  have h55 : s.heap.get? 55 = some { cls := .type "tuple", data := .seq codeItems } := X _ _ (by k_is)
  refine wpAny_call (codeAny_of_tree ?_)
  show wpAny _ _ (callAny (.ref 759) ⟨[.str x t], []⟩) _ _ s
  unfold callAny
  refine wpAny_bind (wpAny_load h759 ?_)
  show wpAny _ _ (checkBoundCall "re.Pattern.search" ⟨[.ref 56, .str x t], []⟩ >>= fun _ => (again (.builtin "re.Pattern.search" ⟨[.ref 56, .str x t], []⟩) >>= fun r => pure r)) _ _ s
  refine wpAny_bind (chk_search h56 ?_)
  refine wpAny_pure ⟨plainId_quiet plain_search _, ?_⟩
  refine codeAny_builtin entry_search ?_
  unfold Builtin.«re.Pattern.search»
  refine wpAny_bind (m := reTarget "re.Pattern.search" "search" ⟨[.ref 56, .str x t], []⟩) ?_
  unfold reTarget
  show wpAny _ _ (reNamed "re.Pattern.search" "search" ["string", "pos", "endpos"] 1 [.str x t] [] >>= _) _ _ _
  refine wpAny_bind (wpAny_of_eq (named_search _) ?_)
  refine wpAny_bind (wpAny_pure ?_)
  refine wpAny_bind (wpAny_pure ?_)
  refine wpAny_bind (wpAny_fieldsOf h56 rfl ?_)
  refine wpAny_bind (wpAny_of_eq (rfl : reTextOf (.str x t) = pure (x.cps, 0)) ?_)
  refine wpAny_bind (m := reNoCollectionInside (.str x t) 0) (wpAny_of_eq (rfl : reNoCollectionInside (.str x t) 0 = pure ()) ?_)
  refine wpAny_bind (m := reRawItems (.ref 55)) ?_
  unfold reRawItems
  refine wpAny_bind (wpAny_seqItems h55 rfl (wpAny_pure (wpAny_pure ?_)))
  have q1 : Array.map (fun x => x.toNat) (Array.map reRawOf ((some codeItems).getD #[])) = reCode := by decide +kernel
  have q2 : min (0 : Int).toNat x.cps.size = 0 := by simp
  have q3 : min ((2 : Int) ^ 63 - 1).toNat x.cps.size = x.cps.size := by
    have : x.cps.size < 10000 := hsz
    omega
  dsimp only
  have q4 : reRawNat (#[Value.str (Str.ofString "[^\\w@%+=:,./-]") 345, Value.int 256 382, Value.int 0 0, Value.none, Value.none, Value.ref 55, Value.int 0 0].getD 2 Value.none) = 0 := rfl
  rw [q1, q2, q3, q4]
  obtain ⟨r1, r2, r3⟩ := re_search x.cps hpos (fun i hi => by
    have : x.cps.getD i 0 = x.cps[i] := by simp [hi]
    rw [this]
    exact hx _ (by simp))
  unfold reAnswer
  exact wpAny_bind (re_end r1 r2 r3 (wpAny_pure hQ))
end
section
section
variable {prog : Program} {w : World} {A : Around} {s : Shared} {K : Frag} {p : Program} {loose : List Str} {mean : ExcName → Option Value} {mg mb : Str → Option Value}
  {R : Result → Shared → Prop} {name qual : Str} {params : Arguments} {body : List Stmt} {scope : Scope} {dV kV doc pm cdv ct oc : Value} {an od : Option Addr} {osl : Array (Option Value)} {f : Addr} {args : Args} {binds : List (Str × Value)}
/-- a def entered from anywhere -/
theorem code_defA (X : K.In s.heap) (T : Top p loose mean mg mb s.heap)
    (ho : K.lookup f = some ⟨oc, od, .func (fnOf name qual params body scope dV kV doc pm an cdv ct), osl⟩) (hcd : codeIn K cdv qual = true) (hroom : A.depth < recursionLimit)
    (hbind : BindsTo s (fnOf name qual params body scope dV kV doc pm an cdv ct) args binds) (hloc : ∀ y ∈ binds, scope.names.lookup y.1 = some .local)
    (h : ∀ L' h₁, Fr s.heap L' h₁ (fun y => binds.reverse.lookup y) → K.In s.heap → Top p loose mean mg mb s.heap →
      wpAny (model prog w) (A.deeper (envOf qual scope L' f cdv)) (execs body (envOf qual scope L' f cdv))
        (fun fl s' => R (.ok (.ret (match fl with | .ret v => v | _ => .none))) s')
        (fun e s' => wpAny (model prog w) (A.deeper (envOf qual scope L' f cdv)) (leaving (envOf qual scope L' f cdv) e) (fun _ s'' => R (.error e) s'') (fun e' s'' => R (.error e') s'') s')
        { s with heap := h₁, toks := s.toks + binds.length })
    (hco : scope.isCoroutine = false) (hgen : scope.isGenerator = false) (hk : scope.kind = .function)
    (hcell : ∀ x ∈ scope.names, x.2 ≠ .cell) : codeAny (model prog w) A (.call (.ref f) args) R s := by
  refine codeAny_call_def (fd := fnOf name qual params body scope dV kV doc pm an cdv ct) (body := body) (binds := binds) hroom (X _ _ ho) rfl T.nolimit (codeRec_of X hcd) rfl hbind hcell hloc (fun h₁ hns hk₁ => ?_) hco hgen hk
  exact h s.heap.objs.size h₁ ⟨hns, hk₁, Nat.le_refl _⟩ X T
end
noncomputable abbrev o759 : Obj := { cls := .type "builtin_function_or_method", data := .fields #[.builtin "re.Pattern.search", .ref 56] }
noncomputable def At759 (h : Heap) : Prop := h.get? 759 = some o759
section
variable {M : Model} {A : Around} {s : Shared} {E : Value → Shared → Prop} {Q : Value → Shared → Prop}
theorem callWith_bm {pos : Pos} {args : List (Bool × Sem Value)} (hplain : args.any (·.1) = false)
    (h : wpAny M A (evalArgs (.ref 759) true args []) (fun x s₁ => At759 s₁.heap ∧ wpAny M A (call (.ref 759) x.pos x.kw) Q E s₁) E s) : wpAny M A (callWith pos (.ref 759) [] args []) Q E s := by
  unfold callWith
  refine wpAny_bind (wpAny_holding (wpAny_mono h (fun x s₁ h₁ => wpAny_bind (wpAny_standAt ?_)) fun _ _ x => x))
  obtain ⟨ho, hcall⟩ := h₁
  simp only [hplain, List.any_nil, Bool.or_false]
  refine wpAny_bind (m := keeperOf (.ref 759)) ?_
  unfold keeperOf
  refine wpAny_bind (wpAny_load ho ?_)
  simp only [show (Value.type "builtin_function_or_method" != Value.type "method") = true by decide, show (Value.type "builtin_function_or_method" == Value.type "builtin_function_or_method" || Value.type "builtin_function_or_method" == Value.type "method-wrapper") = true by decide, if_true]
  refine wpAny_pure ?_
  exact wpAny_bind (wpAny_mono hcall (fun r s₂ hr => wpAny_bind (wpAny_holding (wpAny_point (wpAny_pure hr)))) fun _ _ x => x)
theorem callWith_759 {pos : Pos} {env : Env} {e : Expr}
    (h : wpAny M A (spliced (backTo pos (starEach [e] env))) (fun vs s₁ => At759 s₁.heap ∧ wpAny M A (call (.ref 759) vs) Q E s₁) E s)
    (he : starEach [e] env = (false, eval e env) :: starEach [] env := by rfl) (hplain : (backTo pos (starEach [] env)).any (·.1) = false := by rfl) :
    wpAny M A (callWith pos (.ref 759) [] (backTo pos (starEach [e] env)) []) Q E s := by
  rw [he] at h ⊢
  refine callWith_bm (by show (false || (backTo pos (starEach [] env)).any (·.1)) = false; rw [hplain]; rfl) ?_
  exact evalArgs_plain h
end
theorem at759 {w : World} {h₀ h : Heap} {L : Addr} {m : Str → Option Value} (X : (heap w.params).In h₀) (F : Fr h₀ L h m) : At759 h := X.keeps F.keep _ _ (by k_is)



set_option maxHeartbeats 8000000 in
theorem quote_any {w : World} {A : Around} {s : Shared} {mean : ExcName → Option Value} {mg mb : Str → Option Value} {E : Value → Shared → Prop} {x : Str} {t : Tok} {Q : Value → Shared → Prop}
    (X : (heap w.params).In s.heap) (T : Top VW LO mean mg mb s.heap) (hroom : A.depth < recursionLimit) (hpos : 0 < x.length) (hx : ∀ c ∈ x.cps.toList, isW c) (hsz : x.length < 10000)
    (hQ : ∀ h' tk', (∀ b o, s.heap.get? b = some o → h'.get? b = some o) → Q (.str x t) { s with heap := h', toks := tk' }) :
    wpAny (model PySem.Challenge.rw_nq0213_01.prog w) A (call (.ref 766) [.str x t]) Q E s := by
  refine wpAny_call ?_
  k_dflt (refine' code_defA X T ?k6 ?k7 ?k8 ?k9 ?kB ?_ ?c2 ?c3 ?c4 ?c5; (case k6 => k_is); (case k7 => k_is); (case k8 => assumption); (case k9 => first | exact BindsTo.of_eq rfl | exact binds_K (by k_in) rfl (by k_is) rfl rfl rfl); (case c5 => decide); (case kB => exact locs rfl); (case c2 => exact rfl); (case c3 => exact rfl); (case c4 => exact rfl); k_whole)
  intro L1 hp1 F1 X1 T1
  (try dsimp only)
  replace F1 := Fr.re (m' := fun y => if y = "s" then some (.str x t) else none) F1 (fun y => look_chain [(("s" : Str), (.str x t : Value))] y)
  (try k_fold)
  have N1 : News s.heap L1 hp1 [] := News.nil
  repeat' (first | (k_unfold; (try dsimp only)) | (k_end; wrow_close) | (with_reducible ((with_reducible show wpAny _ _ (call (Value.ref 759) [Value.str _ _]) _ _ _); k_dflt (refine' search_any ?hzk1 ?hzk2 ?hzk3 ?hzk4 ?_; (case hzk1 => exact Frag.In.keeps (by with_reducible assumption) (Fr.keep (by with_reducible assumption))); (case hzk2 => with_reducible assumption); (case hzk3 => with_reducible assumption); (case hzk4 => with_reducible assumption); k_whole))) | (with_reducible ((with_reducible show At759 _ ∧ _); refine ⟨at759 (by with_reducible assumption) (by with_reducible assumption), ?_⟩)) | (with_reducible ((with_reducible show wpAny _ _ (callWith _ (Value.ref 759) [] (backTo _ (starEach [_] _)) []) _ _ _); k_dflt (refine callWith_759 ?_))) | (with_reducible ((with_reducible show wpAny _ _ (inplaceOp Operator.Add (Value.str _ _) (Value.str (Str.mk #[_]) _)) _ _ _); refine iadd1 (by with_reducible assumption) ?_; intro _ _)) | (with_reducible ((with_reducible show wpAny _ _ (PySem.truthy (Value.str _ _)) _ _ _); refine truthy_yes (by with_reducible assumption) (by with_reducible assumption) ?_)) | (with_reducible ((with_reducible show wpAny _ _ (execs _ _) _ _ _); (first | k_gentoks | ((with_reducible refine execs_one ?_); try dsimp only)))) | (with_reducible (with_reducible refine wpAny_If ?_)) | (with_reducible (first | (refine ite_isFalse (by with_reducible assumption) ?_) | (refine ite_pos (by with_reducible assumption) ?_) | (refine ite_neg (by with_reducible assumption) ?_))) | walk1 | (dsimp only; walk1) | (leave1; (try dsimp only)) | fail "no step")
  all_goals (dsimp only; exact hQ _ _ (Fr.keep F1))
end
section
noncomputable def TabOk (o : Obj) : Prop := ∃ ps, o = tabObj ps ∧ TriplesOk ps.toList
/-- the code of a generator expression: made, or found; the table grows -/
theorem genCode_tab {M : Model} {A : Around} {E : Value → Shared → Prop} {s : Shared} {env : Env} {c P : Addr} {ps : Array Value} {pos : Pos} {qualname : Str} {scope : Scope} {Q : Value → Shared → Prop} (hc : env.code = .ref c) (hok : s.heap.IsCode c P ps) (htab : s.heap.TableAt c P ps)
    (hQ : ∀ code h' tk ps', Heap.ExtBut P s.heap h' → h'.IsCode c P ps' → h'.get? P = some (tabObj ps') → Q code { s with heap := h', toks := tk }) : wpAny M A (genexprCode env pos qualname scope) Q E s := by
  cases hnf : codeAmong pos ps.toList with
  | some cv => exact wpAny_genexprCode_hit hc hok hnf (hQ cv s.heap s.toks ps (Heap.ExtBut.refl _ _) hok htab.2)
  | none => exact wpAny_genexprCodeX hc hok htab hnf fun c' h' tk hx _ _ hi _ ht _ => hQ _ h' tk _ hx hi ht.2
theorem code_tr {h : Heap} {c P : Addr} {ps : Array Value} (hc : h.IsCode c P ps) (ht : h.get? P = some (tabObj ps)) : TriplesOk ps.toList := by
  obtain ⟨_, _, _, _, _, _, _, _, _, _, _, _, _, _, _, _, _, hop₄, hpd₄, htr', _⟩ := hc
  exact htr'
noncomputable def nsOf (o : Obj) (x : Str) : Option Value := match o.data with | .dict es _ => nsFind es x | _ => none
theorem globs39 (P : Params) : ((heap P).lookup 3).map (fun o => (nsOf o "quote", nsOf o "join")) = some (some (.ref 766), some (.ref 758)) := by kernel_rfl
theorem glob_at {w : World} {h : Heap} {mg : Str → Option Value} (X : (heap w.params).In h) (G : h.Ns mainGlobals mg) : mg "quote" = some (.ref 766) ∧ mg "join" = some (.ref 758) := by
  obtain ⟨o3, h3, e3⟩ := Option.map_eq_some_iff.mp (globs39 w.params)
  have hk := X _ _ h3
  obtain ⟨o, es, ep, ho, hd, _, hf⟩ := G
  have : o = o3 := Option.some.inj (ho.symm.trans hk)
  subst this
  have e1 := congrArg Prod.fst e3
  have e2 := congrArg Prod.snd e3
  dsimp only [nsOf] at e1 e2
  rw [hd] at e1 e2
  exact ⟨(hf _).symm.trans e1, (hf _).symm.trans e2⟩
noncomputable abbrev PRG : Program := PySem.Challenge.rw_nq0213_01.prog
noncomputable abbrev jScope : Scope := { kind := .function, names := [("split_command", .local)], isGenerator := false, isCoroutine := false }
noncomputable abbrev gScope : Scope := { kind := .function, names := [(".0", .local), ("arg", .local), ("quote", .globalImplicit)], isGenerator := true, isCoroutine := false }
noncomputable abbrev jEnv (L : Addr) : Env := envOf "join" jScope L 758 (.ref 757)
noncomputable def WordsOk (lw : List (Str × Tok)) : Prop := ∀ p ∈ lw, 0 < p.1.length ∧ (∀ c ∈ p.1.cps.toList, isW c) ∧ p.1.length < 100
theorem strValues_get {lw : List (Str × Tok)} {i : Nat} {v : Value} (h : (strValues lw).toArray[i]? = some v) : ∃ p ∈ lw, v = .str p.1 p.2 := by
  have h2 : (strValues lw)[i]? = some v := by simpa using h
  have := List.mem_of_getElem? h2
  obtain ⟨p, hp, e⟩ := List.mem_map.mp this
  exact ⟨p, hp, e.symm⟩
/-- the element of the generator in join -/
theorem elt_quote {w : World} {A : Around} {s : Shared} {mean : ExcName → Option Value} {mg mb : Str → Option Value} {E : Value → Shared → Prop} {x : Str} {t : Tok} {C L : Addr} {code : Value} {bi : Addr} {p1 p2 p3 : Pos} {m₂ : Str → Option Value} {Q : Value → Shared → Prop}
    (X : (heap w.params).In s.heap) (T : Top VW LO mean mg mb s.heap) (hroom : A.depth < recursionLimit) (hpos : 0 < x.length) (hx : ∀ c ∈ x.cps.toList, isW c) (hsz : x.length < 100)
    (hn : s.heap.Ns C m₂) (hm : m₂ "arg" = some (.str x t))
    (hQ : ∀ h' tk', (∀ b o, s.heap.get? b = some o → h'.get? b = some o) → Q (.str x t) { s with heap := h', toks := tk' }) :
    wpAny (model PRG w) A (eval (.Call (.Name "quote" p1) [.Name "arg" p2] [] p3) (genEnv gScope [] C code bi (jEnv L))) Q E s := by
  refine wpAny_Call_Name_kw ?_
  refine Name_function_global rfl rfl (loadGlobal_global (env := genEnv gScope [] C code bi (jEnv L)) T.g (glob_at X T.g).1 ?_) (by decide)
  have h766 : ∃ o fd, s.heap.get? 766 = some o ∧ o.data = .func fd := ⟨_, _, X _ _ (by k_is), rfl⟩
  obtain ⟨o, fd, ho, hd⟩ := h766
  refine callWith_def (env := genEnv gScope [] C code bi (jEnv L)) hd ?_
  refine spliced_cons (wpAny_Name (wpAny_loadName_local (env := genEnv gScope [] C code bi (jEnv L)) rfl rfl hn hm ?_) (by decide))
  refine spliced_nil ⟨ho, ?_⟩
  exact quote_any X T hroom hpos hx (by omega) hQ
/-- a generator that stands apart from what the ledger holds -/
noncomputable def GenJ (w : World) (A : Around) (a : Addr) (n : Nat) (P : Nat → Value → Prop) (h₀ : Heap) (L : Addr) (news : List (Addr × Obj)) (s : Shared) : Prop :=
  ∃ fp wr g St, WalksS PRG w A.in4 a fp wr (GenOnlyQ g) n P St ∧ St 0 s ∧ (∀ i s', St i s' → s'.TypeIs (.ref a) "generator") ∧ a ∈ fp ∧ (∀ b ∈ fp, b < s.heap.objs.size) ∧ ∀ b ∈ wr, b ≠ L ∧ h₀.get? b = none ∧ ∀ p ∈ news, p.1 ≠ b
theorem isCode757 {w : World} {h : Heap} {op : Obj} {ps : Array Value} (X : (heap w.params).In h) (hP : h.get? 753 = some op) (hd : op.data = .fields ps) (ht : TriplesOk ps.toList) : h.IsCode 757 753 ps := by
  have h757 : ∃ o, h.get? 757 = some o ∧ ∃ vs, o.data = .fields vs ∧ vs.getD 11 .none = .ref 753 ∧ (∃ file tf, vs.getD 18 .none = .str file tf) ∧ (∃ flags tg, vs.getD 7 .none = .int flags tg) ∧ (∃ inF, vs.getD 9 .none = .bool inF) ∧ ∃ text tt, vs.getD 10 .none = .int text tt :=
    ⟨_, X _ _ (by k_is), _, rfl, rfl, ⟨_, _, rfl⟩, ⟨_, _, rfl⟩, ⟨_, rfl⟩, ⟨_, _, rfl⟩⟩
  obtain ⟨o, ho, vs, hvs, h11, ⟨file, tf, h18⟩, ⟨flags, tg, h7⟩, ⟨inF, h9⟩, ⟨text, tt, h10⟩⟩ := h757
  exact ⟨o, vs, file, tf, flags, tg, inF, text, tt, op, ho, hvs, h11, h18, h7, h9, h10, hP, hd, ht, by decide⟩
theorem tab757 {w : World} {h : Heap} {ps : Array Value} (X : (heap w.params).In h) (hP : h.get? 753 = some (tabObj ps)) : h.TableAt 757 753 ps := by
  have h757 : ∃ o vs, h.get? 757 = some o ∧ o.cls = .type "code" ∧ o.data = .fields vs ∧ vs[11]? = some (.ref 753) := ⟨_, _, X _ _ (by k_is), rfl, rfl, rfl⟩
  obtain ⟨o, vs, e⟩ := h757
  exact ⟨⟨o, vs, e⟩, hP⟩
theorem passing_all (n : Nat) : passing (fun _ => true) n 0 = List.range n := by
  unfold passing
  rw [List.drop_zero, List.filter_eq_self.mpr (fun _ _ => rfl)]
set_option maxHeartbeats 4000000 in
theorem gen_quote {w : World} {A : Around} {s : Shared} {mean : ExcName → Option Value} {mg mb : Str → Option Value} {E : Value → Shared → Prop} {h₀ : Heap} {L l : Addr} {m : Str → Option Value} {news : List (Addr × Obj)} {op : Obj} {lw : List (Str × Tok)} {p1 p2 p3 p4 p5 pos : Pos} {Q : Value → Shared → Prop}
    (hh : A.handled = none) (hroom : A.depth + 1 < recursionLimit) (X : (heap w.params).In h₀) (T : Top VW LO mean mg mb h₀) (F : Fr h₀ L s.heap m) (N : News h₀ L s.heap ((753, op) :: news)) (hop : TabOk op) (hnp : ∀ p ∈ news, p.1 ≠ 753) (G : AllBare s.gens)
    (hm : m "split_command" = some (.ref l)) (hl : s.heap.IsList l (strValues lw).toArray) (hw : WordsOk lw)
    (hQ : ∀ a op' h' tk' gens', TabOk op' → Fr h₀ L h' m → News h₀ L h' ((753, op') :: news) → AllBare gens' → GenJ w A a lw.length (fun j y => (strValues lw).toArray[j]? = some y) h₀ L ((753, op') :: news) { s with heap := h', toks := tk', gens := gens' } → Q (.ref a) { s with heap := h', toks := tk', gens := gens' }) :
    wpAny (model PRG w) A (eval (.GeneratorExp (.Call (.Name "quote" p1) [.Name "arg" p2] [] p3) [⟨.Name "arg" p4, .Name "split_command" p5, [], 0⟩] gScope pos) (jEnv L)) Q E s := by
  obtain ⟨ps, hpo, htr⟩ := hop
  have hpd : op.data = .fields ps := by rw [hpo]
  have N753 := N _ (.head _)
  have hsz : (strValues lw).toArray.size = lw.length := by simp [strValues]
  refine wpAny_GeneratorExp_walksQD (cl := []) hh rfl rfl (by decide) rfl rfl rfl (by omega) ?_ (fun _ => rfl)
  refine ld F hm ?_
  refine wpAny_pyIter_list hl ?_
  have k₂ : ∀ b o, s.heap.get? b = some o → (s.heap.push { cls := .type "list_iterator", data := .fields #[.ref l, .int 0 0] }).get? b = some o := fun b o e => Heap.get?_push_of_some _ e
  have hI : s.heap.get? s.heap.objs.size = none := by
    cases e : s.heap.get? s.heap.objs.size with
    | none => rfl
    | some o => exact absurd (Heap.lt_size e) (Nat.lt_irrefl _)
  have lI : l ≠ s.heap.objs.size := fun e => by obtain ⟨o, ho, _⟩ := hl; rw [e, hI] at ho; cases ho
  refine ⟨(T.nolimit.keeps F.keep).keeps k₂, ?_⟩
  have hIs := isCode757 ((X.keeps F.keep).keeps k₂) (k₂ _ _ N753.1) hpd htr
  refine genCode_tab (c := 757) (P := 753) (ps := ps) rfl hIs (tab757 ((X.keeps F.keep).keeps k₂) (by have q := k₂ _ _ N753.1; rw [hpo] at q; exact q)) ?_
  intro code h₃ tk₃ ps' hx₃ hc₃ ht₃
  have htr' := code_tr hc₃ ht₃
  dsimp only at hx₃
  have no0 : ∀ {b o}, h₀.get? b = some o → b ≠ 753 := fun {b o} e z => by rw [z, N753.2.2] at e; cases e
  have k₃ : ∀ b o, h₀.get? b = some o → h₃.get? b = some o := fun b o e => hx₃ b o (no0 e) (k₂ _ _ (F.keep b o e))
  have T₃ := T.keeps k₃
  obtain ⟨bm, ob, b1, b2, b3, b4, b5, b6⟩ := T₃.bmain
  refine wpAny_builtinsFor T₃.g b1 b2 b3 b4 b5 b6 ?_
  have I₃ : h₃.get? s.heap.objs.size = some { cls := .type "list_iterator", data := .fields #[.ref l, .int 0 0] } := hx₃ _ _ (fun e => by rw [e, N753.1] at hI; cases hI) (Heap.get?_push_size _ rfl)
  have l₃ : h₃.IsList l (strValues lw).toArray := by
    obtain ⟨o, ho, r⟩ := hl
    refine ⟨o, hx₃ _ _ (fun e => ?_) (k₂ _ _ ho), r⟩
    rw [e, N753.1] at ho
    have : op = o := Option.some.inj ho
    obtain ⟨_, r2⟩ := r.2
    rw [this, r2] at hpd
    cases hpd
  refine ⟨s.heap.objs.size, [s.heap.objs.size, l], [s.heap.objs.size], (strValues lw).toArray.size, _, _, fun _ => true, fun i y => (strValues lw).toArray[i]? = some y, rfl, fun A' hA => Walks.list hA _ _ lI _, ⟨⟨_, I₃, rfl, rfl⟩, l₃⟩, ?_, T₃.nolimit, ?_, ?_, ?_⟩
  · intro b hb
    rcases List.mem_cons.mp hb with rfl | hb
    · exact Heap.lt_size I₃
    · rcases List.mem_cons.mp hb with rfl | hb
      · obtain ⟨o, ho, _⟩ := l₃
        exact Heap.lt_size ho
      · cases hb
  · intro hb
    obtain ⟨mc, ⟨o, _, _, ho, _⟩, _⟩ := T.nolimit
    rcases List.mem_cons.mp hb with e | hb
    · have := F.keep _ _ ho
      rw [e, hI] at this
      cases this
    · cases hb
  · intro href hhref
    have up : ∀ (t : Shared), (∀ b ∈ List.range h₃.objs.size, b ∉ [s.heap.objs.size] → ∀ o, href.get? b = some o → t.heap.get? b = some o) → ∀ b o, h₀.get? b = some o → t.heap.get? b = some o := fun t hk b o e =>
      hk b (List.mem_range.mpr (Heap.lt_size (k₃ b o e))) (fun q => by
        rcases List.mem_cons.mp q with z | z
        · have := F.keep b o e
          rw [z, hI] at this
          cases this
        · cases z) o (hhref b o (k₃ b o e))
    refine ⟨fun A' E' i v t m₂ _ _ _ _ _ _ _ => ?_, fun A' E' i v t m₂ hA hD hU hP _ hn hm₂ hk => ?_⟩
    · exact wpAny_pure ⟨rfl, _, _, rfl, fun _ _ e => e⟩
    · obtain ⟨p, hp, rfl⟩ := strValues_get hP
      obtain ⟨w1, w2, w3⟩ := hw p hp
      refine elt_quote (X.keeps (up t hk)) (T.keeps (up t hk)) (by omega) w1 w2 w3 hn hm₂ fun h' tk' hk' => ⟨hP, _, _, rfl, hk'⟩
  · intro a h₅ tk gs hgb hag hsz₅ hk₅ W hat
    have F₃ : Fr h₀ L h₃ m := ⟨(F.ns.keeps k₂).extBut hx₃ (fun e => N753.2.1 e.symm), k₃, F.above⟩
    have N₃ : News h₀ L h₃ ((753, tabObj ps') :: news) := fun p hp => by
      rcases List.mem_cons.mp hp with rfl | hp
      · exact ⟨ht₃, N753.2.1, N753.2.2⟩
      · have := N p (.tail _ hp)
        exact ⟨hx₃ _ _ (hnp p hp) (k₂ _ _ this.1), this.2⟩
    have F₅ := F₃.keeps hk₅
    have N₅ : News h₀ L h₅ ((753, tabObj ps') :: news) := fun p hp => ⟨hk₅ _ _ (N₃ p hp).1, (N₃ p hp).2⟩
    refine hQ a (tabObj ps') h₅ tk (s.gens.push gs) ⟨ps', rfl, htr'⟩ F₅ N₅ (G.push hgb) ?_
    have hlen : (passing (fun _ => true) (strValues lw).toArray.size 0).length = lw.length := by rw [passing_all, List.length_range, hsz]
    have hPP : (fun (j : Nat) (y : Value) => ∃ i, (passing (fun _ => true) (strValues lw).toArray.size 0)[j]? = some i ∧ (strValues lw).toArray[i]? = some y) = fun j y => (strValues lw).toArray[j]? = some y := by
      funext j y
      rw [passing_all]
      apply propext
      constructor
      · rintro ⟨i, hi, hy⟩
        rw [List.getElem?_range] at hi
        · cases hi; exact hy
        · have := (List.getElem?_eq_some_iff.mp hi).1
          simpa using this
      · intro hy
        refine ⟨j, ?_, hy⟩
        have := (Array.getElem?_eq_some_iff.mp hy).1
        exact List.getElem?_range this
    rw [hlen, hPP] at W
    refine ⟨_, _, _, _, W, hat, (fun i s' st => st.1.typeIs), List.mem_cons_self, ?_, ?_⟩
    · intro b hb
      show b < h₅.objs.size
      rw [hsz₅]
      rcases List.mem_cons.mp hb with rfl | hb
      · exact Nat.lt_succ_self _
      · rcases List.mem_cons.mp hb with rfl | hb
        · exact Nat.lt_succ_of_lt hag
        · exact Nat.lt_succ_of_lt (Nat.lt_trans (List.mem_range.mp hb) hag)
    · have gone : ∀ b, (h₃.get? b = none ∨ s.heap.get? b = none) → b ≠ L ∧ h₀.get? b = none ∧ ∀ p ∈ (753, tabObj ps') :: news, p.1 ≠ b := fun b hb => by
        have a1 : ∀ {x o}, h₃.get? x = some o → s.heap.get? x ≠ none → x ≠ b := fun {x o} e1 e2 z => by
          rcases hb with q | q
          · rw [z, q] at e1; cases e1
          · exact e2 (z ▸ q)
        refine ⟨fun z => ?_, ?_, fun p hp => ?_⟩
        · obtain ⟨o, _, _, ho, _⟩ := F.ns
          obtain ⟨o', _, _, ho', _⟩ := F₃.ns
          exact a1 ho' (by rw [ho]; simp) z.symm
        · cases e : h₀.get? b with
          | none => rfl
          | some o => exact absurd rfl (a1 (k₃ _ _ e) (by rw [F.keep _ _ e]; simp))
        · refine a1 (N₃ p hp).1 ?_
          rcases List.mem_cons.mp hp with rfl | hp
          · rw [N753.1]; simp
          · rw [(N p (.tail _ hp)).1]; simp
      intro b hb
      rcases List.mem_cons.mp hb with rfl | hb
      · refine gone _ (.inl ?_)
        cases e : h₃.get? h₃.objs.size with
        | none => rfl
        | some o => exact absurd (Heap.lt_size e) (Nat.lt_irrefl _)
      · rcases List.mem_cons.mp hb with rfl | hb
        · exact gone _ (.inr hI)
        · cases hb
/-- ' '.join of that generator -/
theorem join_gen9 {w : World} {A : Around} {s : Shared} {E : Value → Shared → Prop} {h₀ : Heap} {L a : Addr} {m : Str → Option Value} {news : List (Addr × Obj)} {lw : List (Str × Tok)} {t : Tok} {Q : Value → Shared → Prop}
    (F : Fr h₀ L s.heap m) (N : News h₀ L s.heap news) (G : AllBare s.gens) (J : GenJ w A a lw.length (fun j y => (strValues lw).toArray[j]? = some y) h₀ L news s) (hw : WordsOk lw) (hlen : lw.length < 10)
    (hQ : ∀ t' h' tk' gens', Fr h₀ L h' m → News h₀ L h' news → AllBare gens' → Q (.str (Txt.join " " (lw.map (·.1))) t') { s with heap := h', toks := tk', gens := gens' }) :
    wpAny (model PRG w) A (call (.builtin "str.join") [.str " " t, .ref a]) Q E s := by
  obtain ⟨fp, wr, g, St, W, hst, hT, ha, hfp, hwr⟩ := J
  have hsl : lw.length ≤ sizeLine := by
    have : (10 : Nat) ≤ sizeLine := by decide
    omega
  refine SC.joinGen W.in4_2 hT hst hfp ha (fun i v hv => ?_) (fun s' l hmv hits => ?_) hsl
  · obtain ⟨p, _, rfl⟩ := strValues_get hv
    exact ⟨_, _, rfl⟩
  · have el : strValues l = strValues lw := by
      apply List.ext_getElem?
      intro i
      have h1 : (strValues l).length = (strValues lw).length := by
        have := hits.1
        simpa [strValues] using this
      by_cases hi : i < (strValues l).length
      · have := hits.2 i (strValues l)[i] (by simp)
        rw [List.getElem?_eq_getElem hi]
        simpa using this.symm
      · rw [List.getElem?_eq_none (by omega), List.getElem?_eq_none (by omega)]
    have em : l.map (·.1) = lw.map (·.1) := by
      have := congrArg (List.map (fun v : Value => match v with | .str x _ => x | _ => (Str.ofString ""))) el
      simpa [strValues, List.map_map, Function.comp_def] using this
    rw [em]
    obtain ⟨m1, m2, m3, m4, m5⟩ := hmv
    have keep : ∀ b o, s.heap.get? b = some o → b ∉ wr → s'.heap.get? b = some o := fun b o e hb => m1 b o hb e
    have F' : Fr h₀ L s'.heap m := by
      refine ⟨?_, fun b o e => keep b o (F.keep b o e) (fun q => by
        have := (hwr b q).2.1
        rw [e] at this
        cases this), F.above⟩
      obtain ⟨o, es, ep, ho, r⟩ := F.ns
      exact ⟨o, es, ep, keep _ _ ho (fun q => (hwr _ q).1 rfl), r⟩
    have N' : News h₀ L s'.heap news := fun p hp => ⟨keep _ _ (N p hp).1 (fun q => (hwr _ q).2.2 p hp rfl), (N p hp).2⟩
    refine ⟨?_, fun t' k => ?_⟩
    · refine joinOk_of ?_
      have : ∀ (ll : List (Str × Tok)), WordsOk ll → ((ll.map (·.1)).map (·.length)).sum ≤ 100 * ll.length := by
        intro ll
        induction ll with
        | nil => intro _; exact Nat.le_refl _
        | cons p r ih =>
          intro h
          have h1 := (h p (.head _)).2.2
          have h2 := ih (fun q hq => h q (.tail _ hq))
          simp only [List.map_cons, List.sum_cons, List.length_cons]
          omega
      have h1 := this lw hw
      have h2 : (Str.ofString " ").length = 1 := by decide
      rw [h2, List.length_map]
      omega
    · have := hQ t' s'.heap k s'.gens F' N' (m2.bare G)
      obtain ⟨hp, gn, dr, tk, os⟩ := s'
      dsimp only at m3 m4 this ⊢
      subst m3 m4
      exact this
end
section
theorem news_isList {h₀ h : Heap} {L l : Addr} {vs : Array Value} {c : Nat} {news : List (Addr × Obj)} (N : News h₀ L h news) (hm : (l, ({ cls := .type "list", data := .seq vs c } : Obj)) ∈ news) : h.IsList l vs := ⟨_, N.get hm, rfl, _, rfl⟩


set_option maxHeartbeats 8000000 in
theorem join_ok : ∀ (w : World) (mean : ExcName → Option Value) (mg mb : Str → Option Value) (dp un : Nat) (gd : Option (List Code)) (cn : Str) (cs : Scope) (a : Addr) (ccd : Value) (cl : List (Str × Addr)) (outer : List Env) (A₀ : Around) (base h₀ : Heap) (L : Addr) (m : Str → Option Value) (s : Shared) (Q E : Value → Shared → Prop) (news : List (Addr × Obj)) (op : Obj) (l : Addr) (lw : List (Str × Tok)) (c : Nat)
    (B : Below A₀ base outer h₀) (F : Fr h₀ L s.heap m) (X : (heap w.params).In h₀) (T : Top VW LO mean mg mb h₀) (hk : cs.kind = .function) (N : News h₀ L s.heap ((753, op) :: news)) (hop : TabOk op) (hnp : ∀ p ∈ news, p.1 ≠ 753) (hlm : (l, ({ cls := .type "list", data := .seq (strValues lw).toArray c } : Obj)) ∈ news) (G : AllBare s.gens) (hw : WordsOk lw) (hlen : lw.length < 10) (hd : dp < 560) (hu : un < 3000)
    (hret : ∀ (t : Tok) (op' : Obj) (h' : Heap) (tk' : Nat) (gens' : Array GenState), TabOk op' → Fr h₀ L h' m → News h₀ L h' ((753, op') :: news) → AllBare gens' → Q (.str (Txt.join " " (lw.map (·.1))) t) { s with heap := h', toks := tk', gens := gens' }),
    wpAny (model PySem.Challenge.rw_nq0213_01.prog w) (ktrTop dp un gd cn cs L a ccd cl outer) (call (.ref 758) [.ref l]) Q E s := by
  intro w mean mg mb dp un gd cn cs a ccd cl outer A₀ base h₀ L m s Q E news op l lw c B F X T hk N hop hnp hlm G hw hlen hd hu hret
  have := recLim
  refine wpAny_call ?_
  k_dflt (refine' code_def ?k1 ?k2 ?k3 ?k4 ?k5 ?kA ?kF ?kK ?k6 ?k7 ?k8 ?k9 ?kB ?_ ?c2 ?c3 ?c4 ?c5; (case kA => exact rfl); (case kF => exact rfl); (case kK => first | exact rfl | assumption); (case k1 => k_asm); (case k2 => k_asm); (case k3 => k_asm); (case k4 => k_asm); (case k5 => k_asm); (case k6 => k_is); (case k7 => k_is); (case k8 => ktr_room); (case k9 => first | exact BindsTo.of_eq rfl | exact binds_K (by k_in) rfl (by k_is) rfl rfl rfl); (case c5 => decide); (case kB => exact locs rfl); (case c2 => exact rfl); (case c3 => exact rfl); (case c4 => exact rfl); k_whole)
  intro g1 L1 hp1 FG1 F1 N1 B1 X1 T1
  (try dsimp only)
  (try k_lift B1)
  replace F1 := Fr.re (m' := fun y => if y = "split_command" then some (.ref l) else none) F1 (fun y => look_chain [(("split_command" : Str), (.ref l : Value))] y)
  (try k_fold)
  repeat' (first | (k_unfold; (try dsimp only)) | (k_end; wrow_close) | (with_reducible ((with_reducible show wpAny _ _ (call (Value.builtin "str.join") _) _ _ _); ((rename GenJ _ _ _ _ _ _ _ _ _ => J9); k_dflt (refine' join_gen9 ?hzk1 ?hzk2 ?hzk3 J9 ?hzk4 ?hzk5 ?_; (case hzk1 => k_asm); (case hzk2 => k_asm); (case hzk3 => with_reducible assumption); (case hzk4 => with_reducible assumption); (case hzk5 => with_reducible assumption); k_whole; intro _ _ _ _ _ _ _; (try dsimp only); (try k_fold))))) | (with_reducible ((with_reducible show wpAny _ _ (eval (Expr.GeneratorExp _ _ _ _) _) _ _ _); (k_dflt (refine' gen_quote ?hzk1 ?hzk2 ?hzk3 ?hzk4 ?hzk5 ?hzk6 ?hzk7 ?hzk8 ?hzk9 ?hzkA ?hzkB ?hzkC ?_; (case hzk1 => exact rfl); (case hzk2 => ktr_room); (case hzk3 => k_asm); (case hzk4 => k_asm); (case hzk5 => k_asm); (case hzk6 => k_asm); (case hzk7 => with_reducible assumption); (case hzk8 => with_reducible assumption); (case hzk9 => with_reducible assumption); (case hzkA => exact rfl); (case hzkB => exact news_isList (by k_asm) (List.mem_cons_of_mem _ (by with_reducible assumption))); (case hzkC => with_reducible assumption); k_whole; intro _ _ _ _ _ _ _ _ _ _; (try dsimp only); (try k_fold))))) | (with_reducible ((with_reducible show wpAny _ _ (inplaceOp Operator.Add (Value.str _ _) (Value.str (Str.mk #[_]) _)) _ _ _); refine iadd1 (by with_reducible assumption) ?_; intro _ _)) | (with_reducible ((with_reducible show wpAny _ _ (PySem.truthy (Value.str _ _)) _ _ _); refine truthy_yes (by with_reducible assumption) (by with_reducible assumption) ?_)) | (with_reducible ((with_reducible show wpAny _ _ (execs _ _) _ _ _); (first | k_gentoks | ((with_reducible refine execs_one ?_); try dsimp only)))) | (with_reducible (with_reducible refine wpAny_If ?_)) | (with_reducible (first | (refine ite_isFalse (by with_reducible assumption) ?_) | (refine ite_pos (by with_reducible assumption) ?_) | (refine ite_neg (by with_reducible assumption) ?_))) | walk1 | (dsimp only; walk1) | (leave1; (try dsimp only)) | fail "no step")
  all_goals exact hret _ _ _ _ _ (by with_reducible assumption) (by k_asm) (by k_asm) (by with_reducible assumption)
end
section
inductive Kids : List (Addr × Obj) → List (List Int) → Prop
  | nil : Kids [] []
  | cons {a : Addr} {vs : List Value} {c : Nat} {ns : List Int} {ks : List (Addr × Obj)} {nss : List (List Int)} : IntsAre vs ns → Kids ks nss → Kids ((a, listOf vs.toArray c) :: ks) (ns :: nss)
theorem Kids.length : ∀ {ks nss}, Kids ks nss → ks.length = nss.length
  | _, _, .nil => rfl
  | _, _, .cons _ h => by simp [h.length]
section
variable {prog : Program} {w : World} {A : Around} {E : Value → Shared → Prop} {env : Env}
/-- a comprehension's block, by an invariant -/
theorem comp_block {elt iter target : PySem.Expr} {scope : Scope} {cl : List (Str × Addr)} {pos : Pos} {s₂ : Shared} {it : Value} {RR : Value → Addr → Result → Shared → Prop}
    (hcell : ∀ y ∈ scope.names, y.2 ≠ .cell) (hkind : scope.kind = .function)
    (h : ∀ D C h₁ tk, s₂.heap.get? D = none → s₂.heap.get? C = none → D ≠ C → s₂.heap.objs.size ≤ D → s₂.heap.objs.size ≤ C → h₁.get? D = some (listOf #[] 0) → h₁.Ns C (fun _ => none) → (∀ b o, s₂.heap.get? b = some o → h₁.get? b = some o) →
      (∃ (I : Nat → Shared → Prop) (n : Nat), I n { s₂ with heap := h₁, toks := tk } ∧
        (wpAny (model prog w) A (pyIter it) (fun it' s' => it' = it ∧ s' = { s₂ with heap := h₁, toks := tk }) (fun _ _ => False) { s₂ with heap := h₁, toks := tk }) ∧
        ∀ n s, I n s → wpAny (model prog w) A (pyNext it) (fun r s₁ => match r with
          | none => RR (.ref D) C (.ok .next) s₁
          | some v => wpAny (model prog w) A (assign target (compEnvC scope cl C env) v) (fun _ s₂ => wpAny (model prog w) A (eval elt (compEnvC scope cl C env)) (fun x s₄ => wpAny (model prog w) A (call (.builtin "list.append") [.ref D, x]) (fun _ s₅ => Less I n s₅) (fun _ _ => False) s₄) (fun _ _ => False) s₂) (fun _ _ => False) s₁) (fun _ _ => False) s))
    (ht : ∀ v, letOwnedTupleGo target it v = pure () := by intro _; rfl) :
    wpAny (model prog w) A (newList []) (fun acc s₃ => wpAny (model prog w) A (newFunctionEnv scope env.globals cl [] env.qual none .none (some env)) (fun cenv s₄ =>
      codeAny (model prog w) A (.compStart (.ListComp elt [⟨target, iter, [], 0⟩] scope pos) 0 it acc { cenv with scope := relabel scope env }) (RR acc cenv.locals) s₄) E s₃) E s₂ := by
  refine wpAny_newObj_type (wpAny_newFunctionEnv hcell (by intro y hy; simp at hy) (fun h₁ hns₁ hsb₁ => ?_) hkind)
  dsimp only at hns₁ hsb₁ ⊢
  generalize hH2 : s₂.heap.push { cls := .type "list", dict := none, data := .seq ([] : List Value).toArray } = H2 at hns₁ hsb₁ ⊢
  have hC : H2.objs.size = s₂.heap.objs.size + 1 := by rw [← hH2, Heap.size_push]
  have hDC : s₂.heap.objs.size ≠ H2.objs.size := by rw [hC]; exact Nat.ne_of_lt (Nat.lt_succ_self _)
  have below : ∀ b, b < s₂.heap.objs.size → b ≠ H2.objs.size := fun b hb => by rw [hC]; exact Nat.ne_of_lt (Nat.lt_succ_of_lt hb)
  have old : ∀ b o, s₂.heap.get? b = some o → h₁.get? b = some o := fun b o e => hsb₁.extBut b o (below b (Heap.lt_size e)) (Heap.get?_push_of_some _ (hH2 ▸ Heap.get?_push_of_some _ e))
  have hacc : h₁.get? s₂.heap.objs.size = some (listOf #[] 0) := hsb₁.extBut _ _ hDC (Heap.get?_push_of_some _ (hH2 ▸ Heap.get?_push_size _ rfl))
  have fresh : ∀ a, s₂.heap.objs.size ≤ a → s₂.heap.get? a = none := fun a ha => by
    cases e : s₂.heap.get? a with
    | none => rfl
    | some o' => exact absurd (Heap.lt_size e) (Nat.not_lt.mpr ha)
  obtain ⟨I, n, hI, hself, turn⟩ := h s₂.heap.objs.size H2.objs.size h₁ _ (fresh _ (Nat.le_refl _)) (fresh _ (by rw [hC]; exact Nat.le_succ _)) hDC (Nat.le_refl _) (by rw [hC]; exact Nat.le_succ _) hacc (by simpa using hns₁) old
  have loop : codeAny (model prog w) A (.compLoop (.ListComp elt [⟨target, iter, [], 0⟩] scope pos) 0 it (.ref s₂.heap.objs.size) (compEnvC scope cl H2.objs.size env)) (RR (.ref s₂.heap.objs.size) H2.objs.size) { s₂ with heap := h₁, toks := s₂.toks + ([] : List (Str × Value)).length } := by
    refine codeAny_compLoop_tests I (fun n s hI => ?_) n hI ht
    refine wpAny_mono (turn n s hI) (fun r s₁ h₁ => ?_) (fun _ _ x => x.elim)
    cases r with
    | none => exact h₁
    | some v =>
      refine wpAny_mono h₁ (fun _ s₂ h₂ => wpAny_tests_nil ?_) (fun _ _ x => x.elim)
      rw [if_pos rfl]
      exact wpAny_mono h₂ (fun x s₄ h₄ => wpAny_mono h₄ (fun _ _ h₅ => h₅) (fun _ _ x => x.elim)) (fun _ _ x => x.elim)
  refine codeAny_compStart_list loop ?_
  exact wpAny_mono hself (fun it' s' h' => by
    obtain ⟨rfl, rfl⟩ := h'
    exact loop) (fun _ _ x => x.elim)
end
theorem ns_but {h h' : Heap} {C it : Addr} {m : Str → Option Value} (n : h.Ns C m) (hne : C ≠ it) (hs : Heap.ExtBut it h h') : h'.Ns C m := by
  obtain ⟨o, es, ep, ho, r⟩ := n
  exact ⟨o, es, ep, hs _ _ hne ho, r⟩
theorem get_none {h : Heap} : h.get? h.objs.size = none := by
  cases e : h.get? h.objs.size with
  | none => rfl
  | some o => exact absurd (Heap.lt_size e) (Nat.lt_irrefl _)
theorem Kids.snoc {a : Addr} {vs : List Value} {c : Nat} {ns : List Int} (hi : IntsAre vs ns) : ∀ {ks nss}, Kids ks nss → Kids (ks ++ [(a, listOf vs.toArray c)]) (nss ++ [ns])
  | _, _, .nil => .cons hi .nil
  | _, _, .cons h t => .cons h (Kids.snoc hi t)
section
variable {prog : Program} {w : World} {A : Around} {E : Value → Shared → Prop} {s : Shared} {h₀ : Heap} {L : Addr} {m : Str → Option Value} {news : List (Addr × Obj)} {Q : Value → Shared → Prop}
theorem lst_iter {l : Addr} {items : Array Value} (F : Fr h₀ L s.heap m) (N : News h₀ L s.heap news) (hl : s.heap.IsList l items)
    (hQ : ∀ it o h', Fr h₀ L h' m → LitAt o l 0 → News h₀ L h' ((it, o) :: news) → (∀ p ∈ news, p.1 ≠ it) → Q (.ref it) { s with heap := h' }) : wpAny (model prog w) A (pyIter (.ref l)) Q E s := by
  refine wpAny_pyIter_list hl ?_
  exact hQ _ _ _ (F.push _) ⟨rfl, rfl⟩ (News.push F N _) fun p hp => Nat.ne_of_lt (Heap.lt_size (N p hp).1)
end
/-- append to a list of the ledger -/
theorem append_led {prog : Program} {w : World} {A : Around} {E : Value → Shared → Prop} {s : Shared} {h₀ : Heap} {L a : Addr} {m : Str → Option Value} {news : List (Addr × Obj)} {vs : List Value} {c : Nat} {x : Value} {Q : Value → Shared → Prop}
    (F : Fr h₀ L s.heap m) (N : News h₀ L s.heap ((a, listOf vs.toArray c) :: news)) (hne : ∀ p ∈ news, p.1 ≠ a) (hl : vs.length < 1000)
    (hQ : ∀ c' h', Heap.SameBut a s.heap h' → Fr h₀ L h' m → News h₀ L h' ((a, listOf (vs ++ [x]).toArray c') :: news) → Q .none { s with heap := h' }) :
    wpAny (model prog w) A (call (.builtin "list.append") [.ref a, x]) Q E s := by
  obtain ⟨e, hL, h0⟩ := N _ (.head _)
  have hsz : vs.toArray.size ≤ sizeLine := by
    have : (1000 : Nat) ≤ sizeLine := by decide
    simp; omega
  refine wpAny_list_append_plain (hsz := hsz) ⟨c, e⟩ fun h' hpl hs => ?_
  obtain ⟨c', e'⟩ := hpl
  have e1 : vs.toArray.push x = (vs ++ [x]).toArray := by simp
  rw [e1] at e'
  exact hQ c' h' hs (fr_but F h0 hL hs.extBut) (news_with (news' := news) (o' := listOf #[] 0) (news_but (fun p hp => N p (.tail _ hp)) hne hs.extBut) e' hL h0)
theorem less' {I : Nat → Shared → Prop} {n : Nat} {s : Shared} (m : Nat) (hm : m < n) (h : I m s) : Less I n s := ⟨m, hm, h⟩
inductive SCi (s : Shared) (h₀ : Heap) (L D C it SA : Addr) (m : Str → Option Value) (news : List (Addr × Obj)) (SV : List Value) (n : Nat) (s' : Shared) : Prop
  | mk (i : Nat) (ks : List (Addr × Obj)) (c : Nat) (h' : Heap) (tk' : Nat) (o' : Obj) (mC : Str → Option Value) (_ : n = SV.length - i) (_ : i ≤ SV.length) (_ : s' = { s with heap := h', toks := tk' }) (_ : Fr h₀ L h' m) (_ : LitAt o' SA i) (_ : News h₀ L h' ((D, listOf (ks.map (fun k => Value.ref k.1)).toArray c) :: ((it, o') :: (ks ++ news)))) (_ : h'.Ns C mC) (_ : Kids ks (List.replicate i [])) (_ : (ks.map (·.1)).Pairwise (· ≠ ·)) (_ : (∀ k ∈ ks, k.1 ≠ D ∧ k.1 ≠ C ∧ k.1 ≠ it ∧ ∀ p ∈ news, p.1 ≠ k.1))
set_option maxHeartbeats 1000000 in
theorem struck_comp {prog : Program} {w : World} {A : Around} {s : Shared} {E : Value → Shared → Prop} {h₀ : Heap} {L SA fa : Addr} {fcd : Value} {fn : Str} {fsc : Scope} {m : Str → Option Value} {news : List (Addr × Obj)} {SV : List Value} {sc : Scope} {py pe px pi pos spos : Pos} {Q : Flow → Shared → Prop}
    (hh : A.handled = none) (F : Fr h₀ L s.heap m) (N : News h₀ L s.heap news) (hl : s.heap.IsList SA SV.toArray) (hSA : ∃ o, (SA, o) ∈ news) (hm : m "sizes" = some (.ref SA)) (hlen : SV.length < 100)
    (hfk : fsc.kind = .function) (hf1 : (envOf fn fsc L fa fcd).kindOf "sizes" = some .local) (hf2 : (envOf fn fsc L fa fcd).kindOf "struck" = some .local)
    (hsw : swapsWith (.ListComp (.List [] pe) [⟨.Name "size" px, .Name "sizes" pi, [], 0⟩] sc pos) (some (.Name "struck" py)) spos.line (envOf fn fsc L fa fcd) = pure true)
    (hclos : closureFor sc (envOf fn fsc L fa fcd) = pure []) (hcell : ∀ z ∈ sc.names, z.2 ≠ .cell) (hkind : sc.kind = .function) (hnames : ∀ z ∈ sc.names, z.2 = .local → sc.names.lookup z.1 = some .local) (hx : sc.names.lookup ("size" : Str) = some NameKind.local)
    (hQ : ∀ ST ks c h' tk', Kids ks (SV.map fun _ => []) → (ks.map (·.1)).Pairwise (· ≠ ·) → (∀ k ∈ ks, k.1 ≠ ST) → (∀ p ∈ news, p.1 ≠ ST ∧ ∀ k ∈ ks, p.1 ≠ k.1) → Fr h₀ L h' (fun z => if z = "struck" then some (.ref ST) else m z) → News h₀ L h' ((ST, listOf (ks.map (fun k => Value.ref k.1)).toArray c) :: (ks ++ news)) → Q .next { s with heap := h', toks := tk' }) :
    wpAny (model prog w) A (exec (.Assign [.Name "struck" py] (.ListComp (.List [] pe) [⟨.Name "size" px, .Name "sizes" pi, [], 0⟩] sc pos) spos) (envOf fn fsc L fa fcd)) Q E s := by
  rw [exec_Assign_Name_used _ _ _ _ hsw]
  refine wpAny_bind (wpAny_standAt (wpAny_bind ?_))
  show wpAny _ A (do let _ ← comprehension (.ListComp (.List [] pe) [⟨.Name "size" px, .Name "sizes" pi, [], 0⟩] sc pos) sc (envOf fn fsc L fa fcd) _ (newList []) false (eval (.Name "sizes" pi) (envOf fn fsc L fa fcd)) (some (assign (.Name "struck" py) (envOf fn fsc L fa fcd)))) _ _ s
  refine wpAny_bind (wpAny_mono (wpAny_comprehension_free (use := some (assign (.Name "struck" py) (envOf fn fsc L fa fcd))) (Q := fun _ s' => Q .next s') rfl (fun _ => rfl) hclos hkind hnames ?_) (fun _ s' hq => wpAny_pure (wpAny_pure hq)) fun _ _ e => e)
  refine ld F hm ?_ hfk hf1
  refine lst_iter F N hl fun it o h₂ F₂ ho N₂ hne₂ => ?_
  refine comp_block hcell hkind fun D C h₁ tk hD hC hDC _ _ eD nC keep => ?_
  dsimp only at hD hC keep
  have fresh : ∀ {b}, h₂.get? b = none → b ≠ L ∧ h₀.get? b = none ∧ ∀ p ∈ (it, o) :: news, p.1 ≠ b := fun {b} e => by
    refine ⟨?_, ?_, ?_⟩
    · intro z
      obtain ⟨o, _, _, ho, _⟩ := F₂.ns
      rw [← z, e] at ho
      cases ho
    · cases q : h₀.get? b with
      | none => rfl
      | some o => rw [F₂.keep _ _ q] at e; cases e
    · intro p hp z
      have := (N₂ p hp).1
      rw [z, e] at this
      cases this
  have fD := fresh hD
  have fC := fresh hC
  have hl₂ : ∀ {h' : Heap} {o'} , News h₀ L h' ((it, o') :: news) → h'.IsList SA SV.toArray := fun {h' o'} N' => by
    obtain ⟨oS, hS⟩ := hSA
    have e1 := (N _ hS).1
    obtain ⟨o1, e2, r⟩ := hl
    dsimp only at e1
    rw [e1] at e2
    cases e2
    exact ⟨_, (N' _ (.tail _ hS)).1, r⟩
  refine ⟨SCi s h₀ L D C it SA m news SV, SV.length, ?_, ?_, ?_⟩
  · refine ⟨0, [], 0, h₁, tk, o, _, rfl, Nat.zero_le _, rfl, F₂.keeps keep, ho, ?_, nC, .nil, .nil, fun _ h => nomatch h⟩
    intro p hp
    rcases List.mem_cons.mp hp with rfl | hp
    · exact ⟨eD, fD.1, fD.2.1⟩
    · exact ⟨keep _ _ (N₂ p hp).1, (N₂ p hp).2⟩
  · have := (N₂ _ (.head _)).1
    exact wpAny_pyIter_listiter (l := SA) (i := 0) ⟨o, keep _ _ this, ho.1, ho.2⟩ ⟨rfl, rfl⟩
  · rintro n s' ⟨i, ks, c, h', tk', o', mC, rfl, hi, rfl, F', ho', N', nC', hK, hnd, hks⟩
    have NI : News h₀ L h' ((it, o') :: ((D, listOf (ks.map (fun k => Value.ref k.1)).toArray c) :: (ks ++ news))) := fun p hp => N' p (by
      rcases List.mem_cons.mp hp with rfl | hp
      · exact .tail _ (.head _)
      · rcases List.mem_cons.mp hp with rfl | hp
        · exact .head _
        · exact .tail _ (.tail _ hp))
    have hneI : ∀ p ∈ (D, listOf (ks.map (fun k => Value.ref k.1)).toArray c) :: (ks ++ news), p.1 ≠ it := fun p hp => by
      rcases List.mem_cons.mp hp with rfl | hp
      · exact fun e => fD.2.2 _ (.head _) e.symm
      · rcases List.mem_append.mp hp with hp | hp
        · exact (hks p hp).2.2.1
        · exact hne₂ p hp
    have hSl : h'.IsList SA SV.toArray := hl₂ (o' := o') (fun p hp => N' p (by
      rcases List.mem_cons.mp hp with rfl | hp
      · exact .tail _ (.head _)
      · exact .tail _ (.tail _ (List.mem_append_right _ hp))))
    have hItC : C ≠ it := fun e => fC.2.2 _ (.head _) e.symm
    by_cases hlt : i < SV.length
    · obtain ⟨v, hv⟩ : ∃ v, SV.toArray[i]? = some v := ⟨SV[i], by simp [hlt]⟩
      obtain ⟨q1, q2, q3⟩ := NI _ (.head _)
      refine wpAny_pyNext_list_item (l := SA) (i := i) ⟨o', q1, ho'.1, ho'.2⟩ hSl hv fun h3 hit hs => ?_
      obtain ⟨o3, e3, c31, c32⟩ := hit
      have F3 := fr_but F' q3 q2 hs.extBut
      have N3 := news_with (news' := news) (o' := o3) (news_but (fun p hp => NI p (.tail _ hp)) hneI hs.extBut) e3 q2 q3
      have nC3 := ns_but nC' hItC hs.extBut
      refine wpAny_assign_Name (wpAny_storeName_local (env := compEnvC sc [] C (envOf fn fsc L fa fcd)) (lookup_relabel_local hx) nC3 (fun h4 n4 s4 => ?_) (by simp [compEnvC, relabel, hkind]))
      have sC : Heap.ExtBut C h3 h4 := s4.extBut
      have F4 := fr_but F3 fC.2.1 fC.1 sC
      have hneC : ∀ p ∈ (it, o3) :: (D, listOf (ks.map (fun k => Value.ref k.1)).toArray c) :: (ks ++ news), p.1 ≠ C := fun p hp => by
        rcases List.mem_cons.mp hp with rfl | hp
        · exact hItC.symm
        · rcases List.mem_cons.mp hp with rfl | hp
          · exact hDC
          · rcases List.mem_append.mp hp with hp | hp
            · exact (hks p hp).2.1
            · exact fC.2.2 p (.tail _ hp)
      have N4 := news_but N3 hneC sC
      rw [arm_eval_List]
      refine wpAny_bind (wpAny_standAt (wpAny_bind (spliced_nil ?_)))
      refine wpAny_newList ?_
      have e5 : (h4.push { cls := .type "list", data := .seq ([] : List Value).toArray }).get? h4.objs.size = some (listOf ([] : List Value).toArray 0) := Heap.get?_push_size _ rfl
      have k5 : ∀ b o, h4.get? b = some o → (h4.push { cls := .type "list", data := .seq ([] : List Value).toArray }).get? b = some o := fun b o e => Heap.get?_push_of_some _ e
      have out5 : ∀ {b o}, h4.get? b = some o → b ≠ h4.objs.size := fun {b o} e z => by rw [z, get_none] at e; cases e
      have F5 := F4.keeps k5
      have N5 : News h₀ L (h4.push { cls := .type "list", data := .seq ([] : List Value).toArray }) ((D, listOf (ks.map (fun k => Value.ref k.1)).toArray c) :: (it, o3) :: ((h4.objs.size, listOf ([] : List Value).toArray 0) :: (ks ++ news))) := fun p hp => by
        rcases List.mem_cons.mp hp with rfl | hp
        · exact ⟨k5 _ _ (N4 _ (.tail _ (.head _))).1, (N4 _ (.tail _ (.head _))).2⟩
        · rcases List.mem_cons.mp hp with rfl | hp
          · exact ⟨k5 _ _ (N4 _ (.head _)).1, (N4 _ (.head _)).2⟩
          · rcases List.mem_cons.mp hp with rfl | hp
            · refine ⟨e5, fun z => ?_, ?_⟩
              · obtain ⟨o, _, _, ho, _⟩ := F4.ns
                exact out5 ho z.symm
              · cases q : h₀.get? h4.objs.size with
                | none => rfl
                | some o => exact absurd rfl (out5 (F4.keep _ _ q))
            · exact ⟨k5 _ _ (N4 _ (.tail _ (.tail _ hp))).1, (N4 _ (.tail _ (.tail _ hp))).2⟩
      refine append_led (c := c) F5 N5 (fun p hp => ?_) (by rw [List.length_map, hK.length, List.length_replicate]; omega) fun c6 h6 s6 F6 N6 => ?_
      · rcases List.mem_cons.mp hp with rfl | hp
        · exact fD.2.2 (it, o) (.head _)
        · rcases List.mem_cons.mp hp with rfl | hp
          · exact fun e => out5 (N4 _ (.tail _ (.head _))).1 e.symm
          · rcases List.mem_append.mp hp with hp | hp
            · exact (hks p hp).1
            · exact fD.2.2 p (.tail _ hp)
      · refine less' (SV.length - (i + 1)) (by omega) ⟨i + 1, ks ++ [(h4.objs.size, listOf ([] : List Value).toArray 0)], c6, h6, _, o3, _, rfl, hlt, rfl, F6, ⟨c31, c32⟩, ?_, ns_but (n4.keeps k5) hDC.symm s6.extBut, ?_, ?_, ?_⟩
        · intro p hp
          refine N6 p ?_
          simp only [List.map_append, List.map_cons, List.map_nil, List.mem_cons, List.mem_append] at hp ⊢
          rcases hp with h | h | (h | h | h) | h
          · exact .inl h
          · exact .inr (.inl h)
          · exact .inr (.inr (.inr (.inl h)))
          · exact .inr (.inr (.inl h))
          · cases h
          · exact .inr (.inr (.inr (.inr h)))
        · have := Kids.snoc (a := h4.objs.size) (vs := []) (c := 0) (ns := []) .nil hK
          rw [show List.replicate (i + 1) ([] : List Int) = List.replicate i [] ++ [[]] from List.replicate_succ']
          exact this
        · rw [List.map_append, List.pairwise_append]
          refine ⟨hnd, by simp, fun x hx y hy => ?_⟩
          obtain ⟨k, hk, rfl⟩ := List.mem_map.mp hx
          have : y = h4.objs.size := by simpa using hy
          rw [this]
          exact out5 (N4 _ (.tail _ (.tail _ (List.mem_append_left _ hk)))).1
        · intro k hk
          rcases List.mem_append.mp hk with hk | hk
          · exact hks k hk
          · have : k = (h4.objs.size, listOf ([] : List Value).toArray 0) := by simpa using hk
            subst this
            refine ⟨fun e => out5 (N4 _ (.tail _ (.head _))).1 e.symm, fun e => ?_, fun e => out5 (N4 _ (.head _)).1 e.symm, fun p hp => out5 (N4 _ (.tail _ (.tail _ (List.mem_append_right _ hp)))).1⟩
            obtain ⟨o, _, _, ho, _⟩ := n4
            exact out5 ho e.symm
    · have hi' : i = SV.length := by omega
      obtain ⟨q1, q2, q3⟩ := NI _ (.head _)
      refine wpAny_pyNext_list_end (l := SA) (i := i) hh ⟨o', q1, ho'.1, ho'.2⟩ hSl (by simp [hi']) fun h3 hs => ?_
      have F3 := fr_but F' q3 q2 hs
      have N3 := news_but (fun p hp => NI p (.tail _ hp)) hneI hs
      have nC3 := ns_but nC' hItC hs
      show wpAny _ A (assign (.Name "struck" py) (envOf fn fsc L fa fcd) (.ref D)) _ _ _
      refine wpAny_assign_Name (wpAny_storeName_local hf2 F3.ns (fun h4 n4 s4 => ?_) (by simp [envOf, hfk]))
      refine ⟨mC, ns_but nC3 fC.1 s4.extBut, fun h5 s5 => ?_⟩
      have F4 := F3.set n4 s4
      have N4 := N3.set s4
      have hneC : ∀ p ∈ (D, listOf (ks.map (fun k => Value.ref k.1)).toArray c) :: (ks ++ news), p.1 ≠ C := fun p hp => by
        rcases List.mem_cons.mp hp with rfl | hp
        · exact hDC
        · rcases List.mem_append.mp hp with hp | hp
          · exact (hks p hp).2.1
          · exact fC.2.2 p (.tail _ hp)
      refine hQ D ks c h5 _ ?_ hnd (fun k hk => (hks k hk).1) (fun p hp => ⟨fD.2.2 p (.tail _ hp), fun k hk => (hks k hk).2.2.2 p hp⟩) (fr_but F4 fC.2.1 fC.1 s5.extBut) (news_but N4 hneC s5.extBut)
      rw [List.map_const', ← hi']
      exact hK
end
section
theorem small_one {n : Int} (h0 : 0 ≤ n) (h : n < 100) : Builtin.Range.small 0 n 1 = true := by
  have : n = 0 ∨ 0 < n := by omega
  unfold Builtin.Range.small Builtin.Range.rangeFitsLong Builtin.Range.rangeSize
  rcases this with rfl | hn
  · decide
  · simp only [show (1 : Int) > 0 by decide, if_true, if_pos hn]
    simp
    omega
theorem rsize_one {n : Int} (h0 : 0 ≤ n) : Builtin.Range.rangeSize 0 n 1 = n := by
  unfold Builtin.Range.rangeSize
  simp only [show (1 : Int) > 0 by decide, if_true]
  by_cases h : 0 < n
  · rw [if_pos h]; simp
  · rw [if_neg h]; omega
section
variable {prog : Program} {w : World} {A : Around} {E : Value → Shared → Prop} {s : Shared} {h₀ : Heap} {L : Addr} {m : Str → Option Value} {news : List (Addr × Obj)} {Q : Value → Shared → Prop}
/-- the iterator of range(n) -/
theorem rng_iter {n : Int} {r : Addr} {t u v : Tok} (F : Fr h₀ L s.heap m) (N : News h₀ L s.heap news) (hr : IsRange s.heap r 0 n 1 t u v) (h0 : 0 ≤ n) (h1 : n < 100)
    (hQ : ∀ it h', Fr h₀ L h' m → News h₀ L h' ((it, rgObj 0 n 1) :: news) → (∀ p ∈ news, p.1 ≠ it) → Q (.ref it) { s with heap := h' }) : wpAny (model prog w) A (pyIter (.ref r)) Q E s := by
  refine wpAny_pyIter_range hr (small_one h0 h1) ?_
  rw [rsize_one h0]
  exact hQ _ _ (F.push _) (News.push F N _) fun p hp => Nat.ne_of_lt (Heap.lt_size (N p hp).1)
end
end
section
noncomputable def txt (n : Int) : Str := Str.ofString (toString n)
noncomputable def dig (n : Int) : List Nat := (txt n).cps.toList
theorem digs_all (m : Nat) : NumText.AllDigits ((Nat.toDigits 10 m).map Char.toNat) := by
  intro c hc
  obtain ⟨ch, hch, e⟩ := List.mem_map.mp hc
  have r := digit_range (Nat.isDigit_of_mem_toDigits (by decide) (by decide) hch)
  rw [← e]
  exact r
theorem digs_ne (m : Nat) : (Nat.toDigits 10 m).map Char.toNat ≠ [] := by
  intro e
  have h := toDigits_len_ge 10 m
  rw [List.map_eq_nil_iff.mp e] at h
  exact absurd h (by decide)
theorem dig_nat (m : Nat) : dig (m : Int) = (Nat.toDigits 10 m).map Char.toNat := KIN.signs_num m
theorem dig_neg (m : Nat) : dig (Int.negSucc m) = 45 :: (Nat.toDigits 10 (m + 1)).map Char.toNat := by
  unfold dig txt
  rw [signs_ofString]
  show ("-" ++ Nat.repr (m + 1)).toList.map Char.toNat = _
  rw [String.toList_append, List.map_append, Nat.toList_repr]
  rfl
theorem dig_isW (n : Int) : ∀ c ∈ dig n, isW c := by
  intro c hc
  cases n with
  | ofNat m =>
    have := digs_all m c (by rw [← dig_nat]; exact hc)
    exact .inr this
  | negSucc m =>
    rw [dig_neg] at hc
    rcases List.mem_cons.mp hc with rfl | hc
    · exact .inl rfl
    · exact .inr (digs_all _ c hc)
theorem dig_ne (n : Int) : dig n ≠ [] := by
  cases n with
  | ofNat m => exact fun e => digs_ne m (by rw [← dig_nat]; exact e)
  | negSucc m => rw [dig_neg]; simp
theorem txt_len {n : Int} (h : n.natAbs < 10 ^ 10) : (txt n).length ≤ 11 := by
  have h1 := int_text_length_le10 (a := n) (k := 10) (by decide) h
  unfold txt
  rw [PySem.ofString_length]
  exact h1
theorem dig_length (n : Int) : (dig n).length = (txt n).length := Array.length_toList
theorem txt_pos (n : Int) : 0 < (txt n).length := by
  rw [← dig_length]
  exact List.length_pos_iff.mpr (dig_ne n)
theorem txt_dig (n : Int) : (⟨(dig n).toArray⟩ : Str) = txt n := by
  unfold dig
  rw [Array.toArray_toList]
theorem txt_int {n : Int} (h : n.natAbs < 10 ^ 10) : PySem.intText? (txt n) = some n := by
  have hl := txt_len h
  cases n with
  | ofNat m =>
    have e := PySem.intText_digits (x := txt (m : Int)) (by show NumText.AllDigits (dig (m : Int)); rw [dig_nat]; exact digs_all m) (dig_ne _) (Nat.le_trans hl (by decide))
    have : (txt (m : Int)).cps.toList = (Nat.toDigits 10 m).map Char.toNat := dig_nat m
    rw [this, KIN.val_back] at e
    exact e
  | negSucc m =>
    have e := PySem.intText_neg (x := txt (Int.negSucc m)) (dig_neg m) (digs_all _) (digs_ne _) (Nat.le_trans hl (by decide))
    rw [KIN.val_back] at e
    rw [e]
    rfl
/-- what the lexer eats -/
theorem tokA_word : ∀ (w : List Nat) {r r' : List Nat}, (∀ c ∈ w, isW c) → TokA r [] r' → TokA (w ++ r) w r'
  | [], _, _, _, h => h
  | c :: w, _, _, hw, h => .more c _ _ _ (hw c (.head _)) (tokA_word w (fun x hx => hw x (.tail _ hx)) h)
theorem toks_word {w r r' : List Nat} {ws : List (List Nat)} (h1 : w ≠ []) (hw : ∀ c ∈ w, isW c) (h : TokA r [] r') (ht : Toks r' ws) : Toks (w ++ r) (w :: ws) := by
  cases w with
  | nil => exact absurd rfl h1
  | cons c w => exact .cons _ _ _ _ (.word c _ w r' (hw c (.head _)) (tokA_word w (fun x hx => hw x (.tail _ hx)) h)) ht
theorem toks_note {c r : List Nat} {ws : List (List Nat)} (hc : 10 ∉ c) (h : Toks r ws) : Toks (35 :: (c ++ 10 :: r)) ws := by
  cases h with
  | nil _ h => exact .nil _ (.note c r _ _ hc h)
  | cons _ w r' ws h t => exact .cons _ w r' ws (.note c r _ _ hc h) t
theorem toks_blank {r : List Nat} {ws : List (List Nat)} (h : Toks r ws) : Toks (32 :: r) ws := by
  cases h with
  | nil _ h => exact .nil _ (.blank r _ _ h)
  | cons _ w r' ws h t => exact .cons _ w r' ws (.blank r _ _ h) t
noncomputable def tailOf (b : Nat) (x : Int) : List Nat := List.replicate b 32 ++ 35 :: (dig x ++ [39, 10])
theorem nl_not (x : Int) : 10 ∉ dig x ++ [39] := by
  intro h
  rcases List.mem_append.mp h with h | h
  · have := dig_isW x _ h
    unfold isW at this
    omega
  · simp at h
theorem toks_tail {r : List Nat} {ws : List (List Nat)} {b : Nat} {x : Int} (hb : b ≤ 1) (h : Toks r ws) : Toks (tailOf b x ++ r) ws := by
  have h1 : Toks (35 :: (dig x ++ [39]) ++ 10 :: r) ws := toks_note (nl_not x) h
  have e : b = 0 ∨ b = 1 := by omega
  rcases e with rfl | rfl
  · have : tailOf 0 x ++ r = 35 :: (dig x ++ [39]) ++ 10 :: r := by simp [tailOf]
    rw [this]; exact h1
  · have : tailOf 1 x ++ r = 32 :: (35 :: (dig x ++ [39]) ++ 10 :: r) := by simp [tailOf]
    rw [this]; exact toks_blank h1
theorem toks_lastword {w r : List Nat} {ws : List (List Nat)} {b : Nat} {x : Int} (hb : b ≤ 1) (h1 : w ≠ []) (hw : ∀ c ∈ w, isW c) (h : Toks r ws) : Toks (w ++ (tailOf b x ++ r)) (w :: ws) := by
  have e : b = 0 ∨ b = 1 := by omega
  rcases e with rfl | rfl
  · have : tailOf 0 x ++ r = 35 :: (dig x ++ [39]) ++ 10 :: r := by simp [tailOf]
    rw [this]
    exact toks_word h1 hw (.note _ r (nl_not x)) h
  · have : tailOf 1 x ++ r = 32 :: (tailOf 0 x ++ r) := by simp [tailOf]
    rw [this]
    exact toks_word h1 hw (.blank _) (toks_tail (by omega) h)
/-- the signs of a line: words by blanks -/
noncomputable def lineOf : List Int → List Nat
  | [] => []
  | [n] => dig n
  | n :: r => dig n ++ 32 :: lineOf r
theorem toks_line {r : List Nat} {ws : List (List Nat)} {b : Nat} {x : Int} (hb : b ≤ 1) (h : Toks r ws) : ∀ (ns : List Int), Toks (lineOf ns ++ (tailOf b x ++ r)) (ns.map dig ++ ws)
  | [] => toks_tail hb h
  | [n] => toks_lastword hb (dig_ne n) (dig_isW n) h
  | n :: k :: ns => by
    show Toks ((dig n ++ 32 :: lineOf (k :: ns)) ++ (tailOf b x ++ r)) (dig n :: ((k :: ns).map dig ++ ws))
    rw [List.append_assoc]
    exact toks_word (dig_ne n) (dig_isW n) (.blank _) (toks_line hb h (k :: ns))
theorem join_signs : ∀ (ns : List Int), (Txt.join " " (ns.map txt)).cps.toList = lineOf ns
  | [] => rfl
  | [n] => rfl
  | n :: k :: ns => by
    have ih := join_signs (k :: ns)
    have e : Txt.join " " ((n :: k :: ns).map txt) = txt n ++ (Str.ofString " ") ++ Txt.join " " ((k :: ns).map txt) := by
      unfold Txt.join
      rw [StrLaws.glued_eq_join, StrLaws.glued_eq_join]
      rfl
    rw [e]
    have : ((txt n ++ (Str.ofString " ") ++ Txt.join " " ((k :: ns).map txt)) : Str).cps.toList = dig n ++ 32 :: (Txt.join " " ((k :: ns).map txt)).cps.toList := by
      show ((txt n).cps ++ (Str.ofString " ").cps ++ (Txt.join " " ((k :: ns).map txt)).cps).toList = _
      have h1 : (Str.ofString " ").cps = #[32] := by decide +kernel
      rw [h1]
      simp [dig]
    rw [this, ih]
    rfl
end
section
section
variable {prog : Program} {w : World} {A : Around} {E : Value → Shared → Prop} {s : Shared} {Q : Value → Shared → Prop} {x y : Str} {t u : Tok}
theorem str_len_add (x y : Str) : (x ++ y).length = x.length + y.length := by
  show (x.cps ++ y.cps).size = _
  simp [Str.length]
theorem sl2 (hx : x.length < 5000) (hy : y.length < 5000) : x.length + y.length ≤ sizeLine := by
  have : (10000 : Nat) ≤ sizeLine := by decide
  omega
theorem add_v (hx : x.length < 5000) (hy : y.length < 5000) (hq : ∀ z t' k, z = x ++ y → z.length = x.length + y.length → Q (.str z t') { s with toks := k }) : wpAny (model prog w) A (binaryOp .Add (.str x t) (.str y u)) Q E s :=
  SB.add (fun t' k => hq _ t' k rfl (str_len_add x y)) (sl2 hx hy)
theorem iadd_v (hx : x.length < 5000) (hy : y.length < 5000) (hq : ∀ z t' k, z = x ++ y → z.length = x.length + y.length → Q (.str z t') { s with toks := k }) : wpAny (model prog w) A (inplaceOp .Add (.str x t) (.str y u)) Q E s :=
  SB.iadd (fun t' k => hq _ t' k rfl (str_len_add x y)) (sl2 hx hy)
theorem mul_blank {n : Int} (h : n = 0 ∨ n = 1) (hq : ∀ z t' k, z.cps.toList = List.replicate n.toNat 32 → z.length ≤ 1 → Q (.str z t') { s with toks := k }) : wpAny (model prog w) A (binaryOp .Mult (.str " " t) (.int n u)) Q E s := by
  refine SB.mul ?_ fun t' k => ?_
  · rcases h with rfl | rfl
    · exact ⟨by decide, fun h => absurd (by decide) h, fun h => absurd (by decide) h⟩
    · exact ⟨by decide, fun _ h => absurd h (by decide), fun _ h => absurd h (by decide)⟩
  · rcases h with rfl | rfl
    · exact hq _ t' k (by decide +kernel) (by decide +kernel)
    · exact hq _ t' k (by decide +kernel) (by decide +kernel)
theorem str_int {n : Int} (h : n.natAbs < 10 ^ 10) (hq : ∀ t' k, Q (.str (txt n) t') { s with toks := k }) : wpAny (model prog w) A (call (.type "str") [.int n t]) Q E s := by
  refine P.str_of_int ?_ (hq _ _)
  by_cases h0 : n.natAbs = 0
  · rw [h0]; decide
  · have : n.natAbs < 2 ^ 1920 := Nat.lt_trans h (by decide +kernel)
    exact (Nat.log2_lt h0).mpr this
/-- an item of a list at a place in it -/
theorem item_l {value slice : PySem.Expr} {l : Addr} {vs : List Value} {k : Int} {v : Value}
    (hl : s.heap.IsList l vs.toArray) (h0 : 0 ≤ k) (hhi : k < 2 ^ 63) (hx : vs[k.toNat]? = some v) (h : Q v s)
    (hs : subscripted slice false (.ref l) (.int k u) = operate [.ref l, .int k u] (getItem (.ref l) (.int k u))) :
    wpAny (model prog w) A (subscriptTail value slice (.ref l) (.int k u)) Q E s :=
  tail_any hl.typeIs slot_list_getitem.lookup (wpAny_getItem_list hl h0 hhi (by simpa using hx) h) hs
end
theorem IntsAre.at : ∀ {vs : List Value} {ns : List Int}, IntsAre vs ns → ∀ {i : Nat}, i < ns.length → ∃ t, vs[i]? = some (.int (ns.getD i 0) t)
  | _, _, .nil, _, h => absurd h (Nat.not_lt_zero _)
  | _, _, .cons n t _, 0, _ => ⟨t, rfl⟩
  | _, _, .cons n t r, i + 1, h => by
    obtain ⟨t', e⟩ := IntsAre.at r (i := i) (by simpa using h)
    exact ⟨t', by simpa using e⟩
theorem ints_strs : ∀ {vs ys : List Value} {ns : List Int}, IntsAre vs ns → Paired (fun v y => ∃ n t t', v = Value.int n t ∧ y = Value.str (txt n) t') vs ys → ∃ lw, ys = strValues lw ∧ lw.map (·.1) = ns.map txt
  | _, _, _, .nil, .nil => ⟨[], rfl, rfl⟩
  | _, _, _, .cons n t r, .cons h p => by
    obtain ⟨lw, e1, e2⟩ := ints_strs r p
    obtain ⟨n', _, t', e, rfl⟩ := h
    cases e
    exact ⟨(txt n, t') :: lw, by rw [e1]; rfl, by simp [e2]⟩
theorem ints_mem : ∀ {vs : List Value} {ns : List Int}, IntsAre vs ns → ∀ {v}, v ∈ vs → ∃ n t, n ∈ ns ∧ v = .int n t
  | _, _, .cons n t r, v, h => by
    rcases List.mem_cons.mp h with rfl | h
    · exact ⟨n, t, .head _, rfl⟩
    · obtain ⟨n', t', h1, h2⟩ := ints_mem r h
      exact ⟨n', t', .tail _ h1, h2⟩
set_option maxHeartbeats 1000000 in
theorem str_comp {prog : Program} {w : World} {A : Around} {s : Shared} {E : Value → Shared → Prop} {h₀ : Heap} {L fa : Addr} {fcd : Value} {fn : Str} {fsc : Scope} {m : Str → Option Value} {mean : ExcName → Option Value} {mg mb : Str → Option Value} {sc : Scope} {p1 p2 p3 px pos : Pos} {iter : PySem.Expr} {Q : Value → Shared → Prop}
    (hh : A.handled = none) (T : Top VW LO mean mg mb h₀) (_F₀ : Fr h₀ L s.heap m)
    (hclos : closureFor sc (envOf fn fsc L fa fcd) = pure []) (hcell : ∀ z ∈ sc.names, z.2 ≠ .cell) (hkind : sc.kind = .function) (hnames : ∀ z ∈ sc.names, z.2 = .local → sc.names.lookup z.1 = some .local) (hx : sc.names.lookup ("n" : Str) = some NameKind.local)
    (hstr : ∀ C, (compEnvC sc [] C (envOf fn fsc L fa fcd)).kindOf "str" = some .globalImplicit) (hs : ∀ x, foldedSetIterable iter (envOf fn fsc L fa fcd) x = pure x)
    (h : wpAny (model prog w) A (eval iter (envOf fn fsc L fa fcd)) (fun xv s₁ => ∃ D vs ns news, xv = .ref D ∧ Fr h₀ L s₁.heap m ∧ News h₀ L s₁.heap news ∧ s₁.heap.IsList D (List.toArray vs) ∧ IntsAre vs ns ∧ (∀ n ∈ ns, n.natAbs < 10 ^ 10) ∧ ns.length < 100 ∧
      ∀ D' c lw h' tk', lw.map (·.1) = ns.map txt → Fr h₀ L h' m → News h₀ L h' ((D', listOf (strValues lw).toArray c) :: news) → (∀ p ∈ news, p.1 ≠ D') → Q (.ref D') { s₁ with heap := h', toks := tk' }) E s) :
    wpAny (model prog w) A (eval (.ListComp (.Call (.Name "str" p1) [.Name "n" p2] [] p3) [⟨.Name "n" px, iter, [], 0⟩] sc pos) (envOf fn fsc L fa fcd)) Q E s := by
  refine wpAny_ListComp_free (cl := []) (fun _ => true) (fun v y => ∃ n t t', v = Value.int n t ∧ y = Value.str (txt n) t') hclos hcell hkind hnames hx (wpAny_mono h (fun xv s₁ h₁ => ?_) fun _ _ e => e) hs
  obtain ⟨D, vs, ns, news, rfl, F, N, hl, hi, hb, hlen, hQ⟩ := h₁
  have hI : s₁.heap.get? s₁.heap.objs.size = none := get_none
  have lI : D ≠ s₁.heap.objs.size := fun e => by obtain ⟨o, ho, _⟩ := hl; rw [e, hI] at ho; cases ho
  have k₂ : ∀ b o, s₁.heap.get? b = some o → (s₁.heap.push { cls := .type "list_iterator", data := .fields #[.ref D, .int 0 0] }).get? b = some o := fun b o e => Heap.get?_push_of_some _ e
  refine wpAny_pyIter_list hl ?_
  refine ⟨s₁.heap.objs.size, [s₁.heap.objs.size, D], [s₁.heap.objs.size], (List.toArray vs).size, _, _, rfl, Walks.list hh _ _ lI _, ?_, ⟨⟨_, Heap.get?_push_size _ rfl, rfl, rfl⟩, hl.push _⟩, ?_, ?_, ?_⟩
  · have : (100 : Nat) ≤ sizeLine := by decide
    have := hi.length
    simp; omega
  · intro b hb
    show b < (s₁.heap.push _).objs.size
    rw [Heap.size_push]
    rcases List.mem_cons.mp hb with rfl | hb
    · exact Nat.lt_succ_self _
    · rcases List.mem_cons.mp hb with rfl | hb
      · obtain ⟨o, ho, _⟩ := hl
        exact Nat.lt_succ_of_lt (Heap.lt_size ho)
      · cases hb
  · refine ⟨fun C i v s₃ m₃ E' _ _ _ _ _ _ => wpAny_pure ⟨rfl, _, _, rfl, fun _ _ e => e⟩, fun C i v s₃ m₃ E' _ hv _ hn hm hk _ => ?_⟩
    have hmem : v ∈ vs := by
      have h2 : vs[i]? = some v := by simpa using hv
      exact List.mem_of_getElem? h2
    obtain ⟨n, t, hn1, rfl⟩ := ints_mem hi hmem
    have up : ∀ b o, h₀.get? b = some o → s₃.heap.get? b = some o := fun b o e => hk b o (fun q => by
      rcases List.mem_cons.mp q with z | z
      · have := F.keep b o e
        rw [z, hI] at this
        cases this
      · cases z) (k₂ _ _ (F.keep b o e))
    have T₃ := T.keeps up
    refine wpAny_Call_Name_kw ?_
    refine Name_function_global (by simp [compEnvC, relabel, hkind]) (hstr C) (loadGlobal_builtin (env := compEnvC sc [] C (envOf fn fsc L fa fcd)) T₃.g (T₃.free _ (by decide +kernel) (by decide +kernel) (by decide +kernel) (by decide +kernel) (by decide +kernel)) T₃.b ((T₃.builtins _ (by decide)).trans (show bootBuiltins "str" = some (.type "str") by decide +kernel)) ?_) (by decide)
    refine Pv.callWith_type1 ?_
    refine spliced_cons (wpAny_Name (wpAny_loadName_local (env := compEnvC sc [] C (envOf fn fsc L fa fcd)) (by simp [compEnvC, relabel, hkind]) (lookup_relabel_local hx) hn hm ?_) (by decide))
    refine spliced_nil ?_
    exact str_int (hb n hn1) fun t' k => ⟨⟨n, t, t', rfl, rfl⟩, _, _, rfl, fun _ _ e => e⟩
  · intro D' h' tk ys vs' hD hlD hpl hlen' hP hF hk
    have hfil : vs'.filter (fun _ => true) = vs' := List.filter_eq_self.mpr fun _ _ => rfl
    rw [hfil] at hF
    have evs : vs' = vs := by
      apply List.ext_getElem?
      intro i
      by_cases hi' : i < vs'.length
      · have := hP i vs'[i] (List.getElem?_eq_getElem hi')
        rw [List.getElem?_eq_getElem hi']
        simpa using this.symm
      · have : (List.toArray vs).size = vs.length := by simp
        rw [List.getElem?_eq_none (by omega), List.getElem?_eq_none (by omega)]
    rw [evs] at hF
    obtain ⟨lw, e1, e2⟩ := ints_strs hi hF
    obtain ⟨c, ec⟩ := hpl
    have ey : ys = (strValues lw).toArray := by rw [← e1, Array.toArray_toList]
    rw [ey] at ec
    have none₂ : ∀ {b}, (s₁.heap.push { cls := .type "list_iterator", data := .fields #[.ref D, .int 0 0] }).get? b = none → s₁.heap.get? b = none := fun {b} e => by
      cases q : s₁.heap.get? b with
      | none => rfl
      | some o => rw [k₂ _ _ q] at e; cases e
    have up : ∀ b o, s₁.heap.get? b = some o → h'.get? b = some o := fun b o e => hk b o (fun q => by
      rcases List.mem_cons.mp q with z | z
      · rw [z, hI] at e; cases e
      · cases z) (k₂ _ _ e)
    have nD := none₂ hD
    have hD2 : ∀ {b o}, s₁.heap.get? b = some o → b ≠ D' := fun {b o} e z => by rw [z, nD] at e; cases e
    refine hQ D' c lw h' tk e2 (F.keeps up) ?_ (fun p hp => hD2 (N p hp).1)
    intro p hp
    rcases List.mem_cons.mp hp with rfl | hp
    · refine ⟨ec, fun z => ?_, ?_⟩
      · obtain ⟨o, _, _, ho, _⟩ := F.ns
        exact hD2 ho z.symm
      · cases q : h₀.get? D' with
        | none => rfl
        | some o => exact absurd rfl (hD2 (F.keep _ _ q))
    · exact ⟨up _ _ (N p hp).1, (N p hp).2⟩
end
section
section
variable {α : Type} [Zero α] [Add α]
noncomputable abbrev StG (α : Type) := List α × List α × List (List α)
noncomputable def stepG (t : Nat) (sz : List Int) (st : StG α) (k : Nat) : StG α :=
  if (t : Int) < sz.getD k 0 then
    (st.1.drop (sz.getD k 0 - t).toNat, st.2.1 ++ st.1.take ((sz.getD k 0 - t).toNat - 1), st.2.2.set k (st.2.2.getD k [] ++ [st.1.getD ((sz.getD k 0 - t).toNat - 1) 0]))
  else st
noncomputable def psum : α → List α → List α
  | _, [] => []
  | a, x :: r => (a + x) :: psum (a + x) r
noncomputable def upTo (t : Nat) (sz : List Int) (st : StG α) (k : Nat) : StG α := (List.range k).foldl (stepG t sz) st
noncomputable def turnG (t : Nat) (sz : List Int) (p : List α × List (List α)) : List α × List (List α) :=
  let r := upTo t sz (p.1, [], p.2) sz.length
  (psum 0 r.2.1, r.2.2)
noncomputable def turnsG (sz : List Int) (p : List α × List (List α)) (t : Nat) : List α × List (List α) := (List.range t).foldl (fun p t => turnG t sz p) p
theorem upTo_succ (t : Nat) (sz : List Int) (st : StG α) (k : Nat) : upTo t sz st (k + 1) = stepG t sz (upTo t sz st k) k := by
  unfold upTo
  rw [List.range_succ, List.foldl_append]
  rfl
theorem turnsG_succ (sz : List Int) (p : List α × List (List α)) (t : Nat) : turnsG sz p (t + 1) = turnG t sz (turnsG sz p t) := by
  unfold turnsG
  rw [List.range_succ, List.foldl_append]
  rfl
theorem psum_length : ∀ (a : α) (l : List α), (psum a l).length = l.length
  | _, [] => rfl
  | a, x :: r => by simp [psum, psum_length]
end
noncomputable def needF (t : Nat) (sz : List Int) : Nat := (sz.map fun (s : Int) => (s - (t : Int)).toNat).sum
theorem drop_getD {sz : List Int} {k : Nat} (h : k < sz.length) : sz.drop k = sz.getD k 0 :: sz.drop (k + 1) := by
  rw [List.drop_eq_getElem_cons h]
  simp [List.getD_eq_getElem?_getD, h]
theorem take_getD {sz : List Int} {k : Nat} (h : k < sz.length) : sz.take (k + 1) = sz.take k ++ [sz.getD k 0] := by
  rw [List.take_add_one]
  simp [List.getD_eq_getElem?_getD, h]
/-- lengths along a turn -/
theorem upTo_lens {t : Nat} {sz : List Int} {row : List Int} {kd : List (List Int)} (hr : row.length = needF t sz) (hk : kd.length = sz.length) : ∀ k, k ≤ sz.length →
    (upTo t sz (row, [], kd) k).1.length = needF t (sz.drop k) ∧ (upTo t sz (row, [], kd) k).2.1.length = needF (t + 1) (sz.take k) ∧ (upTo t sz (row, [], kd) k).2.2.length = sz.length ∧ (∀ n ∈ (upTo t sz (row, [], kd) k).1, n ∈ row) ∧ ∀ n ∈ (upTo t sz (row, [], kd) k).2.1, n ∈ row
  | 0, _ => ⟨by simpa [upTo] using hr, by simp [upTo, needF], by simpa [upTo] using hk, by simp [upTo], by simp [upTo]⟩
  | k + 1, h => by
    obtain ⟨h1, h2, h3, h4, h5⟩ := upTo_lens hr hk k (by omega)
    rw [upTo_succ]
    generalize upTo t sz (row, [], kd) k = st at *
    obtain ⟨r, kp, kd'⟩ := st
    dsimp only at h1 h2 h3 h4 h5
    have hlt : k < sz.length := h
    have d1 : needF t (sz.drop k) = (sz.getD k 0 - t).toNat + needF t (sz.drop (k + 1)) := by
      rw [drop_getD hlt]; simp [needF]
    have d2 : needF (t + 1) (sz.take (k + 1)) = needF (t + 1) (sz.take k) + (sz.getD k 0 - ((t + 1 : Nat) : Int)).toNat := by
      rw [take_getD hlt]; simp [needF]
    unfold stepG
    by_cases hs : (t : Int) < sz.getD k 0
    · rw [if_pos hs]
      refine ⟨?_, ?_, ?_, ?_, ?_⟩
      · simp only [List.length_drop]; omega
      · simp only [List.length_append, List.length_take]; omega
      · simpa using h3
      · intro n hn; exact h4 n (List.mem_of_mem_drop hn)
      · intro n hn
        rcases List.mem_append.mp hn with hn | hn
        · exact h5 n hn
        · exact h4 n (List.mem_of_mem_take hn)
    · rw [if_neg hs]
      exact ⟨by show r.length = _; omega, by show kp.length = _; omega, h3, h4, h5⟩
theorem upTo_kids {t b : Nat} {sz : List Int} {row : List Int} {kd : List (List Int)} (hb : ∀ l ∈ kd, l.length ≤ b) : ∀ k, ∀ l ∈ (upTo t sz (row, [], kd) k).2.2, l.length ≤ b + k
  | 0, l, hl => by
    have := hb l (by simpa [upTo] using hl)
    omega
  | k + 1, l, hl => by
    have ih := upTo_kids (t := t) (sz := sz) (row := row) hb k
    rw [upTo_succ] at hl
    generalize upTo t sz (row, [], kd) k = st at *
    obtain ⟨r, kp, kd'⟩ := st
    dsimp only at ih
    unfold stepG at hl
    by_cases hs : (t : Int) < sz.getD k 0
    · rw [if_pos hs] at hl
      rcases List.mem_or_eq_of_mem_set hl with h | h
      · have := ih l h; omega
      · rw [h, List.length_append]
        have : (kd'.getD k []).length ≤ b + k := by
          by_cases hk : k < kd'.length
          · have e : kd'.getD k [] = kd'[k] := by simp [List.getD_eq_getElem?_getD, hk]
            rw [e]; exact ih _ (List.getElem_mem hk)
          · have e : kd'.getD k [] = [] := by simp [List.getD_eq_getElem?_getD, List.getElem?_eq_none (Nat.not_lt.mp hk)]
            rw [e]; simp
        simp only [List.length_cons, List.length_nil]
        omega
    · rw [if_neg hs] at hl
      have := ih l hl; omega
theorem psum_bound {B : Int} : ∀ (l : List Int) (a : Int), (∀ n ∈ l, n.natAbs ≤ B.toNat) → 0 ≤ B → ∀ n ∈ psum a l, (n.natAbs : Int) ≤ a.natAbs + l.length * B
  | [], _, _, _, n, h => nomatch h
  | x :: r, a, hl, hB, n, h => by
    have hx : (x.natAbs : Int) ≤ B := by
      have := hl x (.head _)
      omega
    rcases List.mem_cons.mp h with rfl | h
    · have : (r.length : Int) * B ≥ 0 := Int.mul_nonneg (by omega) hB
      simp only [List.length_cons]
      have e : ((r.length + 1 : Nat) : Int) * B = r.length * B + B := by rw [Int.natCast_add, Int.add_mul]; simp
      rw [e]
      omega
    · have := psum_bound r (a + x) (fun n hn => hl n (.tail _ hn)) hB n h
      simp only [List.length_cons]
      have e : ((r.length + 1 : Nat) : Int) * B = r.length * B + B := by rw [Int.natCast_add, Int.add_mul]; simp
      rw [e]
      omega
theorem needF_le {t : Nat} : ∀ {sz : List Int}, (∀ x ∈ sz, x ≤ 4) → needF t sz ≤ 4 * sz.length
  | [], _ => Nat.le_refl _
  | x :: r, h => by
    have h1 := h x (.head _)
    have h2 := needF_le (t := t) (sz := r) (fun y hy => h y (.tail _ hy))
    simp only [needF, List.map_cons, List.sum_cons, List.length_cons] at h2 ⊢
    omega
/-- a row that fits the turn -/
structure RowOk (t : Nat) (sz : List Int) (row : List Int) (kd : List (List Int)) : Prop where
  len : row.length = needF t sz
  kids : kd.length = sz.length
  small : ∀ n ∈ row, n.natAbs ≤ 3000 * 16 ^ t
  short : ∀ l ∈ kd, l.length ≤ 4 * t
theorem RowOk.next {t : Nat} {sz : List Int} {row : List Int} {kd : List (List Int)} (h : RowOk t sz row kd) (hsz : ∀ x ∈ sz, x ≤ 4) (hl : sz.length ≤ 4) :
    RowOk (t + 1) sz (turnG t sz (row, kd)).1 (turnG t sz (row, kd)).2 := by
  obtain ⟨h1, h2, h3, h4, h5⟩ := upTo_lens h.len h.kids sz.length (Nat.le_refl _)
  rw [List.take_length] at h2
  refine ⟨?_, h3, ?_, fun l hl' => ?_⟩
  · show (psum 0 _).length = _
    rw [psum_length]
    exact h2
  · intro n hn
    have hb := psum_bound (B := ((3000 * 16 ^ t : Nat) : Int)) _ 0 (fun x hx => by
      have := h.small x (h5 x hx)
      rw [Int.toNat_natCast]
      exact this) (by omega) n hn
    have hle : (upTo t sz (row, [], kd) sz.length).2.1.length ≤ 16 := by
      rw [h2]
      have := needF_le (t := t + 1) hsz
      omega
    have hm : (((upTo t sz (row, [], kd) sz.length).2.1.length : Nat) : Int) * ((3000 * 16 ^ t : Nat) : Int) ≤ 16 * ((3000 * 16 ^ t : Nat) : Int) := Int.mul_le_mul_of_nonneg_right (by omega) (by omega)
    have e : (3000 * 16 ^ (t + 1) : Nat) = 16 * (3000 * 16 ^ t) := by rw [Nat.pow_succ]; omega
    rw [e]
    have h0 : (0 : Int).natAbs = 0 := rfl
    dsimp only at hb
    rw [h0] at hb
    omega
  · have := upTo_kids (t := t) (sz := sz) (row := row) h.short sz.length l hl'
    omega
theorem RowOk.fits {t : Nat} {sz : List Int} {row : List Int} {kd : List (List Int)} (h : RowOk t sz row kd) (ht : t ≤ 4) : ∀ n ∈ row, n.natAbs < 10 ^ 10 := fun n hn => by
  have h1 := h.small n hn
  have h2 : (16 : Nat) ^ t ≤ 16 ^ 4 := Nat.pow_le_pow_right (by decide) ht
  have h3 : 3000 * 16 ^ t ≤ 3000 * 16 ^ 4 := Nat.mul_le_mul_left _ h2
  have h4 : 3000 * 16 ^ 4 < 10 ^ 10 := by decide
  omega
end
section
theorem Kids.at : ∀ {ks : List (Addr × Obj)} {nss : List (List Int)}, Kids ks nss → ∀ {k : Nat}, k < nss.length → ∃ ksA a vs c ksB, ks = ksA ++ (a, listOf (List.toArray vs) c) :: ksB ∧ ksA.length = k ∧ IntsAre vs (nss.getD k []) ∧
    ∀ vs' c' ns', IntsAre vs' ns' → Kids (ksA ++ (a, listOf (List.toArray vs') c') :: ksB) (nss.set k ns')
  | _, _, .nil, _, h => absurd h (Nat.not_lt_zero _)
  | _, _, .cons hi t, 0, _ => ⟨[], _, _, _, _, rfl, rfl, hi, fun _ _ _ h => .cons h t⟩
  | _, _, .cons hi t, k + 1, h => by
    obtain ⟨A, a, vs, c, B, e, hl, hv, hs⟩ := Kids.at t (k := k) (by simpa using h)
    refine ⟨_ :: A, a, vs, c, B, by rw [e]; rfl, by simp [hl], by simpa using hv, fun vs' c' ns' h' => ?_⟩
    exact .cons hi (hs vs' c' ns' h')
theorem refs_at {ksA ksB : List (Addr × Obj)} {a : Addr} {o : Obj} : ((ksA ++ (a, o) :: ksB).map (fun k => Value.ref k.1))[ksA.length]? = some (.ref a) := by
  simp
noncomputable def TxtOk (text : Str) (kept : List Int) : Prop := ∀ r ws, Toks r ws → Toks (text.cps.toList ++ r) (kept.map dig ++ ws)
theorem TxtOk.nil : TxtOk "" [] := fun r ws h => by
  have : (Str.ofString "").cps.toList = [] := by decide +kernel
  rw [this]
  exact h
theorem TxtOk.step {text z : Str} {kept ns : List Int} {b : Nat} {x : Int} (h : TxtOk text kept) (hb : b ≤ 1) (hz : z.cps.toList = text.cps.toList ++ (lineOf ns ++ tailOf b x)) : TxtOk z (kept ++ ns) := fun r ws hr => by
  have h1 := h _ _ (toks_line (b := b) (x := x) hb hr ns)
  rw [hz, List.map_append, List.append_assoc, List.append_assoc, List.append_assoc]
  exact h1
theorem TxtOk.done {text : Str} {kept : List Int} (h : TxtOk text kept) : Toks text.cps.toList (kept.map dig) := by
  have := h [] [] (.nil _ .eof)
  simpa using this
noncomputable def locC : List (Str × Value) → (Str → Option Value) → Str → Option Value
  | [], j, y => j y
  | (k, v) :: r, j, y => if y = k then some v else locC r j y
inductive LocL (m : Str → Option Value) : List (Str × Value) → Prop
  | nil : LocL m []
  | cons {k : Str} {v : Value} {r : List (Str × Value)} (h : m k = some v) (t : LocL m r) : LocL m ((k, v) :: r)
theorem loc_at {m : Str → Option Value} : ∀ (l : List (Str × Value)), LocL m l → ∀ y, m y = locC l m y
  | [], _, _ => rfl
  | (k, v) :: r, h, y => by
    cases h with
    | cons h t =>
      rw [locC]
      by_cases e : y = k
      · rw [if_pos e, e]; exact h
      · rw [if_neg e]; exact loc_at r t y
theorem loc_self {m : Str → Option Value} : ∀ (l : List (Str × Value)), (∀ p ∈ l, m p.1 = some p.2) → ∀ y, m y = locC l m y
  | [], _, _ => rfl
  | (k, v) :: r, h, y => by
    rw [locC]
    by_cases e : y = k
    · rw [if_pos e, e]; exact h _ (.head _)
    · rw [if_neg e]; exact loc_self r (fun p hp => h p (.tail _ hp)) y
theorem news_rot3 {h₀ h : Heap} {L : Addr} {a b c : Addr × Obj} {l : List (Addr × Obj)} (N : News h₀ L h (a :: b :: c :: l)) : News h₀ L h (c :: a :: b :: l) := fun p hp => N p (by
  simp only [List.mem_cons] at hp ⊢
  rcases hp with h | h | h | h <;> simp [h])
theorem news_drop23 {h₀ h : Heap} {L : Addr} {a b c : Addr × Obj} {l : List (Addr × Obj)} (N : News h₀ L h (c :: a :: b :: l)) : News h₀ L h (c :: l) := fun p hp => N p (by
  simp only [List.mem_cons] at hp ⊢
  rcases hp with h | h <;> simp [h])
theorem wordsOk_of {lw : List (Str × Tok)} : ∀ {ns : List Int}, lw.map (·.1) = ns.map txt → (∀ n ∈ ns, n.natAbs < 10 ^ 10) → WordsOk lw := by
  intro ns e hb p hp
  have : p.1 ∈ ns.map txt := by rw [← e]; exact List.mem_map.mpr ⟨p, hp, rfl⟩
  obtain ⟨n, hn, en⟩ := List.mem_map.mp this
  rw [← en]
  refine ⟨txt_pos n, dig_isW n, ?_⟩
  have := txt_len (hb n hn)
  omega
theorem join_ok' {lw : List (Str × Tok)} {ns : List Int} (e : lw.map (·.1) = ns.map txt) : (Txt.join " " (lw.map (·.1))).cps.toList = lineOf ns := by rw [e, join_signs]
theorem lineOf_len : ∀ {ns : List Int}, (∀ n ∈ ns, n.natAbs < 10 ^ 10) → (lineOf ns).length ≤ 12 * ns.length
  | [], _ => Nat.le_refl _
  | [n], h => by
    have := txt_len (h n (.head _))
    rw [lineOf, dig_length]
    simp only [List.length_cons, List.length_nil]; omega
  | n :: k :: r, h => by
    have h1 := txt_len (h n (.head _))
    have h2 := lineOf_len (ns := k :: r) (fun x hx => h x (.tail _ hx))
    show (dig n ++ 32 :: lineOf (k :: r)).length ≤ _
    simp only [List.length_append, List.length_cons, dig_length] at h2 ⊢
    omega
theorem str_app_list (x y : Str) : (x ++ y).cps.toList = x.cps.toList ++ y.cps.toList := by
  show (x.cps ++ y.cps).toList = _
  simp
theorem list_of_len (x : Str) : x.cps.toList.length = x.length := Array.length_toList
theorem lit_hash : (Str.ofString "#").cps.toList = [35] := by decide +kernel
theorem lit_tail : (Str.ofString "'\n").cps.toList = [39, 10] := by decide +kernel
theorem fmod2 (t : Nat) : Int.fmod (t : Int) 2 = 0 ∨ Int.fmod (t : Int) 2 = 1 := by
  rw [Int.fmod_eq_emod_of_nonneg _ (by decide)]
  omega
theorem kid_len {ks : List (Addr × Obj)} {nss : List (List Int)} {k b : Nat} (h : ∀ l ∈ nss, l.length ≤ b) (hk : k < nss.length) : (nss.getD k []).length ≤ b := by
  have e : nss.getD k [] = nss[k] := by simp [List.getD_eq_getElem?_getD, hk]
  rw [e]; exact h _ (List.getElem_mem hk)
theorem getD_in {l : List Int} {i : Nat} (h : i < l.length) : l.getD i 0 ∈ l := by
  have e : l.getD i 0 = l[i] := by simp [List.getD_eq_getElem?_getD, h]
  rw [e]; exact List.getElem_mem h
theorem ints_snoc {x : Int} {t : Tok} : ∀ {vs : List Value} {ns : List Int}, IntsAre vs ns → IntsAre (vs ++ [.int x t]) (ns ++ [x])
  | _, _, .nil => .cons x t .nil
  | _, _, .cons n t' h => .cons n t' (ints_snoc h)
theorem TxtOk.step5 {text z1 z2 z3 z4 z5 J bl : Str} {kept ns : List Int} {b : Nat} {x : Int} (h : TxtOk text kept) (hb : b ≤ 1) (q5 : z5 = text ++ z4) (q4 : z4 = z3 ++ Str.ofString "'\n") (q3 : z3 = z2 ++ txt x) (q2 : z2 = z1 ++ Str.ofString "#") (q1 : z1 = J ++ bl) (q0 : bl.cps.toList = List.replicate b 32) (hJ : J.cps.toList = lineOf ns) : TxtOk z5 (kept ++ ns) :=
  TxtOk.step (b := b) (x := x) h hb (by
    rw [q5, str_app_list, q4, str_app_list, q3, str_app_list, q2, str_app_list, q1, str_app_list, hJ, q0, lit_hash, lit_tail]
    simp only [tailOf, dig, List.append_assoc, List.cons_append, List.nil_append])
theorem psum_snoc : ∀ (l : List Int) (a x : Int), psum a (l ++ [x]) = psum a l ++ [a + l.sum + x]
  | [], a, x => by simp [psum]
  | y :: l, a, x => by
    show (a + y) :: psum (a + y) (l ++ [x]) = (a + y) :: (psum (a + y) l ++ [a + (y :: l).sum + x])
    rw [psum_snoc l (a + y) x, List.sum_cons, Int.add_assoc a y l.sum]
theorem take_snoc {l : List Int} {j : Nat} (h : j < l.length) : l.take (j + 1) = l.take j ++ [l.getD j 0] := by
  rw [List.take_add_one]
  simp [List.getD_eq_getElem?_getD, h]
theorem sum_snoc (l : List Int) (x : Int) : (l ++ [x]).sum = l.sum + x := by simp
theorem wordsAre_at : ∀ {vs : List Value} {ns : List Int}, WordsAre vs (ns.map dig) → ∀ {j : Nat}, j < ns.length → ∃ t, vs[j]? = some (.str (txt (ns.getD j 0)) t)
  | _, [], _, _, h => absurd h (Nat.not_lt_zero _)
  | _, n :: ns, .cons t _ _ _ h, 0, _ => ⟨t, by
    show some (Value.str ⟨(dig n).toArray⟩ t) = some (Value.str (txt n) t)
    rw [txt_dig]⟩
  | _, n :: ns, .cons t _ _ _ h, j + 1, hj => by
    obtain ⟨t', e⟩ := wordsAre_at h (j := j) (Nat.lt_of_succ_lt_succ hj)
    exact ⟨t', e⟩
theorem wordsAre_len : ∀ {vs : List Value} {ws : List (List Nat)}, WordsAre vs ws → vs.length = ws.length
  | _, _, .nil => rfl
  | _, _, .cons _ _ _ _ h => by simp [wordsAre_len h]
theorem allLt_mem {d : Nat} : ∀ {l : List (Addr × Obj)}, AllLt d l → ∀ {p : Addr × Obj}, p ∈ l → @Ne Nat p.1 d
  | [], _, _, h => nomatch h
  | x :: r, h, p, hm => by
    rcases List.mem_cons.mp hm with rfl | hm
    · exact Nat.ne_of_lt h.1
    · exact allLt_mem h.2 hm
theorem news_swap {h₀ h : Heap} {L : Addr} {a b : Addr × Obj} {l : List (Addr × Obj)} (N : News h₀ L h (a :: b :: l)) : News h₀ L h (b :: a :: l) := fun p hp => N p (by
  simp only [List.mem_cons] at hp ⊢
  rcases hp with h | h | h <;> simp [h])
end
section











theorem me0 {α : Type} {b : α} {l : List α} : b ∈ b :: l := .head _
theorem me1 {α : Type} {a0 b : α} {l : List α} : b ∈ a0 :: b :: l := .tail _ (.head _)
theorem mt1 {α : Type} {a0 p : α} {l : List α} (h : p ∈ l) : p ∈ a0 :: l := .tail _ (h)
theorem me2 {α : Type} {a0 a1 b : α} {l : List α} : b ∈ a0 :: a1 :: b :: l := .tail _ (.tail _ (.head _))
theorem mt2 {α : Type} {a0 a1 p : α} {l : List α} (h : p ∈ l) : p ∈ a0 :: a1 :: l := .tail _ (.tail _ (h))
theorem me3 {α : Type} {a0 a1 a2 b : α} {l : List α} : b ∈ a0 :: a1 :: a2 :: b :: l := .tail _ (.tail _ (.tail _ (.head _)))
theorem mt3 {α : Type} {a0 a1 a2 p : α} {l : List α} (h : p ∈ l) : p ∈ a0 :: a1 :: a2 :: l := .tail _ (.tail _ (.tail _ (h)))
theorem me4 {α : Type} {a0 a1 a2 a3 b : α} {l : List α} : b ∈ a0 :: a1 :: a2 :: a3 :: b :: l := .tail _ (.tail _ (.tail _ (.tail _ (.head _))))
theorem mt4 {α : Type} {a0 a1 a2 a3 p : α} {l : List α} (h : p ∈ l) : p ∈ a0 :: a1 :: a2 :: a3 :: l := .tail _ (.tail _ (.tail _ (.tail _ (h))))
theorem me5 {α : Type} {a0 a1 a2 a3 a4 b : α} {l : List α} : b ∈ a0 :: a1 :: a2 :: a3 :: a4 :: b :: l := .tail _ (.tail _ (.tail _ (.tail _ (.tail _ (.head _)))))
theorem mt5 {α : Type} {a0 a1 a2 a3 a4 p : α} {l : List α} (h : p ∈ l) : p ∈ a0 :: a1 :: a2 :: a3 :: a4 :: l := .tail _ (.tail _ (.tail _ (.tail _ (.tail _ (h)))))
theorem me6 {α : Type} {a0 a1 a2 a3 a4 a5 b : α} {l : List α} : b ∈ a0 :: a1 :: a2 :: a3 :: a4 :: a5 :: b :: l := .tail _ (.tail _ (.tail _ (.tail _ (.tail _ (.tail _ (.head _))))))
theorem mt6 {α : Type} {a0 a1 a2 a3 a4 a5 p : α} {l : List α} (h : p ∈ l) : p ∈ a0 :: a1 :: a2 :: a3 :: a4 :: a5 :: l := .tail _ (.tail _ (.tail _ (.tail _ (.tail _ (.tail _ (h))))))
theorem me7 {α : Type} {a0 a1 a2 a3 a4 a5 a6 b : α} {l : List α} : b ∈ a0 :: a1 :: a2 :: a3 :: a4 :: a5 :: a6 :: b :: l := .tail _ (.tail _ (.tail _ (.tail _ (.tail _ (.tail _ (.tail _ (.head _)))))))
theorem mt7 {α : Type} {a0 a1 a2 a3 a4 a5 a6 p : α} {l : List α} (h : p ∈ l) : p ∈ a0 :: a1 :: a2 :: a3 :: a4 :: a5 :: a6 :: l := .tail _ (.tail _ (.tail _ (.tail _ (.tail _ (.tail _ (.tail _ (h)))))))
theorem me8 {α : Type} {a0 a1 a2 a3 a4 a5 a6 a7 b : α} {l : List α} : b ∈ a0 :: a1 :: a2 :: a3 :: a4 :: a5 :: a6 :: a7 :: b :: l := .tail _ (.tail _ (.tail _ (.tail _ (.tail _ (.tail _ (.tail _ (.tail _ (.head _))))))))
theorem mt8 {α : Type} {a0 a1 a2 a3 a4 a5 a6 a7 p : α} {l : List α} (h : p ∈ l) : p ∈ a0 :: a1 :: a2 :: a3 :: a4 :: a5 :: a6 :: a7 :: l := .tail _ (.tail _ (.tail _ (.tail _ (.tail _ (.tail _ (.tail _ (.tail _ (h))))))))
theorem mapR {α : Type} {A N : List α} {p : α} (h : p ∈ N) : p ∈ A ++ N := List.mem_append_right _ h
theorem mapL {α : Type} {A N : List α} {p : α} (h : p ∈ A) : p ∈ A ++ N := List.mem_append_left _ h
theorem ne_c {A : Type} {B : Type} {x : A} {p : A × B} {l : List (A × B)} (h : p.1 ≠ x) (t : ∀ q ∈ l, q.1 ≠ x) : ∀ q ∈ p :: l, q.1 ≠ x := List.forall_mem_cons.mpr ⟨h, t⟩
theorem ne_a {A : Type} {B : Type} {x : A} {k l : List (A × B)} (h : ∀ q ∈ k, q.1 ≠ x) (t : ∀ q ∈ l, q.1 ≠ x) : ∀ q ∈ k ++ l, q.1 ≠ x := fun q hq => (List.mem_append.mp hq).elim (h q) (t q)
theorem me9 {α : Type} {a0 a1 a2 a3 a4 a5 a6 a7 a8 b : α} {l : List α} : b ∈ a0 :: a1 :: a2 :: a3 :: a4 :: a5 :: a6 :: a7 :: a8 :: b :: l := mt8 (.tail _ (.head _))
theorem mt9 {α : Type} {a0 a1 a2 a3 a4 a5 a6 a7 a8 p : α} {l : List α} (h : p ∈ l) : p ∈ a0 :: a1 :: a2 :: a3 :: a4 :: a5 :: a6 :: a7 :: a8 :: l := mt8 (.tail _ h)
theorem me10 {α : Type} {a0 a1 a2 a3 a4 a5 a6 a7 a8 a9 b : α} {l : List α} : b ∈ a0 :: a1 :: a2 :: a3 :: a4 :: a5 :: a6 :: a7 :: a8 :: a9 :: b :: l := mt9 (.tail _ (.head _))
theorem mt10 {α : Type} {a0 a1 a2 a3 a4 a5 a6 a7 a8 a9 p : α} {l : List α} (h : p ∈ l) : p ∈ a0 :: a1 :: a2 :: a3 :: a4 :: a5 :: a6 :: a7 :: a8 :: a9 :: l := mt9 (.tail _ h)
theorem me11 {α : Type} {a0 a1 a2 a3 a4 a5 a6 a7 a8 a9 a10 b : α} {l : List α} : b ∈ a0 :: a1 :: a2 :: a3 :: a4 :: a5 :: a6 :: a7 :: a8 :: a9 :: a10 :: b :: l := mt10 (.tail _ (.head _))
theorem mt11 {α : Type} {a0 a1 a2 a3 a4 a5 a6 a7 a8 a9 a10 p : α} {l : List α} (h : p ∈ l) : p ∈ a0 :: a1 :: a2 :: a3 :: a4 :: a5 :: a6 :: a7 :: a8 :: a9 :: a10 :: l := mt10 (.tail _ h)
theorem fa_c {α : Type} {P : α → Prop} {a : α} {l : List α} (h : P a) (t : ∀ q ∈ l, P q) : ∀ q ∈ a :: l, P q := List.forall_mem_cons.mpr ⟨h, t⟩
theorem fa_a {α : Type} {P : α → Prop} {k l : List α} (h : ∀ q ∈ k, P q) (t : ∀ q ∈ l, P q) : ∀ q ∈ k ++ l, P q := fun q hq => (List.mem_append.mp hq).elim (h q) (t q)
theorem sq_a {α : Type} {r x y z : α} {K N : List α} {p : α} (hp : p ∈ x :: r :: y :: z :: (K ++ N)) : p ∈ z :: (K ++ x :: y :: r :: N) :=
  (fa_c (mt1 (mapR me0)) (fa_c (mt1 (mapR me2)) (fa_c (mt1 (mapR me1)) (fa_c me0 (fa_a (fun _ h => mt1 (mapL h)) (fun _ h => mt1 (mapR (mt3 h))))))) : ∀ u9 ∈ x :: r :: y :: z :: (K ++ N), u9 ∈ z :: (K ++ x :: y :: r :: N)) p hp
theorem sq_b {α : Type} {r x y z : α} {K N : List α} {p : α} (hp : p ∈ z :: (K ++ x :: y :: N)) : p ∈ x :: r :: y :: z :: (K ++ N) :=
  (fa_c me3 (fa_a (fun _ h => mt4 (mapL h)) (fa_c me0 (fa_c me2 (fun _ h => mt4 (mapR h))))) : ∀ u9 ∈ z :: (K ++ x :: y :: N), u9 ∈ x :: r :: y :: z :: (K ++ N)) p hp
theorem sq_c {α : Type} {i j r x y z : α} {K N : List α} {p : α} (hp : p ∈ j :: x :: r :: y :: z :: (K ++ i :: N)) : p ∈ j :: i :: x :: r :: y :: z :: (K ++ N) :=
  (fa_c me0 (fa_c me2 (fa_c me3 (fa_c me4 (fa_c me5 (fa_a (fun _ h => mt6 (mapL h)) (fa_c me1 (fun _ h => mt6 (mapR h)))))))) : ∀ u9 ∈ j :: x :: r :: y :: z :: (K ++ i :: N), u9 ∈ j :: i :: x :: r :: y :: z :: (K ++ N)) p hp
theorem sq_d {α : Type} {b i l r x y z : α} {K N : List α} {p : α} (hp : p ∈ K ++ i :: N) : p ∈ l :: b :: x :: r :: y :: z :: (K ++ i :: N) :=
  (fa_a (fun _ h => mt6 (mapL h)) (fa_c (mt6 (mapR me0)) (fun _ h => mt6 (mapR (mt1 h)))) : ∀ u9 ∈ K ++ i :: N, u9 ∈ l :: b :: x :: r :: y :: z :: (K ++ i :: N)) p hp
theorem sq_e {α : Type} {b i l r w x y z : α} {K N : List α} {p : α} (hp : p ∈ w :: b :: l :: x :: y :: z :: (K ++ i :: N)) : p ∈ w :: l :: b :: x :: r :: y :: z :: (K ++ i :: N) :=
  (fa_c me0 (fa_c me2 (fa_c me1 (fa_c me3 (fa_c me5 (fa_c me6 (fa_a (fun _ h => mt7 (mapL h)) (fa_c (mt7 (mapR me0)) (fun _ h => mt7 (mapR (mt1 h)))))))))) : ∀ u9 ∈ w :: b :: l :: x :: y :: z :: (K ++ i :: N), u9 ∈ w :: l :: b :: x :: r :: y :: z :: (K ++ i :: N)) p hp
theorem sq_f {α : Type} {b i l x y z : α} {K N : List α} {p : α} (hp : p ∈ i :: x :: b :: y :: z :: (K ++ N)) : p ∈ b :: l :: x :: y :: z :: (K ++ i :: N) :=
  (fa_c (mt5 (mapR me0)) (fa_c me2 (fa_c me0 (fa_c me3 (fa_c me4 (fa_a (fun _ h => mt5 (mapL h)) (fun _ h => mt5 (mapR (mt1 h)))))))) : ∀ u9 ∈ i :: x :: b :: y :: z :: (K ++ N), u9 ∈ b :: l :: x :: y :: z :: (K ++ i :: N)) p hp
theorem sq_g {α : Type} {i j k r x y z : α} {A B N : List α} {p : α} (hp : p ∈ j :: x :: r :: y :: z :: k :: (A ++ (B ++ i :: N))) : p ∈ j :: x :: r :: y :: z :: ((A ++ k :: B) ++ i :: N) :=
  (fa_c me0 (fa_c me1 (fa_c me2 (fa_c me3 (fa_c me4 (fa_c (mt5 (mapL (mapR me0))) (fa_a (fun _ h => mt5 (mapL (mapL h))) (fa_a (fun _ h => mt5 (mapL (mapR (mt1 h)))) (fa_c (mt5 (mapR me0)) (fun _ h => mt5 (mapR (mt1 h))))))))))) : ∀ u9 ∈ j :: x :: r :: y :: z :: k :: (A ++ (B ++ i :: N)), u9 ∈ j :: x :: r :: y :: z :: ((A ++ k :: B) ++ i :: N)) p hp
theorem sq_p {α : Type} {i j k r x y z : α} {A B N : List α} {p : α} (hp : p ∈ k :: j :: x :: r :: y :: z :: (A ++ (B ++ i :: N))) : p ∈ j :: x :: r :: y :: z :: k :: (A ++ (B ++ i :: N)) :=
  (fa_c me5 (fa_c me0 (fa_c me1 (fa_c me2 (fa_c me3 (fa_c me4 (fa_a (fun _ h => mt6 (mapL h)) (fa_a (fun _ h => mt6 (mapR (mapL h))) (fa_c (mt6 (mapR (mapR me0))) (fun _ h => mt6 (mapR (mapR (mt1 h)))))))))))) : ∀ u9 ∈ k :: j :: x :: r :: y :: z :: (A ++ (B ++ i :: N)), u9 ∈ j :: x :: r :: y :: z :: k :: (A ++ (B ++ i :: N))) p hp
theorem sq_q {α : Type} {i j k r x y z : α} {A B N : List α} {p : α} (hp : p ∈ j :: x :: r :: y :: z :: k :: (A ++ (B ++ i :: N))) : p ∈ k :: j :: x :: r :: y :: z :: (A ++ (B ++ i :: N)) :=
  (fa_c me1 (fa_c me2 (fa_c me3 (fa_c me4 (fa_c me5 (fa_c me0 (fa_a (fun _ h => mt6 (mapL h)) (fa_a (fun _ h => mt6 (mapR (mapL h))) (fa_c (mt6 (mapR (mapR me0))) (fun _ h => mt6 (mapR (mapR (mt1 h)))))))))))) : ∀ u9 ∈ j :: x :: r :: y :: z :: k :: (A ++ (B ++ i :: N)), u9 ∈ k :: j :: x :: r :: y :: z :: (A ++ (B ++ i :: N))) p hp
theorem sq_h2 {α : Type} {d i j k q r x y z : α} {A B N : List α} {p : α} (hp : p ∈ x :: d :: j :: r :: y :: z :: k :: (A ++ (B ++ i :: N))) : p ∈ d :: q :: j :: x :: r :: y :: z :: k :: (A ++ (B ++ i :: N)) :=
  (fa_c me3 (fa_c me0 (fa_c me2 (fa_c me4 (fa_c me5 (fa_c me6 (fa_c me7 (fa_a (fun _ h => mt8 (mapL h)) (fa_a (fun _ h => mt8 (mapR (mapL h))) (fa_c (mt8 (mapR (mapR me0))) (fun _ h => mt8 (mapR (mapR (mt1 h))))))))))))) : ∀ u9 ∈ x :: d :: j :: r :: y :: z :: k :: (A ++ (B ++ i :: N)), u9 ∈ d :: q :: j :: x :: r :: y :: z :: k :: (A ++ (B ++ i :: N))) p hp
theorem sq_n {α : Type} {d i j k r x y z : α} {A B N : List α} {p : α} (hp : p ∈ j :: x :: r :: y :: z :: k :: (A ++ (B ++ i :: N))) : p ∈ x :: d :: j :: r :: y :: z :: k :: (A ++ (B ++ i :: N)) :=
  (fa_c me2 (fa_c me0 (fa_c me3 (fa_c me4 (fa_c me5 (fa_c me6 (fa_a (fun _ h => mt7 (mapL h)) (fa_a (fun _ h => mt7 (mapR (mapL h))) (fa_c (mt7 (mapR (mapR me0))) (fun _ h => mt7 (mapR (mapR (mt1 h)))))))))))) : ∀ u9 ∈ j :: x :: r :: y :: z :: k :: (A ++ (B ++ i :: N)), u9 ∈ x :: d :: j :: r :: y :: z :: k :: (A ++ (B ++ i :: N))) p hp
theorem sq_u {α : Type} {i j k q r x y z : α} {A B N : List α} {p : α} (hp : p ∈ j :: x :: r :: y :: z :: ((A ++ k :: B) ++ i :: N)) : p ∈ r :: j :: x :: q :: y :: z :: k :: (A ++ (B ++ i :: N)) :=
  (fa_c me1 (fa_c me2 (fa_c me0 (fa_c me4 (fa_c me5 (fa_a (fa_a (fun _ h => mt7 (mapL h)) (fa_c me6 (fun _ h => mt7 (mapR (mapL h))))) (fa_c (mt7 (mapR (mapR me0))) (fun _ h => mt7 (mapR (mapR (mt1 h)))))))))) : ∀ u9 ∈ j :: x :: r :: y :: z :: ((A ++ k :: B) ++ i :: N), u9 ∈ r :: j :: x :: q :: y :: z :: k :: (A ++ (B ++ i :: N))) p hp
theorem sq_w {α : Type} {i j k r x y z : α} {A B N : List α} {p : α} (hp : p ∈ A ++ k :: B) : p ∈ j :: x :: r :: y :: z :: k :: (A ++ (B ++ i :: N)) :=
  (fa_a (fun _ h => mt6 (mapL h)) (fa_c me5 (fun _ h => mt6 (mapR (mapL h)))) : ∀ u9 ∈ A ++ k :: B, u9 ∈ j :: x :: r :: y :: z :: k :: (A ++ (B ++ i :: N))) p hp
inductive SIo (s : Shared) (M : Int) (it : Addr) (dp un : Nat) (gd : Option (List Code)) (cn : Str) (cs : Scope) (L a : Addr) (ccd : Value) (cl : List (Str × Addr)) (outer : List Env) (base g1 : Heap) (L1 SA ST : Addr) (SV : List Value) (cS cST : Nat) (ks news : List (Addr × Obj)) (sz : List Int) (P0 : List Int × List (List Int)) (n : Nat) (s' : Shared) : Prop
  | mk (t : Nat) (h' : Heap) (tk' : Nat) (gens' : Array GenState) (g : Heap) (op' : Obj) (RA' : Addr) (RV' : List Value) (cR' : Nat) (ks' : List (Addr × Obj)) (junk : Str → Option Value) (_ : n + t = M.toNat) (_ : RA' ≠ it) (_ : s' = { s with heap := h', toks := tk', gens := gens' }) (_ : AllBare gens') (_ : TabOk op') (_ : KtsTurn ((envX cn cs L a ccd cl :: outer).filterMap (·.frame)) g1 g) (_ : Below (ktrTop dp un gd cn cs L a ccd cl outer) base (envX cn cs L a ccd cl :: outer) g) (_ : Fr g L1 h' (fun y => if y = "row" then some (.ref RA') else if y = "struck" then some (.ref ST) else if y = "sizes" then some (.ref SA) else junk y)) (_ : IntsAre RV' (turnsG sz P0 t).1) (_ : Kids ks' (turnsG sz P0 t).2) (_ : ks'.map (·.1) = ks.map (·.1)) (_ : RowOk t sz (turnsG sz P0 t).1 (turnsG sz P0 t).2) (_ : RA' ≠ 753) (_ : RA' ≠ ST) (_ : (∀ k ∈ ks, RA' ≠ k.1)) (_ : News g L1 h' ((it, rgObj (t : Int) (n : Int) 1) :: (753, op') :: (RA', listOf (List.toArray RV') cR') :: (SA, listOf SV.toArray cS) :: (ST, listOf (List.map (fun k => Value.ref k.1) ks).toArray cST) :: (ks' ++ news)))
inductive SJo (s : Shared) (M : Int) (it : Addr) (dp un : Nat) (gd : Option (List Code)) (cn : Str) (cs : Scope) (L a : Addr) (ccd : Value) (cl : List (Str × Addr)) (outer : List Env) (base g1 : Heap) (L1 SA ST : Addr) (SV : List Value) (cS cST : Nat) (ks news : List (Addr × Obj)) (sz : List Int) (P0 : List Int × List (List Int)) (s' : Shared) : Prop
  | mk (t : Nat) (h' : Heap) (tk' : Nat) (gens' : Array GenState) (g : Heap) (op' : Obj) (RA' : Addr) (RV' : List Value) (cR' : Nat) (ks' : List (Addr × Obj)) (junk : Str → Option Value) (_ : t = M.toNat) (_ : s' = { s with heap := h', toks := tk', gens := gens' }) (_ : AllBare gens') (_ : TabOk op') (_ : KtsTurn ((envX cn cs L a ccd cl :: outer).filterMap (·.frame)) g1 g) (_ : Below (ktrTop dp un gd cn cs L a ccd cl outer) base (envX cn cs L a ccd cl :: outer) g) (_ : Fr g L1 h' (fun y => if y = "row" then some (.ref RA') else if y = "struck" then some (.ref ST) else if y = "sizes" then some (.ref SA) else junk y)) (_ : IntsAre RV' (turnsG sz P0 t).1) (_ : Kids ks' (turnsG sz P0 t).2) (_ : ks'.map (·.1) = ks.map (·.1)) (_ : RowOk t sz (turnsG sz P0 t).1 (turnsG sz P0 t).2) (_ : RA' ≠ 753) (_ : RA' ≠ ST) (_ : (∀ k ∈ ks, RA' ≠ k.1)) (_ : News g L1 h' ((753, op') :: (RA', listOf (List.toArray RV') cR') :: (SA, listOf SV.toArray cS) :: (ST, listOf (List.map (fun k => Value.ref k.1) ks).toArray cST) :: (ks' ++ news)))
inductive SIi (s : Shared) (t n : Nat) (it it2 L1 SA ST : Addr) (g : Heap) (SV : List Value) (cS cST : Nat) (ks news : List (Addr × Obj)) (sz : List Int) (P0 : List Int × List (List Int)) (n2 : Nat) (s' : Shared) : Prop
  | mk (k : Nat) (h2 : Heap) (tk2 : Nat) (gens2 : Array GenState) (op2 : Obj) (RA2 : Addr) (RV2 : List Value) (cR2 : Nat) (ks2 : List (Addr × Obj)) (text : Str) (tx tt : Tok) (junk2 : Str → Option Value) (_ : n2 + k = sz.length) (_ : RA2 ≠ it2) (_ : s' = { s with heap := h2, toks := tk2, gens := gens2 }) (_ : AllBare gens2) (_ : TabOk op2) (_ : Fr g L1 h2 (fun y => if y = "row" then some (.ref RA2) else if y = "text" then some (.str text tx) else if y = "turn" then some (.int (t : Int) tt) else if y = "struck" then some (.ref ST) else if y = "sizes" then some (.ref SA) else junk2 y)) (_ : IntsAre RV2 (upTo t sz ((turnsG sz P0 t).1, [], (turnsG sz P0 t).2) k).1) (_ : Kids ks2 (upTo t sz ((turnsG sz P0 t).1, [], (turnsG sz P0 t).2) k).2.2) (_ : ks2.map (·.1) = ks.map (·.1)) (_ : TxtOk text (upTo t sz ((turnsG sz P0 t).1, [], (turnsG sz P0 t).2) k).2.1) (_ : text.length ≤ 200 * k) (_ : RA2 ≠ 753) (_ : RA2 ≠ ST) (_ : (∀ k ∈ ks, RA2 ≠ k.1)) (_ : RA2 ≠ it) (_ : News g L1 h2 ((it2, rgObj (k : Int) (n2 : Int) 1) :: (753, op2) :: (RA2, listOf (List.toArray RV2) cR2) :: (SA, listOf SV.toArray cS) :: (ST, listOf (List.map (fun k => Value.ref k.1) ks).toArray cST) :: (ks2 ++ (it, rgObj ((t : Int) + 1) (((n + 1 : Nat) : Int) - 1) 1) :: news)))
inductive SJi (s : Shared) (t n : Nat) (it it2 L1 SA ST : Addr) (g : Heap) (SV : List Value) (cS cST : Nat) (ks news : List (Addr × Obj)) (sz : List Int) (P0 : List Int × List (List Int)) (s' : Shared) : Prop
  | mk (k : Nat) (h2 : Heap) (tk2 : Nat) (gens2 : Array GenState) (op2 : Obj) (RA2 : Addr) (RV2 : List Value) (cR2 : Nat) (ks2 : List (Addr × Obj)) (text : Str) (tx tt : Tok) (junk2 : Str → Option Value) (_ : k = sz.length) (_ : s' = { s with heap := h2, toks := tk2, gens := gens2 }) (_ : AllBare gens2) (_ : TabOk op2) (_ : Fr g L1 h2 (fun y => if y = "row" then some (.ref RA2) else if y = "text" then some (.str text tx) else if y = "turn" then some (.int (t : Int) tt) else if y = "struck" then some (.ref ST) else if y = "sizes" then some (.ref SA) else junk2 y)) (_ : IntsAre RV2 (upTo t sz ((turnsG sz P0 t).1, [], (turnsG sz P0 t).2) k).1) (_ : Kids ks2 (upTo t sz ((turnsG sz P0 t).1, [], (turnsG sz P0 t).2) k).2.2) (_ : ks2.map (·.1) = ks.map (·.1)) (_ : TxtOk text (upTo t sz ((turnsG sz P0 t).1, [], (turnsG sz P0 t).2) k).2.1) (_ : text.length ≤ 200 * k) (_ : RA2 ≠ 753) (_ : RA2 ≠ ST) (_ : (∀ k ∈ ks, RA2 ≠ k.1)) (_ : RA2 ≠ it) (_ : News g L1 h2 ((753, op2) :: (RA2, listOf (List.toArray RV2) cR2) :: (SA, listOf SV.toArray cS) :: (ST, listOf (List.map (fun k => Value.ref k.1) ks).toArray cST) :: (ks2 ++ (it, rgObj ((t : Int) + 1) (((n + 1 : Nat) : Int) - 1) 1) :: news)))
inductive SIw (s : Shared) (t n : Nat) (it it3 L1 SA ST RB S : Addr) (g2 : Heap) (gens2 : Array GenState) (op2 : Obj) (acc : Array Value) (cA : Nat) (SV : List Value) (cS cST : Nat) (ks ks2 news : List (Addr × Obj)) (kept : List Int) (nW : Nat) (s' : Shared) : Prop
  | mk (j : Nat) (h12 : Heap) (tk12 : Nat) (oW : Obj) (RBv : List Value) (cB : Nat) (tot : Int) (ttk : Tok) (junk3 : Str → Option Value) (_ : nW + j = kept.length) (_ : s' = { s with heap := h12, toks := tk12, gens := gens2 }) (_ : Fr g2 L1 h12 (fun y => if y = "row" then some (.ref RB) else if y = "total" then some (.int tot ttk) else if y = "struck" then some (.ref ST) else if y = "sizes" then some (.ref SA) else junk3 y)) (_ : LitAt oW S j) (_ : IntsAre RBv (psum 0 (kept.take j))) (_ : tot = (kept.take j).sum) (_ : News g2 L1 h12 ((it3, oW) :: (RB, listOf (List.toArray RBv) cB) :: (S, { cls := .type "list", data := .seq acc cA }) :: (753, op2) :: (SA, listOf SV.toArray cS) :: (ST, listOf (List.map (fun k => Value.ref k.1) ks).toArray cST) :: (ks2 ++ (it, rgObj ((t : Int) + 1) (((n + 1 : Nat) : Int) - 1) 1) :: news)))
inductive SJw (s : Shared) (t n : Nat) (it it3 L1 SA ST RB S : Addr) (g2 : Heap) (gens2 : Array GenState) (op2 : Obj) (acc : Array Value) (cA : Nat) (SV : List Value) (cS cST : Nat) (ks ks2 news : List (Addr × Obj)) (kept : List Int) (s' : Shared) : Prop
  | mk (j : Nat) (h12 : Heap) (tk12 : Nat) (oW : Obj) (RBv : List Value) (cB : Nat) (tot : Int) (ttk : Tok) (junk3 : Str → Option Value) (_ : j = kept.length) (_ : s' = { s with heap := h12, toks := tk12, gens := gens2 }) (_ : Fr g2 L1 h12 (fun y => if y = "row" then some (.ref RB) else if y = "total" then some (.int tot ttk) else if y = "struck" then some (.ref ST) else if y = "sizes" then some (.ref SA) else junk3 y)) (_ : LitAt oW S j) (_ : IntsAre RBv (psum 0 (kept.take j))) (_ : tot = (kept.take j).sum) (_ : News g2 L1 h12 ((RB, listOf (List.toArray RBv) cB) :: (S, { cls := .type "list", data := .seq acc cA }) :: (753, op2) :: (SA, listOf SV.toArray cS) :: (ST, listOf (List.map (fun k => Value.ref k.1) ks).toArray cST) :: (ks2 ++ (it, rgObj ((t : Int) + 1) (((n + 1 : Nat) : Int) - 1) 1) :: news)))
set_option maxHeartbeats 8000000 in
theorem struck_ok : ∀ (w : World) (mean : ExcName → Option Value) (mg mb : Str → Option Value) (dp un : Nat) (gd : Option (List Code)) (cn : Str) (cs : Scope) (a : Addr) (ccd : Value) (cl : List (Str × Addr)) (outer : List Env) (A₀ : Around) (base h₀ : Heap) (L : Addr) (m : Str → Option Value) (s : Shared) (Q E : Value → Shared → Prop) (news : List (Addr × Obj)) (op : Obj) (SA RA : Addr) (SV RV : List Value) (cS cR : Nat) (sz ns : List Int)
    (B : Below A₀ base outer h₀) (F : Fr h₀ L s.heap m) (XB : (heap w.params).In base) (TB : Top VW LO mean mg mb base) (hk : cs.kind = .function) (N : News h₀ L s.heap ((753, op) :: (SA, listOf SV.toArray cS) :: (RA, listOf RV.toArray cR) :: news)) (hop : TabOk op) (h753 : ∀ p ∈ (SA, listOf SV.toArray cS) :: (RA, listOf RV.toArray cR) :: news, p.1 ≠ 753) (G : AllBare s.gens) (hS : IntsAre SV sz) (hR : IntsAre RV ns) (hsz : ∀ x ∈ sz, 1 ≤ x ∧ x ≤ 4) (hl1 : 1 ≤ sz.length) (hl2 : sz.length ≤ 4) (hok : RowOk 0 sz ns (sz.map fun _ => [])) (hd : dp < 310) (hu : un < 500)
    (hret : ∀ (M : Int) (ST : Addr) (cST : Nat) (ks : List (Addr × Obj)) (op' : Obj) (h₁ h' : Heap) (tk' : Nat) (gens' : Array GenState), M ∈ sz → (∀ x ∈ sz, x ≤ M) → TabOk op' → AllBare gens' → Kids ks (turnsG sz (ns, sz.map fun _ => []) M.toNat).2 → KtsTurn (outer.filterMap (·.frame)) h₀ h₁ → Below A₀ base outer h₁ → Fr h₁ L h' m → News h₁ L h' ((ST, listOf (List.map (fun k => Value.ref k.1) ks).toArray cST) :: (ks ++ (753, op') :: (SA, listOf SV.toArray cS) :: news)) → Q (.ref ST) { s with heap := h', toks := tk', gens := gens' }),
    wpAny (model PySem.Challenge.rw_nq0213_01.prog w) (ktrTop dp un gd cn cs L a ccd cl outer) (call (.ref 771) [.ref SA, .ref RA]) Q E s := by
  intro w mean mg mb dp un gd cn cs a ccd cl outer A₀ base h₀ L m s Q E news op SA RA SV RV cS cR sz ns B F XB TB hk N hop h753 G hS hR hsz hl1 hl2 hok hd hu hret
  have := recLim
  have X := XB.keeps B.stays
  have T := TB.keeps B.stays
  refine wpAny_call ?_
  k_dflt (refine' code_defT ?k1 ?k2 ?k3 ?k4 ?k5 ?kA ?kF ?kK ?k6 ?k7 ?k8 ?k9 ?kB ?_ ?c2 ?c3 ?c4 ?c5; (case kA => exact rfl); (case kF => exact rfl); (case kK => first | exact rfl | assumption); (case k1 => k_asm); (case k2 => k_asm); (case k3 => k_asm); (case k4 => k_asm); (case k5 => k_asm); (case k6 => k_is); (case k7 => k_is); (case k8 => ktr_room); (case k9 => first | exact BindsTo.of_eq rfl | exact binds_K (by k_in) rfl (by k_is) rfl rfl rfl); (case c5 => decide); (case kB => exact locs rfl); (case c2 => exact rfl); (case c3 => exact rfl); (case c4 => exact rfl); k_whole)
  intro g1 L1 hp1 FG1 F1 N1 B1 X1 T1
  (try dsimp only)
  (try k_lift B1)
  replace F1 := Fr.re (m' := fun y => if y = "row" then some (.ref RA) else if y = "sizes" then some (.ref SA) else none) F1 (fun y => look_chain [(("row" : Str), (.ref RA : Value)), (("sizes" : Str), (.ref SA : Value))] y)
  (try k_fold)
  repeat' ((fail_if_success (with_reducible show wpAny _ _ (exec (Stmt.Assign [Expr.Name (Str.ofString "struck") _] _ _) _) _ _ _)); first | (k_unfold; (try dsimp only)) | (k_end; wrow_close) | (with_reducible ((with_reducible show wpAny _ _ (call (Value.type "str") _) _ _ _); (k_dflt (refine' str_int ?hzk1 ?_; (case hzk1 => with_reducible assumption); k_whole; intro _ _; (try dsimp only); (try k_fold))))) | (with_reducible ((with_reducible show wpAny _ _ (call (Value.type "int") _) _ _ _); (k_dflt (refine' KIN.call_text ?hzk1 ?hzk2 ?_; (case hzk1 => with_reducible assumption); (case hzk2 => with_reducible assumption); k_whole)))) | (with_reducible ((with_reducible show wpAny _ _ (binaryOp Operator.Mult (Value.str _ _) (Value.int _ _)) _ _ _); (k_dflt (refine' mul_blank ?hzk1 ?_; (case hzk1 => with_reducible assumption); k_whole; intro _ _ _ _ _; (try dsimp only); (try k_fold))))) | (with_reducible ((with_reducible show wpAny _ _ (inplaceOp Operator.Add (Value.str _ _) (Value.str _ _)) _ _ _); (k_dflt (refine' iadd_v ?hzk1 ?hzk2 ?_; (case hzk1 => first | omega | decide); (case hzk2 => first | decide | omega); k_whole; intro _ _ _ _ _; (try dsimp only); (try k_fold))))) | (with_reducible ((with_reducible show wpAny _ _ (binaryOp Operator.Add (Value.str _ _) (Value.str _ _)) _ _ _); (k_dflt (refine' add_v ?hzk1 ?hzk2 ?_; (case hzk1 => first | omega | decide); (case hzk2 => first | decide | omega); k_whole; intro _ _ _ _ _; (try dsimp only); (try k_fold))))) | (with_reducible ((with_reducible show wpAny _ _ (subscriptTail (PySem.Expr.Name _ _) (PySem.Expr.Slice _ _ _ _) _ _) _ _ _); ((with_reducible show wpAny _ _ (subscriptTail _ (PySem.Expr.Slice _ _ none _) (Value.ref _) (Value.ref _)) _ _ _); k_dflt (refine' kmk_slice_ints ?hzF ?hzN ?hzl ?hzp ?hzq ?hzi ?hzm ?hzc ?_ ?hzs ?hzt ?hzz; (case hzF => k_asm); (case hzN => k_asm); (case hzl => is_list); (case hzp => first | exact IsPart.none | exact IsPart.int _ _); (case hzq => first | exact IsPart.none | exact IsPart.int _ _); (case hzi => with_reducible assumption); (case hzm => first | exact kmk_upto (by with_reducible assumption) (by omega) | exact kmk_from (by with_reducible assumption) (by omega)); (case hzc => exact rfl); (case hzs => with_unfolding_all rfl); (case hzt => (intro _; rfl)); (case hzz => with_reducible assumption)); intro _ _ _ _ _ _ _ _ _; (try dsimp only); (try k_fold)))) | (with_reducible ((with_reducible show wpAny _ _ (subscriptTail (PySem.Expr.Name _ _) (PySem.Expr.BinOp _ _ _ _) _ _) _ _ _); ((with_reducible show wpAny _ _ (subscriptTail _ _ (Value.ref _) (Value.int _ _)) _ _ _); k_dflt (refine' item_l ?hzk1 ?hzk2 ?hzk3 ?hzk4 ?_ ?hzk6; (case hzk1 => is_list); (case hzk4 => with_reducible assumption); (case hzk2 => omega); (case hzk3 => omega); (case hzk6 => with_unfolding_all rfl); k_whole)))) | (with_reducible ((with_reducible show wpAny _ _ (subscriptTail (PySem.Expr.Name _ _) (PySem.Expr.Name _ _) _ _) _ _ _); ((with_reducible show wpAny _ _ (subscriptTail _ _ (Value.ref _) (Value.int _ _)) _ _ _); k_dflt (refine' item_l ?hzk1 ?hzk2 ?hzk3 ?hzk4 ?_ ?hzk6; (case hzk1 => is_list); (case hzk4 => with_reducible assumption); (case hzk2 => omega); (case hzk3 => omega); (case hzk6 => with_unfolding_all rfl); k_whole)))) | (with_reducible ((with_reducible show wpAny _ _ (call (Value.type "range") _) _ _ _); (k_dflt (refine' range1_rows ?hzk1 ?hzk2 ?_; (case hzk1 => k_asm); (case hzk2 => k_asm); k_whole; intro _ _ _ _ _ _ _ _ _; (try dsimp only); (try k_fold))))) | (with_reducible ((with_reducible show wpAny _ _ (call (Value.builtin "max") _) _ _ _); (k_dflt (refine' max_list_N ?hzk1 ?hzk2 ?hzk3 ?hzk4 ?hzk5 ?hzk6 ?_; (case hzk1 => exact rfl); (case hzk2 => k_asm); (case hzk3 => k_asm); (case hzk4 => is_list); (case hzk5 => with_reducible assumption); (case hzk6 => omega); k_whole; intro _ _ _ _ _ _ _ _; (try dsimp only); (try k_fold))))) | (with_reducible ((with_reducible show wpAny _ _ (inplaceOp Operator.Add (Value.str _ _) (Value.str (Str.mk #[_]) _)) _ _ _); refine iadd1 (by with_reducible assumption) ?_; intro _ _)) | (with_reducible ((with_reducible show wpAny _ _ (PySem.truthy (Value.str _ _)) _ _ _); refine truthy_yes (by with_reducible assumption) (by with_reducible assumption) ?_)) | (with_reducible ((with_reducible show wpAny _ _ (execs _ _) _ _ _); (first | k_gentoks | ((with_reducible refine execs_one ?_); try dsimp only)))) | (with_reducible (with_reducible refine wpAny_If ?_)) | (with_reducible (first | (refine ite_isFalse (by with_reducible assumption) ?_) | (refine ite_pos (by with_reducible assumption) ?_) | (refine ite_neg (by with_reducible assumption) ?_))) | walk1 | dsimp only | (dsimp only; walk1) | (leave1; (try dsimp only)) | fail "no step")
  refine' struck_comp (w := w) rfl F1 N1 (news_isList N1 (.tail _ (.head _))) ⟨_, .tail _ (.head _)⟩ rfl (by rw [IntsAre.length hS]; omega) rfl rfl rfl ?k7 rfl (by decide) rfl (by decide) rfl ?_
  case k7 => with_unfolding_all rfl
  intro ST ks cST h2 tk2 hK hnd hksT hnw F2 N2
  have hlS := IntsAre.length hS
  have N2' : News g1 L1 h2 ((753, op) :: (RA, listOf RV.toArray cR) :: (SA, listOf SV.toArray cS) :: (ST, listOf (List.map (fun k => Value.ref k.1) ks).toArray cST) :: (ks ++ news)) := fun p hp => N2 p (sq_a hp)
  clear N2 F1 N1
  repeat' ((fail_if_success (with_reducible show wpAny _ _ (exec (Stmt.For _ _ _ _ _) _) _ _ _)); first | (k_unfold; (try dsimp only)) | (k_end; wrow_close) | (with_reducible ((with_reducible show wpAny _ _ (call (Value.type "str") _) _ _ _); (k_dflt (refine' str_int ?hzk1 ?_; (case hzk1 => with_reducible assumption); k_whole; intro _ _; (try dsimp only); (try k_fold))))) | (with_reducible ((with_reducible show wpAny _ _ (call (Value.type "int") _) _ _ _); (k_dflt (refine' KIN.call_text ?hzk1 ?hzk2 ?_; (case hzk1 => with_reducible assumption); (case hzk2 => with_reducible assumption); k_whole)))) | (with_reducible ((with_reducible show wpAny _ _ (binaryOp Operator.Mult (Value.str _ _) (Value.int _ _)) _ _ _); (k_dflt (refine' mul_blank ?hzk1 ?_; (case hzk1 => with_reducible assumption); k_whole; intro _ _ _ _ _; (try dsimp only); (try k_fold))))) | (with_reducible ((with_reducible show wpAny _ _ (inplaceOp Operator.Add (Value.str _ _) (Value.str _ _)) _ _ _); (k_dflt (refine' iadd_v ?hzk1 ?hzk2 ?_; (case hzk1 => first | omega | decide); (case hzk2 => first | decide | omega); k_whole; intro _ _ _ _ _; (try dsimp only); (try k_fold))))) | (with_reducible ((with_reducible show wpAny _ _ (binaryOp Operator.Add (Value.str _ _) (Value.str _ _)) _ _ _); (k_dflt (refine' add_v ?hzk1 ?hzk2 ?_; (case hzk1 => first | omega | decide); (case hzk2 => first | decide | omega); k_whole; intro _ _ _ _ _; (try dsimp only); (try k_fold))))) | (with_reducible ((with_reducible show wpAny _ _ (subscriptTail (PySem.Expr.Name _ _) (PySem.Expr.Slice _ _ _ _) _ _) _ _ _); ((with_reducible show wpAny _ _ (subscriptTail _ (PySem.Expr.Slice _ _ none _) (Value.ref _) (Value.ref _)) _ _ _); k_dflt (refine' kmk_slice_ints ?hzF ?hzN ?hzl ?hzp ?hzq ?hzi ?hzm ?hzc ?_ ?hzs ?hzt ?hzz; (case hzF => k_asm); (case hzN => k_asm); (case hzl => is_list); (case hzp => first | exact IsPart.none | exact IsPart.int _ _); (case hzq => first | exact IsPart.none | exact IsPart.int _ _); (case hzi => with_reducible assumption); (case hzm => first | exact kmk_upto (by with_reducible assumption) (by omega) | exact kmk_from (by with_reducible assumption) (by omega)); (case hzc => exact rfl); (case hzs => with_unfolding_all rfl); (case hzt => (intro _; rfl)); (case hzz => with_reducible assumption)); intro _ _ _ _ _ _ _ _ _; (try dsimp only); (try k_fold)))) | (with_reducible ((with_reducible show wpAny _ _ (subscriptTail (PySem.Expr.Name _ _) (PySem.Expr.BinOp _ _ _ _) _ _) _ _ _); ((with_reducible show wpAny _ _ (subscriptTail _ _ (Value.ref _) (Value.int _ _)) _ _ _); k_dflt (refine' item_l ?hzk1 ?hzk2 ?hzk3 ?hzk4 ?_ ?hzk6; (case hzk1 => is_list); (case hzk4 => with_reducible assumption); (case hzk2 => omega); (case hzk3 => omega); (case hzk6 => with_unfolding_all rfl); k_whole)))) | (with_reducible ((with_reducible show wpAny _ _ (subscriptTail (PySem.Expr.Name _ _) (PySem.Expr.Name _ _) _ _) _ _ _); ((with_reducible show wpAny _ _ (subscriptTail _ _ (Value.ref _) (Value.int _ _)) _ _ _); k_dflt (refine' item_l ?hzk1 ?hzk2 ?hzk3 ?hzk4 ?_ ?hzk6; (case hzk1 => is_list); (case hzk4 => with_reducible assumption); (case hzk2 => omega); (case hzk3 => omega); (case hzk6 => with_unfolding_all rfl); k_whole)))) | (with_reducible ((with_reducible show wpAny _ _ (call (Value.type "range") _) _ _ _); (k_dflt (refine' range1_rows ?hzk1 ?hzk2 ?_; (case hzk1 => k_asm); (case hzk2 => k_asm); k_whole; intro _ _ _ _ _ _ _ _ _; (try dsimp only); (try k_fold))))) | (with_reducible ((with_reducible show wpAny _ _ (call (Value.builtin "max") _) _ _ _); (k_dflt (refine' max_list_N ?hzk1 ?hzk2 ?hzk3 ?hzk4 ?hzk5 ?hzk6 ?_; (case hzk1 => exact rfl); (case hzk2 => k_asm); (case hzk3 => k_asm); (case hzk4 => is_list); (case hzk5 => with_reducible assumption); (case hzk6 => omega); k_whole; intro _ _ _ _ _ _ _ _; (try dsimp only); (try k_fold))))) | (with_reducible ((with_reducible show wpAny _ _ (inplaceOp Operator.Add (Value.str _ _) (Value.str (Str.mk #[_]) _)) _ _ _); refine iadd1 (by with_reducible assumption) ?_; intro _ _)) | (with_reducible ((with_reducible show wpAny _ _ (PySem.truthy (Value.str _ _)) _ _ _); refine truthy_yes (by with_reducible assumption) (by with_reducible assumption) ?_)) | (with_reducible ((with_reducible show wpAny _ _ (execs _ _) _ _ _); (first | k_gentoks | ((with_reducible refine execs_one ?_); try dsimp only)))) | (with_reducible (with_reducible refine wpAny_If ?_)) | (with_reducible (first | (refine ite_isFalse (by with_reducible assumption) ?_) | (refine ite_pos (by with_reducible assumption) ?_) | (refine ite_neg (by with_reducible assumption) ?_))) | walk1 | dsimp only | (dsimp only; walk1) | (leave1; (try dsimp only)) | fail "no step")
  refine wpAny_For ?_
  repeat' ((fail_if_success (with_reducible show wpAny _ _ (pyIter _) _ _ _)); first | (k_unfold; (try dsimp only)) | (k_end; wrow_close) | (with_reducible ((with_reducible show wpAny _ _ (call (Value.type "str") _) _ _ _); (k_dflt (refine' str_int ?hzk1 ?_; (case hzk1 => with_reducible assumption); k_whole; intro _ _; (try dsimp only); (try k_fold))))) | (with_reducible ((with_reducible show wpAny _ _ (call (Value.type "int") _) _ _ _); (k_dflt (refine' KIN.call_text ?hzk1 ?hzk2 ?_; (case hzk1 => with_reducible assumption); (case hzk2 => with_reducible assumption); k_whole)))) | (with_reducible ((with_reducible show wpAny _ _ (binaryOp Operator.Mult (Value.str _ _) (Value.int _ _)) _ _ _); (k_dflt (refine' mul_blank ?hzk1 ?_; (case hzk1 => with_reducible assumption); k_whole; intro _ _ _ _ _; (try dsimp only); (try k_fold))))) | (with_reducible ((with_reducible show wpAny _ _ (inplaceOp Operator.Add (Value.str _ _) (Value.str _ _)) _ _ _); (k_dflt (refine' iadd_v ?hzk1 ?hzk2 ?_; (case hzk1 => first | omega | decide); (case hzk2 => first | decide | omega); k_whole; intro _ _ _ _ _; (try dsimp only); (try k_fold))))) | (with_reducible ((with_reducible show wpAny _ _ (binaryOp Operator.Add (Value.str _ _) (Value.str _ _)) _ _ _); (k_dflt (refine' add_v ?hzk1 ?hzk2 ?_; (case hzk1 => first | omega | decide); (case hzk2 => first | decide | omega); k_whole; intro _ _ _ _ _; (try dsimp only); (try k_fold))))) | (with_reducible ((with_reducible show wpAny _ _ (subscriptTail (PySem.Expr.Name _ _) (PySem.Expr.Slice _ _ _ _) _ _) _ _ _); ((with_reducible show wpAny _ _ (subscriptTail _ (PySem.Expr.Slice _ _ none _) (Value.ref _) (Value.ref _)) _ _ _); k_dflt (refine' kmk_slice_ints ?hzF ?hzN ?hzl ?hzp ?hzq ?hzi ?hzm ?hzc ?_ ?hzs ?hzt ?hzz; (case hzF => k_asm); (case hzN => k_asm); (case hzl => is_list); (case hzp => first | exact IsPart.none | exact IsPart.int _ _); (case hzq => first | exact IsPart.none | exact IsPart.int _ _); (case hzi => with_reducible assumption); (case hzm => first | exact kmk_upto (by with_reducible assumption) (by omega) | exact kmk_from (by with_reducible assumption) (by omega)); (case hzc => exact rfl); (case hzs => with_unfolding_all rfl); (case hzt => (intro _; rfl)); (case hzz => with_reducible assumption)); intro _ _ _ _ _ _ _ _ _; (try dsimp only); (try k_fold)))) | (with_reducible ((with_reducible show wpAny _ _ (subscriptTail (PySem.Expr.Name _ _) (PySem.Expr.BinOp _ _ _ _) _ _) _ _ _); ((with_reducible show wpAny _ _ (subscriptTail _ _ (Value.ref _) (Value.int _ _)) _ _ _); k_dflt (refine' item_l ?hzk1 ?hzk2 ?hzk3 ?hzk4 ?_ ?hzk6; (case hzk1 => is_list); (case hzk4 => with_reducible assumption); (case hzk2 => omega); (case hzk3 => omega); (case hzk6 => with_unfolding_all rfl); k_whole)))) | (with_reducible ((with_reducible show wpAny _ _ (subscriptTail (PySem.Expr.Name _ _) (PySem.Expr.Name _ _) _ _) _ _ _); ((with_reducible show wpAny _ _ (subscriptTail _ _ (Value.ref _) (Value.int _ _)) _ _ _); k_dflt (refine' item_l ?hzk1 ?hzk2 ?hzk3 ?hzk4 ?_ ?hzk6; (case hzk1 => is_list); (case hzk4 => with_reducible assumption); (case hzk2 => omega); (case hzk3 => omega); (case hzk6 => with_unfolding_all rfl); k_whole)))) | (with_reducible ((with_reducible show wpAny _ _ (call (Value.type "range") _) _ _ _); (k_dflt (refine' range1_rows ?hzk1 ?hzk2 ?_; (case hzk1 => k_asm); (case hzk2 => k_asm); k_whole; intro _ _ _ _ _ _ _ _ _; (try dsimp only); (try k_fold))))) | (with_reducible ((with_reducible show wpAny _ _ (call (Value.builtin "max") _) _ _ _); (k_dflt (refine' max_list_N ?hzk1 ?hzk2 ?hzk3 ?hzk4 ?hzk5 ?hzk6 ?_; (case hzk1 => exact rfl); (case hzk2 => k_asm); (case hzk3 => k_asm); (case hzk4 => is_list); (case hzk5 => with_reducible assumption); (case hzk6 => omega); k_whole; intro _ _ _ _ _ _ _ _; (try dsimp only); (try k_fold))))) | (with_reducible ((with_reducible show wpAny _ _ (inplaceOp Operator.Add (Value.str _ _) (Value.str (Str.mk #[_]) _)) _ _ _); refine iadd1 (by with_reducible assumption) ?_; intro _ _)) | (with_reducible ((with_reducible show wpAny _ _ (PySem.truthy (Value.str _ _)) _ _ _); refine truthy_yes (by with_reducible assumption) (by with_reducible assumption) ?_)) | (with_reducible ((with_reducible show wpAny _ _ (execs _ _) _ _ _); (first | k_gentoks | ((with_reducible refine execs_one ?_); try dsimp only)))) | (with_reducible (with_reducible refine wpAny_If ?_)) | (with_reducible (first | (refine ite_isFalse (by with_reducible assumption) ?_) | (refine ite_pos (by with_reducible assumption) ?_) | (refine ite_neg (by with_reducible assumption) ?_))) | walk1 | dsimp only | (dsimp only; walk1) | (leave1; (try dsimp only)) | fail "no step")
  rename Int => M
  rename (M ∈ sz) => hMs
  rename (∀ x, x ∈ sz → x ≤ M) => hMx
  rename IsRange _ _ _ _ _ _ _ _ => hr
  rename Fr g1 L1 _ _ => F3
  rename News g1 L1 _ _ => N3
  have hM := hsz _ hMs
  refine rng_iter F3 N3 hr (by omega) (by omega) ?_
  intro it h4 F4 N4 hit
  clear F3 N3 F2 N2' hr
  obtain ⟨P0, hP0⟩ : ∃ p : List Int × List (List Int), p = (ns, sz.map fun _ => []) := ⟨_, rfl⟩
  have hMc : ((M.toNat : Nat) : Int) = M := Int.toNat_of_nonneg (by omega)
  have kin : ∀ {ks' : List (Addr × Obj)}, ks'.map (·.1) = ks.map (·.1) → ∀ k' ∈ ks', ∃ k ∈ ks, k.1 = k'.1 := fun {ks'} e k' hk' => by
    have : k'.1 ∈ ks.map (·.1) := by rw [← e]; exact List.mem_map.mpr ⟨k', hk', rfl⟩
    obtain ⟨k, h1, h2⟩ := List.mem_map.mp this
    exact ⟨k, h1, h2⟩
  have kRef : ∀ {ks' : List (Addr × Obj)}, ks'.map (·.1) = ks.map (·.1) → List.map (fun k => Value.ref k.1) ks = List.map (fun k => Value.ref k.1) ks' := fun {ks'} e => by
    have := congrArg (List.map Value.ref) e
    simpa [List.map_map, Function.comp_def] using this.symm
  have itw : ∀ p ∈ news, p.1 ≠ it := fun p hp => hit p (mt4 (mapR hp))
  have itk : ∀ k ∈ ks, k.1 ≠ it := fun p hp => hit p (mt4 (mapL hp))
  have itS : SA ≠ it := hit (SA, listOf SV.toArray cS) me2
  have itT : ST ≠ it := hit (ST, listOf (List.map (fun k => Value.ref k.1) ks).toArray cST) me3
  have it753 : (753 : Addr) ≠ it := hit (753, op) me0
  have wK : ∀ p ∈ news, ∀ k ∈ ks, p.1 ≠ k.1 := fun p hp => (hnw p (mt3 hp)).2
  have sK : ∀ k ∈ ks, SA ≠ k.1 := (hnw (SA, listOf SV.toArray cS) me1).2
  have xK : ∀ k ∈ ks, (753 : Addr) ≠ k.1 := (hnw (753, op) me0).2
  have rK : ∀ k ∈ ks, RA ≠ k.1 := (hnw (RA, listOf RV.toArray cR) me2).2
  have tW : ∀ p ∈ news, p.1 ≠ ST := fun p hp => (hnw p (mt3 hp)).1
  have tS : SA ≠ ST := (hnw (SA, listOf SV.toArray cS) me1).1
  have tX : (753 : Addr) ≠ ST := (hnw (753, op) me0).1
  have tR : RA ≠ ST := (hnw (RA, listOf RV.toArray cR) me2).1
  have xW : ∀ p ∈ news, p.1 ≠ 753 := fun p hp => h753 p (mt2 hp)
  have xS : SA ≠ 753 := h753 (SA, listOf SV.toArray cS) me0
  have xR : RA ≠ 753 := h753 (RA, listOf RV.toArray cR) me1
  have itR : RA ≠ it := hit (RA, listOf RV.toArray cR) me1
  refine for_inv_q (SIo s M it dp un gd cn cs L a ccd cl outer base g1 L1 SA ST SV cS cST ks news sz P0) (SJo s M it dp un gd cn cs L a ccd cl outer base g1 L1 SA ST SV cS cST ks news sz P0) M.toNat ?hinit ?turn ?post (by intro _; rfl)
  case hinit =>
    refine ⟨0, _, _, _, g1, op, RA, RV, cR, ks, _, rfl, itR, rfl, G, hop, .refl, B1, Fr.re F4 (loc_at [("row", .ref RA), ("struck", .ref ST), ("sizes", .ref SA)] (.cons rfl (.cons rfl (.cons rfl .nil)))), ?_, ?_, rfl, ?_, xR, tR, rK, ?_⟩
    · rw [hP0]; exact hR
    · rw [hP0]
      show Kids ks (sz.map fun _ => [])
      have e : (sz.map fun _ => ([] : List Int)) = SV.map fun _ => [] := by rw [List.map_const', List.map_const', hlS]
      rw [e]; exact hK
    · rw [hP0]; exact hok
    · rw [hMc]; exact N4
  case post =>
    rintro s' ⟨t, h', tk', gens', g, op', RA', RV', cR', ks', junk, hnt, rfl, hG', hop', KT, Bg, Fg, hRV, hKs, hka, hrow, e753, eST, eks, Ng⟩
    subst hnt
    have Xg := XB.keeps Bg.stays
    have Tg := TB.keeps Bg.stays
    clear F4 N4
    (try dsimp only)
    repeat' (first | (k_unfold; (try dsimp only)) | (k_end; wrow_close) | (with_reducible ((with_reducible show wpAny _ _ (call (Value.type "str") _) _ _ _); (k_dflt (refine' str_int ?hzk1 ?_; (case hzk1 => with_reducible assumption); k_whole; intro _ _; (try dsimp only); (try k_fold))))) | (with_reducible ((with_reducible show wpAny _ _ (call (Value.type "int") _) _ _ _); (k_dflt (refine' KIN.call_text ?hzk1 ?hzk2 ?_; (case hzk1 => with_reducible assumption); (case hzk2 => with_reducible assumption); k_whole)))) | (with_reducible ((with_reducible show wpAny _ _ (binaryOp Operator.Mult (Value.str _ _) (Value.int _ _)) _ _ _); (k_dflt (refine' mul_blank ?hzk1 ?_; (case hzk1 => with_reducible assumption); k_whole; intro _ _ _ _ _; (try dsimp only); (try k_fold))))) | (with_reducible ((with_reducible show wpAny _ _ (inplaceOp Operator.Add (Value.str _ _) (Value.str _ _)) _ _ _); (k_dflt (refine' iadd_v ?hzk1 ?hzk2 ?_; (case hzk1 => first | omega | decide); (case hzk2 => first | decide | omega); k_whole; intro _ _ _ _ _; (try dsimp only); (try k_fold))))) | (with_reducible ((with_reducible show wpAny _ _ (binaryOp Operator.Add (Value.str _ _) (Value.str _ _)) _ _ _); (k_dflt (refine' add_v ?hzk1 ?hzk2 ?_; (case hzk1 => first | omega | decide); (case hzk2 => first | decide | omega); k_whole; intro _ _ _ _ _; (try dsimp only); (try k_fold))))) | (with_reducible ((with_reducible show wpAny _ _ (subscriptTail (PySem.Expr.Name _ _) (PySem.Expr.Slice _ _ _ _) _ _) _ _ _); ((with_reducible show wpAny _ _ (subscriptTail _ (PySem.Expr.Slice _ _ none _) (Value.ref _) (Value.ref _)) _ _ _); k_dflt (refine' kmk_slice_ints ?hzF ?hzN ?hzl ?hzp ?hzq ?hzi ?hzm ?hzc ?_ ?hzs ?hzt ?hzz; (case hzF => k_asm); (case hzN => k_asm); (case hzl => is_list); (case hzp => first | exact IsPart.none | exact IsPart.int _ _); (case hzq => first | exact IsPart.none | exact IsPart.int _ _); (case hzi => with_reducible assumption); (case hzm => first | exact kmk_upto (by with_reducible assumption) (by omega) | exact kmk_from (by with_reducible assumption) (by omega)); (case hzc => exact rfl); (case hzs => with_unfolding_all rfl); (case hzt => (intro _; rfl)); (case hzz => with_reducible assumption)); intro _ _ _ _ _ _ _ _ _; (try dsimp only); (try k_fold)))) | (with_reducible ((with_reducible show wpAny _ _ (subscriptTail (PySem.Expr.Name _ _) (PySem.Expr.BinOp _ _ _ _) _ _) _ _ _); ((with_reducible show wpAny _ _ (subscriptTail _ _ (Value.ref _) (Value.int _ _)) _ _ _); k_dflt (refine' item_l ?hzk1 ?hzk2 ?hzk3 ?hzk4 ?_ ?hzk6; (case hzk1 => is_list); (case hzk4 => with_reducible assumption); (case hzk2 => omega); (case hzk3 => omega); (case hzk6 => with_unfolding_all rfl); k_whole)))) | (with_reducible ((with_reducible show wpAny _ _ (subscriptTail (PySem.Expr.Name _ _) (PySem.Expr.Name _ _) _ _) _ _ _); ((with_reducible show wpAny _ _ (subscriptTail _ _ (Value.ref _) (Value.int _ _)) _ _ _); k_dflt (refine' item_l ?hzk1 ?hzk2 ?hzk3 ?hzk4 ?_ ?hzk6; (case hzk1 => is_list); (case hzk4 => with_reducible assumption); (case hzk2 => omega); (case hzk3 => omega); (case hzk6 => with_unfolding_all rfl); k_whole)))) | (with_reducible ((with_reducible show wpAny _ _ (call (Value.type "range") _) _ _ _); (k_dflt (refine' range1_rows ?hzk1 ?hzk2 ?_; (case hzk1 => k_asm); (case hzk2 => k_asm); k_whole; intro _ _ _ _ _ _ _ _ _; (try dsimp only); (try k_fold))))) | (with_reducible ((with_reducible show wpAny _ _ (call (Value.builtin "max") _) _ _ _); (k_dflt (refine' max_list_N ?hzk1 ?hzk2 ?hzk3 ?hzk4 ?hzk5 ?hzk6 ?_; (case hzk1 => exact rfl); (case hzk2 => k_asm); (case hzk3 => k_asm); (case hzk4 => is_list); (case hzk5 => with_reducible assumption); (case hzk6 => omega); k_whole; intro _ _ _ _ _ _ _ _; (try dsimp only); (try k_fold))))) | (with_reducible ((with_reducible show wpAny _ _ (inplaceOp Operator.Add (Value.str _ _) (Value.str (Str.mk #[_]) _)) _ _ _); refine iadd1 (by with_reducible assumption) ?_; intro _ _)) | (with_reducible ((with_reducible show wpAny _ _ (PySem.truthy (Value.str _ _)) _ _ _); refine truthy_yes (by with_reducible assumption) (by with_reducible assumption) ?_)) | (with_reducible ((with_reducible show wpAny _ _ (execs _ _) _ _ _); (first | k_gentoks | ((with_reducible refine execs_one ?_); try dsimp only)))) | (with_reducible (with_reducible refine wpAny_If ?_)) | (with_reducible (first | (refine ite_isFalse (by with_reducible assumption) ?_) | (refine ite_pos (by with_reducible assumption) ?_) | (refine ite_neg (by with_reducible assumption) ?_))) | walk1 | dsimp only | (dsimp only; walk1) | (leave1; (try dsimp only)) | fail "no step")
    obtain ⟨h₀', KT', B'', F'', N''⟩ := leave_turn B FG1 rfl KT Fg Ng
    refine hret M ST cST ks' op' h₀' h' _ gens' hMs hMx hop' hG' ?_ KT' B'' F'' ?_
    · rw [← hP0]; exact hKs
    · intro p hp
      rw [← kRef hka] at hp
      exact N'' p (sq_b hp)
  case turn =>
    rintro n s' ⟨t, h', tk', gens', g, op', RA', RV', cR', ks', junk, hnt, eit, rfl, hG', hop', KT, Bg, Fg, hRV, hKs, hka, hrow, e753, eST, eks, Ng⟩ QP1 hno1 hso1
    have Xg := XB.keeps Bg.stays
    have Tg := TB.keeps Bg.stays
    have hne : ∀ p ∈ ((753, op') :: (RA', listOf (List.toArray RV') cR') :: (SA, listOf SV.toArray cS) :: (ST, listOf (List.map (fun k => Value.ref k.1) ks).toArray cST) :: (ks' ++ news)), p.1 ≠ it := ne_c it753 (ne_c eit (ne_c itS (ne_c itT (ne_a (fun p hp => by
        obtain ⟨k, h1, h2⟩ := kin hka p hp
        rw [← h2]; exact itk k h1) itw))))
    cases n with
    | zero =>
      refine rng_end rfl Fg Ng hne (by omega) ?_
      intro h5 F5 N5
      exact hno1 _ ⟨t, h5, tk', gens', g, op', RA', RV', cR', ks', junk, by omega, rfl, hG', hop', KT, Bg, F5, hRV, hKs, hka, hrow, e753, eST, eks, N5⟩
    | succ n =>
      refine rng_next Fg Ng hne (by omega) ?_
      intro h5 F5 N5
      clear F4 N4 Fg Ng
      refine hso1 _ _ (fun QQ1 hnx1 _ _ => ?_)
      clear hso1 hno1 QP1
      (try dsimp only)
      repeat' ((fail_if_success (with_reducible show wpAny _ _ (exec (Stmt.For _ _ _ _ _) _) _ _ _)); first | (k_unfold; (try dsimp only)) | (k_end; wrow_close) | (with_reducible ((with_reducible show wpAny _ _ (call (Value.type "str") _) _ _ _); (k_dflt (refine' str_int ?hzk1 ?_; (case hzk1 => with_reducible assumption); k_whole; intro _ _; (try dsimp only); (try k_fold))))) | (with_reducible ((with_reducible show wpAny _ _ (call (Value.type "int") _) _ _ _); (k_dflt (refine' KIN.call_text ?hzk1 ?hzk2 ?_; (case hzk1 => with_reducible assumption); (case hzk2 => with_reducible assumption); k_whole)))) | (with_reducible ((with_reducible show wpAny _ _ (binaryOp Operator.Mult (Value.str _ _) (Value.int _ _)) _ _ _); (k_dflt (refine' mul_blank ?hzk1 ?_; (case hzk1 => with_reducible assumption); k_whole; intro _ _ _ _ _; (try dsimp only); (try k_fold))))) | (with_reducible ((with_reducible show wpAny _ _ (inplaceOp Operator.Add (Value.str _ _) (Value.str _ _)) _ _ _); (k_dflt (refine' iadd_v ?hzk1 ?hzk2 ?_; (case hzk1 => first | omega | decide); (case hzk2 => first | decide | omega); k_whole; intro _ _ _ _ _; (try dsimp only); (try k_fold))))) | (with_reducible ((with_reducible show wpAny _ _ (binaryOp Operator.Add (Value.str _ _) (Value.str _ _)) _ _ _); (k_dflt (refine' add_v ?hzk1 ?hzk2 ?_; (case hzk1 => first | omega | decide); (case hzk2 => first | decide | omega); k_whole; intro _ _ _ _ _; (try dsimp only); (try k_fold))))) | (with_reducible ((with_reducible show wpAny _ _ (subscriptTail (PySem.Expr.Name _ _) (PySem.Expr.Slice _ _ _ _) _ _) _ _ _); ((with_reducible show wpAny _ _ (subscriptTail _ (PySem.Expr.Slice _ _ none _) (Value.ref _) (Value.ref _)) _ _ _); k_dflt (refine' kmk_slice_ints ?hzF ?hzN ?hzl ?hzp ?hzq ?hzi ?hzm ?hzc ?_ ?hzs ?hzt ?hzz; (case hzF => k_asm); (case hzN => k_asm); (case hzl => is_list); (case hzp => first | exact IsPart.none | exact IsPart.int _ _); (case hzq => first | exact IsPart.none | exact IsPart.int _ _); (case hzi => with_reducible assumption); (case hzm => first | exact kmk_upto (by with_reducible assumption) (by omega) | exact kmk_from (by with_reducible assumption) (by omega)); (case hzc => exact rfl); (case hzs => with_unfolding_all rfl); (case hzt => (intro _; rfl)); (case hzz => with_reducible assumption)); intro _ _ _ _ _ _ _ _ _; (try dsimp only); (try k_fold)))) | (with_reducible ((with_reducible show wpAny _ _ (subscriptTail (PySem.Expr.Name _ _) (PySem.Expr.BinOp _ _ _ _) _ _) _ _ _); ((with_reducible show wpAny _ _ (subscriptTail _ _ (Value.ref _) (Value.int _ _)) _ _ _); k_dflt (refine' item_l ?hzk1 ?hzk2 ?hzk3 ?hzk4 ?_ ?hzk6; (case hzk1 => is_list); (case hzk4 => with_reducible assumption); (case hzk2 => omega); (case hzk3 => omega); (case hzk6 => with_unfolding_all rfl); k_whole)))) | (with_reducible ((with_reducible show wpAny _ _ (subscriptTail (PySem.Expr.Name _ _) (PySem.Expr.Name _ _) _ _) _ _ _); ((with_reducible show wpAny _ _ (subscriptTail _ _ (Value.ref _) (Value.int _ _)) _ _ _); k_dflt (refine' item_l ?hzk1 ?hzk2 ?hzk3 ?hzk4 ?_ ?hzk6; (case hzk1 => is_list); (case hzk4 => with_reducible assumption); (case hzk2 => omega); (case hzk3 => omega); (case hzk6 => with_unfolding_all rfl); k_whole)))) | (with_reducible ((with_reducible show wpAny _ _ (call (Value.type "range") _) _ _ _); (k_dflt (refine' range1_rows ?hzk1 ?hzk2 ?_; (case hzk1 => k_asm); (case hzk2 => k_asm); k_whole; intro _ _ _ _ _ _ _ _ _; (try dsimp only); (try k_fold))))) | (with_reducible ((with_reducible show wpAny _ _ (call (Value.builtin "max") _) _ _ _); (k_dflt (refine' max_list_N ?hzk1 ?hzk2 ?hzk3 ?hzk4 ?hzk5 ?hzk6 ?_; (case hzk1 => exact rfl); (case hzk2 => k_asm); (case hzk3 => k_asm); (case hzk4 => is_list); (case hzk5 => with_reducible assumption); (case hzk6 => omega); k_whole; intro _ _ _ _ _ _ _ _; (try dsimp only); (try k_fold))))) | (with_reducible ((with_reducible show wpAny _ _ (inplaceOp Operator.Add (Value.str _ _) (Value.str (Str.mk #[_]) _)) _ _ _); refine iadd1 (by with_reducible assumption) ?_; intro _ _)) | (with_reducible ((with_reducible show wpAny _ _ (PySem.truthy (Value.str _ _)) _ _ _); refine truthy_yes (by with_reducible assumption) (by with_reducible assumption) ?_)) | (with_reducible ((with_reducible show wpAny _ _ (execs _ _) _ _ _); (first | k_gentoks | ((with_reducible refine execs_one ?_); try dsimp only)))) | (with_reducible (with_reducible refine wpAny_If ?_)) | (with_reducible (first | (refine ite_isFalse (by with_reducible assumption) ?_) | (refine ite_pos (by with_reducible assumption) ?_) | (refine ite_neg (by with_reducible assumption) ?_))) | walk1 | dsimp only | (dsimp only; walk1) | (leave1; (try dsimp only)) | fail "no step")
      rename Fr g L1 _ _ => F6
      rename News g L1 _ _ => N6
      (try clear F5)
      (try clear N5)
      refine wpAny_For ?_
      repeat' ((fail_if_success (with_reducible show wpAny _ _ (pyIter _) _ _ _)); first | (k_unfold; (try dsimp only)) | (k_end; wrow_close) | (with_reducible ((with_reducible show wpAny _ _ (call (Value.type "str") _) _ _ _); (k_dflt (refine' str_int ?hzk1 ?_; (case hzk1 => with_reducible assumption); k_whole; intro _ _; (try dsimp only); (try k_fold))))) | (with_reducible ((with_reducible show wpAny _ _ (call (Value.type "int") _) _ _ _); (k_dflt (refine' KIN.call_text ?hzk1 ?hzk2 ?_; (case hzk1 => with_reducible assumption); (case hzk2 => with_reducible assumption); k_whole)))) | (with_reducible ((with_reducible show wpAny _ _ (binaryOp Operator.Mult (Value.str _ _) (Value.int _ _)) _ _ _); (k_dflt (refine' mul_blank ?hzk1 ?_; (case hzk1 => with_reducible assumption); k_whole; intro _ _ _ _ _; (try dsimp only); (try k_fold))))) | (with_reducible ((with_reducible show wpAny _ _ (inplaceOp Operator.Add (Value.str _ _) (Value.str _ _)) _ _ _); (k_dflt (refine' iadd_v ?hzk1 ?hzk2 ?_; (case hzk1 => first | omega | decide); (case hzk2 => first | decide | omega); k_whole; intro _ _ _ _ _; (try dsimp only); (try k_fold))))) | (with_reducible ((with_reducible show wpAny _ _ (binaryOp Operator.Add (Value.str _ _) (Value.str _ _)) _ _ _); (k_dflt (refine' add_v ?hzk1 ?hzk2 ?_; (case hzk1 => first | omega | decide); (case hzk2 => first | decide | omega); k_whole; intro _ _ _ _ _; (try dsimp only); (try k_fold))))) | (with_reducible ((with_reducible show wpAny _ _ (subscriptTail (PySem.Expr.Name _ _) (PySem.Expr.Slice _ _ _ _) _ _) _ _ _); ((with_reducible show wpAny _ _ (subscriptTail _ (PySem.Expr.Slice _ _ none _) (Value.ref _) (Value.ref _)) _ _ _); k_dflt (refine' kmk_slice_ints ?hzF ?hzN ?hzl ?hzp ?hzq ?hzi ?hzm ?hzc ?_ ?hzs ?hzt ?hzz; (case hzF => k_asm); (case hzN => k_asm); (case hzl => is_list); (case hzp => first | exact IsPart.none | exact IsPart.int _ _); (case hzq => first | exact IsPart.none | exact IsPart.int _ _); (case hzi => with_reducible assumption); (case hzm => first | exact kmk_upto (by with_reducible assumption) (by omega) | exact kmk_from (by with_reducible assumption) (by omega)); (case hzc => exact rfl); (case hzs => with_unfolding_all rfl); (case hzt => (intro _; rfl)); (case hzz => with_reducible assumption)); intro _ _ _ _ _ _ _ _ _; (try dsimp only); (try k_fold)))) | (with_reducible ((with_reducible show wpAny _ _ (subscriptTail (PySem.Expr.Name _ _) (PySem.Expr.BinOp _ _ _ _) _ _) _ _ _); ((with_reducible show wpAny _ _ (subscriptTail _ _ (Value.ref _) (Value.int _ _)) _ _ _); k_dflt (refine' item_l ?hzk1 ?hzk2 ?hzk3 ?hzk4 ?_ ?hzk6; (case hzk1 => is_list); (case hzk4 => with_reducible assumption); (case hzk2 => omega); (case hzk3 => omega); (case hzk6 => with_unfolding_all rfl); k_whole)))) | (with_reducible ((with_reducible show wpAny _ _ (subscriptTail (PySem.Expr.Name _ _) (PySem.Expr.Name _ _) _ _) _ _ _); ((with_reducible show wpAny _ _ (subscriptTail _ _ (Value.ref _) (Value.int _ _)) _ _ _); k_dflt (refine' item_l ?hzk1 ?hzk2 ?hzk3 ?hzk4 ?_ ?hzk6; (case hzk1 => is_list); (case hzk4 => with_reducible assumption); (case hzk2 => omega); (case hzk3 => omega); (case hzk6 => with_unfolding_all rfl); k_whole)))) | (with_reducible ((with_reducible show wpAny _ _ (call (Value.type "range") _) _ _ _); (k_dflt (refine' range1_rows ?hzk1 ?hzk2 ?_; (case hzk1 => k_asm); (case hzk2 => k_asm); k_whole; intro _ _ _ _ _ _ _ _ _; (try dsimp only); (try k_fold))))) | (with_reducible ((with_reducible show wpAny _ _ (call (Value.builtin "max") _) _ _ _); (k_dflt (refine' max_list_N ?hzk1 ?hzk2 ?hzk3 ?hzk4 ?hzk5 ?hzk6 ?_; (case hzk1 => exact rfl); (case hzk2 => k_asm); (case hzk3 => k_asm); (case hzk4 => is_list); (case hzk5 => with_reducible assumption); (case hzk6 => omega); k_whole; intro _ _ _ _ _ _ _ _; (try dsimp only); (try k_fold))))) | (with_reducible ((with_reducible show wpAny _ _ (inplaceOp Operator.Add (Value.str _ _) (Value.str (Str.mk #[_]) _)) _ _ _); refine iadd1 (by with_reducible assumption) ?_; intro _ _)) | (with_reducible ((with_reducible show wpAny _ _ (PySem.truthy (Value.str _ _)) _ _ _); refine truthy_yes (by with_reducible assumption) (by with_reducible assumption) ?_)) | (with_reducible ((with_reducible show wpAny _ _ (execs _ _) _ _ _); (first | k_gentoks | ((with_reducible refine execs_one ?_); try dsimp only)))) | (with_reducible (with_reducible refine wpAny_If ?_)) | (with_reducible (first | (refine ite_isFalse (by with_reducible assumption) ?_) | (refine ite_pos (by with_reducible assumption) ?_) | (refine ite_neg (by with_reducible assumption) ?_))) | walk1 | dsimp only | (dsimp only; walk1) | (leave1; (try dsimp only)) | fail "no step")
      rename IsRange _ _ _ _ _ _ _ _ => hr2
      rename Fr g L1 _ _ => F7
      rename News g L1 _ _ => N7
      refine rng_iter F7 N7 hr2 (by omega) (by omega) ?_
      intro it2 h8 F8 N8 hit2
      clear F7 N7 hr2
      (try clear F6)
      (try clear N6)
      have jW : ∀ p ∈ news, p.1 ≠ it2 := fun p hp => hit2 p (mt5 (mapR hp))
      have jK : ∀ k ∈ ks, k.1 ≠ it2 := fun k hk => by
        have : k.1 ∈ ks'.map (·.1) := by rw [hka]; exact List.mem_map.mpr ⟨k, hk, rfl⟩
        obtain ⟨k', h1, h2⟩ := List.mem_map.mp this
        rw [← h2]
        exact hit2 k' (mt5 (mapL h1))
      have jS : SA ≠ it2 := hit2 (SA, listOf SV.toArray cS) me3
      have jT : ST ≠ it2 := hit2 (ST, listOf (List.map (fun k => Value.ref k.1) ks).toArray cST) me4
      have j753 : (753 : Addr) ≠ it2 := hit2 (753, op') me1
      have jR : RA' ≠ it2 := hit2 (RA', listOf (List.toArray RV') cR') me2
      have jit : it ≠ it2 := hit2 (it, rgObj ((t : Int) + 1) (((n + 1 : Nat) : Int) - 1) 1) me0
      have ht4 : t ≤ 3 := by omega
      refine for_inv_q (SIi s t n it it2 L1 SA ST g SV cS cST ks news sz P0) (SJi s t n it it2 L1 SA ST g SV cS cST ks news sz P0) sz.length ?hinit ?turn ?post (by intro _; rfl)
      case hinit =>
        refine ⟨0, _, _, _, op', RA', RV', cR', ks', _, _, _, _, rfl, jR, rfl, hG', hop', Fr.re F8 (loc_at [("row", .ref RA'), ("text", .str "" _), ("turn", .int (t : Int) _), ("struck", .ref ST), ("sizes", .ref SA)] (.cons rfl (.cons rfl (.cons rfl (.cons rfl (.cons rfl .nil)))))), ?_, ?_, hka, ?_, by decide, e753, eST, eks, eit, ?_⟩
        · exact hRV
        · exact hKs
        · exact TxtOk.nil
        · intro p hp
          exact N8 p (sq_c hp)
      case post =>
        rintro s' ⟨k, h2, tk2, gens2, op2, RA2, RV2, cR2, ks2, text, tx, tt, junk2, hnk, rfl, hG2, hop2, Fi, hRV2, hKs2, hka2, htx, htl, a1, a2, a3, a4, Ni⟩
        subst hnk
        clear F8 N8
        (try dsimp only)
        repeat' ((fail_if_success (with_reducible show wpAny _ _ (exec (Stmt.For _ _ _ _ _) _) _ _ _)); first | (k_unfold; (try dsimp only)) | (k_end; wrow_close) | (with_reducible ((with_reducible show wpAny _ _ (call (Value.type "str") _) _ _ _); (k_dflt (refine' str_int ?hzk1 ?_; (case hzk1 => with_reducible assumption); k_whole; intro _ _; (try dsimp only); (try k_fold))))) | (with_reducible ((with_reducible show wpAny _ _ (call (Value.type "int") _) _ _ _); (k_dflt (refine' KIN.call_text ?hzk1 ?hzk2 ?_; (case hzk1 => with_reducible assumption); (case hzk2 => with_reducible assumption); k_whole)))) | (with_reducible ((with_reducible show wpAny _ _ (binaryOp Operator.Mult (Value.str _ _) (Value.int _ _)) _ _ _); (k_dflt (refine' mul_blank ?hzk1 ?_; (case hzk1 => with_reducible assumption); k_whole; intro _ _ _ _ _; (try dsimp only); (try k_fold))))) | (with_reducible ((with_reducible show wpAny _ _ (inplaceOp Operator.Add (Value.str _ _) (Value.str _ _)) _ _ _); (k_dflt (refine' iadd_v ?hzk1 ?hzk2 ?_; (case hzk1 => first | omega | decide); (case hzk2 => first | decide | omega); k_whole; intro _ _ _ _ _; (try dsimp only); (try k_fold))))) | (with_reducible ((with_reducible show wpAny _ _ (binaryOp Operator.Add (Value.str _ _) (Value.str _ _)) _ _ _); (k_dflt (refine' add_v ?hzk1 ?hzk2 ?_; (case hzk1 => first | omega | decide); (case hzk2 => first | decide | omega); k_whole; intro _ _ _ _ _; (try dsimp only); (try k_fold))))) | (with_reducible ((with_reducible show wpAny _ _ (subscriptTail (PySem.Expr.Name _ _) (PySem.Expr.Slice _ _ _ _) _ _) _ _ _); ((with_reducible show wpAny _ _ (subscriptTail _ (PySem.Expr.Slice _ _ none _) (Value.ref _) (Value.ref _)) _ _ _); k_dflt (refine' kmk_slice_ints ?hzF ?hzN ?hzl ?hzp ?hzq ?hzi ?hzm ?hzc ?_ ?hzs ?hzt ?hzz; (case hzF => k_asm); (case hzN => k_asm); (case hzl => is_list); (case hzp => first | exact IsPart.none | exact IsPart.int _ _); (case hzq => first | exact IsPart.none | exact IsPart.int _ _); (case hzi => with_reducible assumption); (case hzm => first | exact kmk_upto (by with_reducible assumption) (by omega) | exact kmk_from (by with_reducible assumption) (by omega)); (case hzc => exact rfl); (case hzs => with_unfolding_all rfl); (case hzt => (intro _; rfl)); (case hzz => with_reducible assumption)); intro _ _ _ _ _ _ _ _ _; (try dsimp only); (try k_fold)))) | (with_reducible ((with_reducible show wpAny _ _ (subscriptTail (PySem.Expr.Name _ _) (PySem.Expr.BinOp _ _ _ _) _ _) _ _ _); ((with_reducible show wpAny _ _ (subscriptTail _ _ (Value.ref _) (Value.int _ _)) _ _ _); k_dflt (refine' item_l ?hzk1 ?hzk2 ?hzk3 ?hzk4 ?_ ?hzk6; (case hzk1 => is_list); (case hzk4 => with_reducible assumption); (case hzk2 => omega); (case hzk3 => omega); (case hzk6 => with_unfolding_all rfl); k_whole)))) | (with_reducible ((with_reducible show wpAny _ _ (subscriptTail (PySem.Expr.Name _ _) (PySem.Expr.Name _ _) _ _) _ _ _); ((with_reducible show wpAny _ _ (subscriptTail _ _ (Value.ref _) (Value.int _ _)) _ _ _); k_dflt (refine' item_l ?hzk1 ?hzk2 ?hzk3 ?hzk4 ?_ ?hzk6; (case hzk1 => is_list); (case hzk4 => with_reducible assumption); (case hzk2 => omega); (case hzk3 => omega); (case hzk6 => with_unfolding_all rfl); k_whole)))) | (with_reducible ((with_reducible show wpAny _ _ (call (Value.type "range") _) _ _ _); (k_dflt (refine' range1_rows ?hzk1 ?hzk2 ?_; (case hzk1 => k_asm); (case hzk2 => k_asm); k_whole; intro _ _ _ _ _ _ _ _ _; (try dsimp only); (try k_fold))))) | (with_reducible ((with_reducible show wpAny _ _ (call (Value.builtin "max") _) _ _ _); (k_dflt (refine' max_list_N ?hzk1 ?hzk2 ?hzk3 ?hzk4 ?hzk5 ?hzk6 ?_; (case hzk1 => exact rfl); (case hzk2 => k_asm); (case hzk3 => k_asm); (case hzk4 => is_list); (case hzk5 => with_reducible assumption); (case hzk6 => omega); k_whole; intro _ _ _ _ _ _ _ _; (try dsimp only); (try k_fold))))) | (with_reducible ((with_reducible show wpAny _ _ (inplaceOp Operator.Add (Value.str _ _) (Value.str (Str.mk #[_]) _)) _ _ _); refine iadd1 (by with_reducible assumption) ?_; intro _ _)) | (with_reducible ((with_reducible show wpAny _ _ (PySem.truthy (Value.str _ _)) _ _ _); refine truthy_yes (by with_reducible assumption) (by with_reducible assumption) ?_)) | (with_reducible ((with_reducible show wpAny _ _ (execs _ _) _ _ _); (first | k_gentoks | ((with_reducible refine execs_one ?_); try dsimp only)))) | (with_reducible (with_reducible refine wpAny_If ?_)) | (with_reducible (first | (refine ite_isFalse (by with_reducible assumption) ?_) | (refine ite_pos (by with_reducible assumption) ?_) | (refine ite_neg (by with_reducible assumption) ?_))) | walk1 | dsimp only | (dsimp only; walk1) | (leave1; (try dsimp only)) | fail "no step")
        refine wpAny_For ?_
        rename Fr g L1 _ _ => F9
        rename News g L1 _ _ => N9
        rename_i hA1 RB hA2 lB hA3
        have lB' := lB
        repeat' ((fail_if_success (with_reducible show wpAny _ _ (call (Value.ref 751) _ _) _ _ _)); first | (k_unfold; (try dsimp only)) | (k_end; wrow_close) | (with_reducible ((with_reducible show wpAny _ _ (call (Value.type "str") _) _ _ _); (k_dflt (refine' str_int ?hzk1 ?_; (case hzk1 => with_reducible assumption); k_whole; intro _ _; (try dsimp only); (try k_fold))))) | (with_reducible ((with_reducible show wpAny _ _ (call (Value.type "int") _) _ _ _); (k_dflt (refine' KIN.call_text ?hzk1 ?hzk2 ?_; (case hzk1 => with_reducible assumption); (case hzk2 => with_reducible assumption); k_whole)))) | (with_reducible ((with_reducible show wpAny _ _ (binaryOp Operator.Mult (Value.str _ _) (Value.int _ _)) _ _ _); (k_dflt (refine' mul_blank ?hzk1 ?_; (case hzk1 => with_reducible assumption); k_whole; intro _ _ _ _ _; (try dsimp only); (try k_fold))))) | (with_reducible ((with_reducible show wpAny _ _ (inplaceOp Operator.Add (Value.str _ _) (Value.str _ _)) _ _ _); (k_dflt (refine' iadd_v ?hzk1 ?hzk2 ?_; (case hzk1 => first | omega | decide); (case hzk2 => first | decide | omega); k_whole; intro _ _ _ _ _; (try dsimp only); (try k_fold))))) | (with_reducible ((with_reducible show wpAny _ _ (binaryOp Operator.Add (Value.str _ _) (Value.str _ _)) _ _ _); (k_dflt (refine' add_v ?hzk1 ?hzk2 ?_; (case hzk1 => first | omega | decide); (case hzk2 => first | decide | omega); k_whole; intro _ _ _ _ _; (try dsimp only); (try k_fold))))) | (with_reducible ((with_reducible show wpAny _ _ (subscriptTail (PySem.Expr.Name _ _) (PySem.Expr.Slice _ _ _ _) _ _) _ _ _); ((with_reducible show wpAny _ _ (subscriptTail _ (PySem.Expr.Slice _ _ none _) (Value.ref _) (Value.ref _)) _ _ _); k_dflt (refine' kmk_slice_ints ?hzF ?hzN ?hzl ?hzp ?hzq ?hzi ?hzm ?hzc ?_ ?hzs ?hzt ?hzz; (case hzF => k_asm); (case hzN => k_asm); (case hzl => is_list); (case hzp => first | exact IsPart.none | exact IsPart.int _ _); (case hzq => first | exact IsPart.none | exact IsPart.int _ _); (case hzi => with_reducible assumption); (case hzm => first | exact kmk_upto (by with_reducible assumption) (by omega) | exact kmk_from (by with_reducible assumption) (by omega)); (case hzc => exact rfl); (case hzs => with_unfolding_all rfl); (case hzt => (intro _; rfl)); (case hzz => with_reducible assumption)); intro _ _ _ _ _ _ _ _ _; (try dsimp only); (try k_fold)))) | (with_reducible ((with_reducible show wpAny _ _ (subscriptTail (PySem.Expr.Name _ _) (PySem.Expr.BinOp _ _ _ _) _ _) _ _ _); ((with_reducible show wpAny _ _ (subscriptTail _ _ (Value.ref _) (Value.int _ _)) _ _ _); k_dflt (refine' item_l ?hzk1 ?hzk2 ?hzk3 ?hzk4 ?_ ?hzk6; (case hzk1 => is_list); (case hzk4 => with_reducible assumption); (case hzk2 => omega); (case hzk3 => omega); (case hzk6 => with_unfolding_all rfl); k_whole)))) | (with_reducible ((with_reducible show wpAny _ _ (subscriptTail (PySem.Expr.Name _ _) (PySem.Expr.Name _ _) _ _) _ _ _); ((with_reducible show wpAny _ _ (subscriptTail _ _ (Value.ref _) (Value.int _ _)) _ _ _); k_dflt (refine' item_l ?hzk1 ?hzk2 ?hzk3 ?hzk4 ?_ ?hzk6; (case hzk1 => is_list); (case hzk4 => with_reducible assumption); (case hzk2 => omega); (case hzk3 => omega); (case hzk6 => with_unfolding_all rfl); k_whole)))) | (with_reducible ((with_reducible show wpAny _ _ (call (Value.type "range") _) _ _ _); (k_dflt (refine' range1_rows ?hzk1 ?hzk2 ?_; (case hzk1 => k_asm); (case hzk2 => k_asm); k_whole; intro _ _ _ _ _ _ _ _ _; (try dsimp only); (try k_fold))))) | (with_reducible ((with_reducible show wpAny _ _ (call (Value.builtin "max") _) _ _ _); (k_dflt (refine' max_list_N ?hzk1 ?hzk2 ?hzk3 ?hzk4 ?hzk5 ?hzk6 ?_; (case hzk1 => exact rfl); (case hzk2 => k_asm); (case hzk3 => k_asm); (case hzk4 => is_list); (case hzk5 => with_reducible assumption); (case hzk6 => omega); k_whole; intro _ _ _ _ _ _ _ _; (try dsimp only); (try k_fold))))) | (with_reducible ((with_reducible show wpAny _ _ (inplaceOp Operator.Add (Value.str _ _) (Value.str (Str.mk #[_]) _)) _ _ _); refine iadd1 (by with_reducible assumption) ?_; intro _ _)) | (with_reducible ((with_reducible show wpAny _ _ (PySem.truthy (Value.str _ _)) _ _ _); refine truthy_yes (by with_reducible assumption) (by with_reducible assumption) ?_)) | (with_reducible ((with_reducible show wpAny _ _ (execs _ _) _ _ _); (first | k_gentoks | ((with_reducible refine execs_one ?_); try dsimp only)))) | (with_reducible (with_reducible refine wpAny_If ?_)) | (with_reducible (first | (refine ite_isFalse (by with_reducible assumption) ?_) | (refine ite_pos (by with_reducible assumption) ?_) | (refine ite_neg (by with_reducible assumption) ?_))) | walk1 | dsimp only | (dsimp only; walk1) | (leave1; (try dsimp only)) | fail "no step")
        rename Fr g L1 _ _ => F9
        rename News g L1 _ _ => N9
        obtain ⟨kept, hkept⟩ : ∃ l : List Int, l = (upTo t sz ((turnsG sz P0 t).1, [], (turnsG sz P0 t).2) sz.length).2.1 := ⟨_, rfl⟩
        obtain ⟨-, len2, -, -, mem2⟩ := upTo_lens hrow.len hrow.kids sz.length (Nat.le_refl _)
        rw [← hkept] at htx len2 mem2
        rw [List.take_length] at len2
        have hkl : kept.length ≤ 16 := by
          have := needF_le (t := t + 1) (sz := sz) (fun x hx => (hsz x hx).2)
          omega
        have hkb : ∀ n ∈ kept, n.natAbs < 10 ^ 10 := fun n hn => hrow.fits (by omega) n (mem2 n hn)
        k_dflt (refine' split_ok _ _ _ _ _ _ _ _ _ _ _ _ _ _ _ _ _ _ _ _ _ _ _ _ (kept.map dig) htx.done ?k1 F9 XB TB ?k5 N9 ?k7 ?k8 (by omega) (by rw [List.length_map]; omega) ?_; (case k1 => exact Bg); (case k5 => first | exact rfl | assumption); (case k7 => (dsimp only [ktrTop]; omega)); (case k8 => (dsimp only [ktrTop]; omega)); k_whole)
        intro S acc cA g2 h10 tk10 hW KT2 B2 F10 N10 lS
        (try clear F9)
        (try clear N9)
        (try dsimp only)
        (try k_fold)
        repeat' ((fail_if_success (with_reducible show wpAny _ _ (pyIter _) _ _ _)); first | (k_unfold; (try dsimp only)) | (k_end; wrow_close) | (with_reducible ((with_reducible show wpAny _ _ (call (Value.type "str") _) _ _ _); (k_dflt (refine' str_int ?hzk1 ?_; (case hzk1 => with_reducible assumption); k_whole; intro _ _; (try dsimp only); (try k_fold))))) | (with_reducible ((with_reducible show wpAny _ _ (call (Value.type "int") _) _ _ _); (k_dflt (refine' KIN.call_text ?hzk1 ?hzk2 ?_; (case hzk1 => with_reducible assumption); (case hzk2 => with_reducible assumption); k_whole)))) | (with_reducible ((with_reducible show wpAny _ _ (binaryOp Operator.Mult (Value.str _ _) (Value.int _ _)) _ _ _); (k_dflt (refine' mul_blank ?hzk1 ?_; (case hzk1 => with_reducible assumption); k_whole; intro _ _ _ _ _; (try dsimp only); (try k_fold))))) | (with_reducible ((with_reducible show wpAny _ _ (inplaceOp Operator.Add (Value.str _ _) (Value.str _ _)) _ _ _); (k_dflt (refine' iadd_v ?hzk1 ?hzk2 ?_; (case hzk1 => first | omega | decide); (case hzk2 => first | decide | omega); k_whole; intro _ _ _ _ _; (try dsimp only); (try k_fold))))) | (with_reducible ((with_reducible show wpAny _ _ (binaryOp Operator.Add (Value.str _ _) (Value.str _ _)) _ _ _); (k_dflt (refine' add_v ?hzk1 ?hzk2 ?_; (case hzk1 => first | omega | decide); (case hzk2 => first | decide | omega); k_whole; intro _ _ _ _ _; (try dsimp only); (try k_fold))))) | (with_reducible ((with_reducible show wpAny _ _ (subscriptTail (PySem.Expr.Name _ _) (PySem.Expr.Slice _ _ _ _) _ _) _ _ _); ((with_reducible show wpAny _ _ (subscriptTail _ (PySem.Expr.Slice _ _ none _) (Value.ref _) (Value.ref _)) _ _ _); k_dflt (refine' kmk_slice_ints ?hzF ?hzN ?hzl ?hzp ?hzq ?hzi ?hzm ?hzc ?_ ?hzs ?hzt ?hzz; (case hzF => k_asm); (case hzN => k_asm); (case hzl => is_list); (case hzp => first | exact IsPart.none | exact IsPart.int _ _); (case hzq => first | exact IsPart.none | exact IsPart.int _ _); (case hzi => with_reducible assumption); (case hzm => first | exact kmk_upto (by with_reducible assumption) (by omega) | exact kmk_from (by with_reducible assumption) (by omega)); (case hzc => exact rfl); (case hzs => with_unfolding_all rfl); (case hzt => (intro _; rfl)); (case hzz => with_reducible assumption)); intro _ _ _ _ _ _ _ _ _; (try dsimp only); (try k_fold)))) | (with_reducible ((with_reducible show wpAny _ _ (subscriptTail (PySem.Expr.Name _ _) (PySem.Expr.BinOp _ _ _ _) _ _) _ _ _); ((with_reducible show wpAny _ _ (subscriptTail _ _ (Value.ref _) (Value.int _ _)) _ _ _); k_dflt (refine' item_l ?hzk1 ?hzk2 ?hzk3 ?hzk4 ?_ ?hzk6; (case hzk1 => is_list); (case hzk4 => with_reducible assumption); (case hzk2 => omega); (case hzk3 => omega); (case hzk6 => with_unfolding_all rfl); k_whole)))) | (with_reducible ((with_reducible show wpAny _ _ (subscriptTail (PySem.Expr.Name _ _) (PySem.Expr.Name _ _) _ _) _ _ _); ((with_reducible show wpAny _ _ (subscriptTail _ _ (Value.ref _) (Value.int _ _)) _ _ _); k_dflt (refine' item_l ?hzk1 ?hzk2 ?hzk3 ?hzk4 ?_ ?hzk6; (case hzk1 => is_list); (case hzk4 => with_reducible assumption); (case hzk2 => omega); (case hzk3 => omega); (case hzk6 => with_unfolding_all rfl); k_whole)))) | (with_reducible ((with_reducible show wpAny _ _ (call (Value.type "range") _) _ _ _); (k_dflt (refine' range1_rows ?hzk1 ?hzk2 ?_; (case hzk1 => k_asm); (case hzk2 => k_asm); k_whole; intro _ _ _ _ _ _ _ _ _; (try dsimp only); (try k_fold))))) | (with_reducible ((with_reducible show wpAny _ _ (call (Value.builtin "max") _) _ _ _); (k_dflt (refine' max_list_N ?hzk1 ?hzk2 ?hzk3 ?hzk4 ?hzk5 ?hzk6 ?_; (case hzk1 => exact rfl); (case hzk2 => k_asm); (case hzk3 => k_asm); (case hzk4 => is_list); (case hzk5 => with_reducible assumption); (case hzk6 => omega); k_whole; intro _ _ _ _ _ _ _ _; (try dsimp only); (try k_fold))))) | (with_reducible ((with_reducible show wpAny _ _ (inplaceOp Operator.Add (Value.str _ _) (Value.str (Str.mk #[_]) _)) _ _ _); refine iadd1 (by with_reducible assumption) ?_; intro _ _)) | (with_reducible ((with_reducible show wpAny _ _ (PySem.truthy (Value.str _ _)) _ _ _); refine truthy_yes (by with_reducible assumption) (by with_reducible assumption) ?_)) | (with_reducible ((with_reducible show wpAny _ _ (execs _ _) _ _ _); (first | k_gentoks | ((with_reducible refine execs_one ?_); try dsimp only)))) | (with_reducible (with_reducible refine wpAny_If ?_)) | (with_reducible (first | (refine ite_isFalse (by with_reducible assumption) ?_) | (refine ite_pos (by with_reducible assumption) ?_) | (refine ite_neg (by with_reducible assumption) ?_))) | walk1 | dsimp only | (dsimp only; walk1) | (leave1; (try dsimp only)) | fail "no step")
        refine lst_iter F10 N10 ⟨_, (N10 _ (.head _)).1, rfl, _, rfl⟩ ?_
        intro it3 o3 h11 F11 ho3 N11 hit3
        have Xg2 := XB.keeps B2.stays
        have Tg2 := TB.keeps B2.stays
        (try clear F10)
        (try clear N10)
        obtain ⟨b753, bRA, bSA, bST, bAll⟩ := lB'
        have rb1 : ∀ p ∈ (ks2 ++ (it, rgObj ((t : Int) + 1) (((n + 1 : Nat) : Int) - 1) 1) :: news : List (Addr × Obj)), p.1 ≠ RB := fun p hp => allLt_mem bAll hp
        have rbS : RB ≠ S := Nat.ne_of_lt (lS (RB, listOf #[] 0) (.head _))
        have rb3 : RB ≠ it3 := hit3 (RB, listOf #[] 0) me1
        have oS : ∀ p ∈ (ks2 ++ (it, rgObj ((t : Int) + 1) (((n + 1 : Nat) : Int) - 1) 1) :: news : List (Addr × Obj)), p.1 ≠ it3 := fun p hp => hit3 p (sq_d hp)
        have o753 : (753 : Addr) ≠ it3 := hit3 (753, op2) me2
        have oSA : SA ≠ it3 := hit3 (SA, listOf SV.toArray cS) me4
        have oST : ST ≠ it3 := hit3 (ST, listOf (List.map (fun k => Value.ref k.1) ks).toArray cST) me5
        have oSS : S ≠ it3 := hit3 (S, _) (.head _)
        have hne3 : ∀ {RBv : List Value} {cB : Nat}, ∀ p ∈ ((RB, listOf (List.toArray RBv) cB) :: (S, { cls := .type "list", data := .seq acc cA }) :: (753, op2) :: (SA, listOf SV.toArray cS) :: (ST, listOf (List.map (fun k => Value.ref k.1) ks).toArray cST) :: (ks2 ++ (it, rgObj ((t : Int) + 1) (((n + 1 : Nat) : Int) - 1) 1) :: news)), p.1 ≠ it3 := ne_c rb3 (ne_c oSS (ne_c o753 (ne_c oSA (ne_c oST oS))))
        have hlA : acc.size = kept.length := by
          have := wordsAre_len hW
          simpa using this
        have hTxt : ∀ {j : Nat}, j < kept.length → PySem.intText? (txt (kept.getD j 0)) = some (kept.getD j 0) ∧ (txt (kept.getD j 0)).length ≤ 640 := fun {j} hj => by
          have hb := hkb _ (getD_in hj)
          have := txt_len hb
          exact ⟨txt_int hb, by omega⟩
        refine for_inv_q (SIw s t n it it3 L1 SA ST RB S g2 gens2 op2 acc cA SV cS cST ks ks2 news kept) (SJw s t n it it3 L1 SA ST RB S g2 gens2 op2 acc cA SV cS cST ks ks2 news kept) kept.length ?wi ?wt ?wp (by intro _; rfl)
        case wi =>
          refine ⟨0, _, _, o3, [], 0, 0, _, _, rfl, rfl, Fr.re F11 (loc_at [("row", .ref RB), ("total", .int 0 _), ("struck", .ref ST), ("sizes", .ref SA)] (.cons rfl (.cons rfl (.cons rfl (.cons rfl .nil))))), ho3, .nil, rfl, ?_⟩
          intro p hp
          exact N11 p (sq_e hp)
        case wp =>
          rintro s' ⟨j, h12, tk12, oW, RBv, cB, tot, ttk, junk3, hnj, rfl, Fw, hoW, hRB, htot, Nw⟩
          clear F11 N11
          subst hnj
          rw [List.take_length] at hRB
          (try dsimp only)
          repeat' ((fail_if_success (with_reducible show QQ1 _ _)); first | (k_unfold; (try dsimp only)) | (k_end; wrow_close) | (with_reducible ((with_reducible show wpAny _ _ (call (Value.type "str") _) _ _ _); (k_dflt (refine' str_int ?hzk1 ?_; (case hzk1 => with_reducible assumption); k_whole; intro _ _; (try dsimp only); (try k_fold))))) | (with_reducible ((with_reducible show wpAny _ _ (call (Value.type "int") _) _ _ _); (k_dflt (refine' KIN.call_text ?hzk1 ?hzk2 ?_; (case hzk1 => with_reducible assumption); (case hzk2 => with_reducible assumption); k_whole)))) | (with_reducible ((with_reducible show wpAny _ _ (binaryOp Operator.Mult (Value.str _ _) (Value.int _ _)) _ _ _); (k_dflt (refine' mul_blank ?hzk1 ?_; (case hzk1 => with_reducible assumption); k_whole; intro _ _ _ _ _; (try dsimp only); (try k_fold))))) | (with_reducible ((with_reducible show wpAny _ _ (inplaceOp Operator.Add (Value.str _ _) (Value.str _ _)) _ _ _); (k_dflt (refine' iadd_v ?hzk1 ?hzk2 ?_; (case hzk1 => first | omega | decide); (case hzk2 => first | decide | omega); k_whole; intro _ _ _ _ _; (try dsimp only); (try k_fold))))) | (with_reducible ((with_reducible show wpAny _ _ (binaryOp Operator.Add (Value.str _ _) (Value.str _ _)) _ _ _); (k_dflt (refine' add_v ?hzk1 ?hzk2 ?_; (case hzk1 => first | omega | decide); (case hzk2 => first | decide | omega); k_whole; intro _ _ _ _ _; (try dsimp only); (try k_fold))))) | (with_reducible ((with_reducible show wpAny _ _ (subscriptTail (PySem.Expr.Name _ _) (PySem.Expr.Slice _ _ _ _) _ _) _ _ _); ((with_reducible show wpAny _ _ (subscriptTail _ (PySem.Expr.Slice _ _ none _) (Value.ref _) (Value.ref _)) _ _ _); k_dflt (refine' kmk_slice_ints ?hzF ?hzN ?hzl ?hzp ?hzq ?hzi ?hzm ?hzc ?_ ?hzs ?hzt ?hzz; (case hzF => k_asm); (case hzN => k_asm); (case hzl => is_list); (case hzp => first | exact IsPart.none | exact IsPart.int _ _); (case hzq => first | exact IsPart.none | exact IsPart.int _ _); (case hzi => with_reducible assumption); (case hzm => first | exact kmk_upto (by with_reducible assumption) (by omega) | exact kmk_from (by with_reducible assumption) (by omega)); (case hzc => exact rfl); (case hzs => with_unfolding_all rfl); (case hzt => (intro _; rfl)); (case hzz => with_reducible assumption)); intro _ _ _ _ _ _ _ _ _; (try dsimp only); (try k_fold)))) | (with_reducible ((with_reducible show wpAny _ _ (subscriptTail (PySem.Expr.Name _ _) (PySem.Expr.BinOp _ _ _ _) _ _) _ _ _); ((with_reducible show wpAny _ _ (subscriptTail _ _ (Value.ref _) (Value.int _ _)) _ _ _); k_dflt (refine' item_l ?hzk1 ?hzk2 ?hzk3 ?hzk4 ?_ ?hzk6; (case hzk1 => is_list); (case hzk4 => with_reducible assumption); (case hzk2 => omega); (case hzk3 => omega); (case hzk6 => with_unfolding_all rfl); k_whole)))) | (with_reducible ((with_reducible show wpAny _ _ (subscriptTail (PySem.Expr.Name _ _) (PySem.Expr.Name _ _) _ _) _ _ _); ((with_reducible show wpAny _ _ (subscriptTail _ _ (Value.ref _) (Value.int _ _)) _ _ _); k_dflt (refine' item_l ?hzk1 ?hzk2 ?hzk3 ?hzk4 ?_ ?hzk6; (case hzk1 => is_list); (case hzk4 => with_reducible assumption); (case hzk2 => omega); (case hzk3 => omega); (case hzk6 => with_unfolding_all rfl); k_whole)))) | (with_reducible ((with_reducible show wpAny _ _ (call (Value.type "range") _) _ _ _); (k_dflt (refine' range1_rows ?hzk1 ?hzk2 ?_; (case hzk1 => k_asm); (case hzk2 => k_asm); k_whole; intro _ _ _ _ _ _ _ _ _; (try dsimp only); (try k_fold))))) | (with_reducible ((with_reducible show wpAny _ _ (call (Value.builtin "max") _) _ _ _); (k_dflt (refine' max_list_N ?hzk1 ?hzk2 ?hzk3 ?hzk4 ?hzk5 ?hzk6 ?_; (case hzk1 => exact rfl); (case hzk2 => k_asm); (case hzk3 => k_asm); (case hzk4 => is_list); (case hzk5 => with_reducible assumption); (case hzk6 => omega); k_whole; intro _ _ _ _ _ _ _ _; (try dsimp only); (try k_fold))))) | (with_reducible ((with_reducible show wpAny _ _ (inplaceOp Operator.Add (Value.str _ _) (Value.str (Str.mk #[_]) _)) _ _ _); refine iadd1 (by with_reducible assumption) ?_; intro _ _)) | (with_reducible ((with_reducible show wpAny _ _ (PySem.truthy (Value.str _ _)) _ _ _); refine truthy_yes (by with_reducible assumption) (by with_reducible assumption) ?_)) | (with_reducible ((with_reducible show wpAny _ _ (execs _ _) _ _ _); (first | k_gentoks | ((with_reducible refine execs_one ?_); try dsimp only)))) | (with_reducible (with_reducible refine wpAny_If ?_)) | (with_reducible (first | (refine ite_isFalse (by with_reducible assumption) ?_) | (refine ite_pos (by with_reducible assumption) ?_) | (refine ite_neg (by with_reducible assumption) ?_))) | walk1 | dsimp only | (dsimp only; walk1) | (leave1; (try dsimp only)) | fail "no step")
          have e1 : (t : Int) + 1 = ((t + 1 : Nat) : Int) := by omega
          have e2 : ((n + 1 : Nat) : Int) - 1 = (n : Int) := by omega
          have hT1 : turnsG sz P0 (t + 1) = (psum 0 (upTo t sz ((turnsG sz P0 t).1, [], (turnsG sz P0 t).2) sz.length).2.1, (upTo t sz ((turnsG sz P0 t).1, [], (turnsG sz P0 t).2) sz.length).2.2) := turnsG_succ sz P0 t
          have hrow' := hrow.next (fun x hx => (hsz x hx).2) hl2
          have rbk : ∀ k ∈ ks, RB ≠ k.1 := fun k hk => by
            have : k.1 ∈ ks2.map (·.1) := by rw [hka2]; exact List.mem_map.mpr ⟨k, hk, rfl⟩
            obtain ⟨k', h1, h2⟩ := List.mem_map.mp this
            rw [← h2]
            exact (rb1 k' (mapL h1)).symm
          refine hnx1 _ (less' n (by omega) ⟨t + 1, h12, _, gens2, g2, op2, RB, RBv, cB, ks2, _, by omega, (rb1 (it, rgObj ((t : Int) + 1) (((n + 1 : Nat) : Int) - 1) 1) (mapR me0)).symm, rfl, hG2, hop2, KT.trans KT2, B2, Fr.re Fw (loc_at [("row", .ref RB), ("struck", .ref ST), ("sizes", .ref SA)] (.cons rfl (.cons rfl (.cons rfl .nil)))), ?_, ?_, hka2, ?_, (Nat.ne_of_lt b753).symm, (Nat.ne_of_lt bST).symm, rbk, ?_⟩)
          · rw [hT1]
            show IntsAre RBv (psum 0 (upTo t sz ((turnsG sz P0 t).1, [], (turnsG sz P0 t).2) sz.length).2.1)
            rw [← hkept]
            exact hRB
          · rw [hT1]; exact hKs2
          · rw [hT1]; exact hrow'
          · intro p hp
            rw [← e1, ← e2] at hp
            exact Nw p (sq_f hp)
        case wt =>
          rintro nW s' ⟨j, h12, tk12, oW, RBv, cB, tot, ttk, junk3, hnj, rfl, Fw, hoW, hRB, htot, Nw⟩ QP3 hno3 hso3
          have hSl : h12.IsList S acc := ⟨_, (Nw (S, _) (.tail _ (.tail _ (.head _)))).1, rfl, _, rfl⟩
          cases nW with
          | zero =>
            refine lst_end rfl Fw Nw hne3 hoW hSl (by rw [Array.getElem?_eq_none_iff]; omega) ?_
            intro h13 F13 N13
            exact hno3 _ ⟨j, h13, tk12, oW, RBv, cB, tot, ttk, junk3, by omega, rfl, F13, hoW, hRB, htot, N13⟩
          | succ nW =>
            have hj : j < kept.length := by omega
            obtain ⟨tW, hWj⟩ := wordsAre_at hW hj
            obtain ⟨hx1, hx2⟩ := hTxt hj
            refine lst_next Fw Nw hne3 hoW hSl (by rw [← Array.getElem?_toList]; exact hWj) ?_
            intro h13 o13 F13 ho13 N13
            clear F11 N11 Fw Nw
            refine hso3 _ _ (fun QQ3 hnx3 _ _ => ?_)
            clear hso3 hno3 QP3
            (try dsimp only)
            repeat' ((fail_if_success (with_reducible show QQ3 _ _)); (fail_if_success (with_reducible show wpAny _ _ (call (Value.builtin "list.append") _) _ _ _)); first | (k_unfold; (try dsimp only)) | (k_end; wrow_close) | (with_reducible ((with_reducible show wpAny _ _ (call (Value.type "str") _) _ _ _); (k_dflt (refine' str_int ?hzk1 ?_; (case hzk1 => with_reducible assumption); k_whole; intro _ _; (try dsimp only); (try k_fold))))) | (with_reducible ((with_reducible show wpAny _ _ (call (Value.type "int") _) _ _ _); (k_dflt (refine' KIN.call_text ?hzk1 ?hzk2 ?_; (case hzk1 => with_reducible assumption); (case hzk2 => with_reducible assumption); k_whole)))) | (with_reducible ((with_reducible show wpAny _ _ (binaryOp Operator.Mult (Value.str _ _) (Value.int _ _)) _ _ _); (k_dflt (refine' mul_blank ?hzk1 ?_; (case hzk1 => with_reducible assumption); k_whole; intro _ _ _ _ _; (try dsimp only); (try k_fold))))) | (with_reducible ((with_reducible show wpAny _ _ (inplaceOp Operator.Add (Value.str _ _) (Value.str _ _)) _ _ _); (k_dflt (refine' iadd_v ?hzk1 ?hzk2 ?_; (case hzk1 => first | omega | decide); (case hzk2 => first | decide | omega); k_whole; intro _ _ _ _ _; (try dsimp only); (try k_fold))))) | (with_reducible ((with_reducible show wpAny _ _ (binaryOp Operator.Add (Value.str _ _) (Value.str _ _)) _ _ _); (k_dflt (refine' add_v ?hzk1 ?hzk2 ?_; (case hzk1 => first | omega | decide); (case hzk2 => first | decide | omega); k_whole; intro _ _ _ _ _; (try dsimp only); (try k_fold))))) | (with_reducible ((with_reducible show wpAny _ _ (subscriptTail (PySem.Expr.Name _ _) (PySem.Expr.Slice _ _ _ _) _ _) _ _ _); ((with_reducible show wpAny _ _ (subscriptTail _ (PySem.Expr.Slice _ _ none _) (Value.ref _) (Value.ref _)) _ _ _); k_dflt (refine' kmk_slice_ints ?hzF ?hzN ?hzl ?hzp ?hzq ?hzi ?hzm ?hzc ?_ ?hzs ?hzt ?hzz; (case hzF => k_asm); (case hzN => k_asm); (case hzl => is_list); (case hzp => first | exact IsPart.none | exact IsPart.int _ _); (case hzq => first | exact IsPart.none | exact IsPart.int _ _); (case hzi => with_reducible assumption); (case hzm => first | exact kmk_upto (by with_reducible assumption) (by omega) | exact kmk_from (by with_reducible assumption) (by omega)); (case hzc => exact rfl); (case hzs => with_unfolding_all rfl); (case hzt => (intro _; rfl)); (case hzz => with_reducible assumption)); intro _ _ _ _ _ _ _ _ _; (try dsimp only); (try k_fold)))) | (with_reducible ((with_reducible show wpAny _ _ (subscriptTail (PySem.Expr.Name _ _) (PySem.Expr.BinOp _ _ _ _) _ _) _ _ _); ((with_reducible show wpAny _ _ (subscriptTail _ _ (Value.ref _) (Value.int _ _)) _ _ _); k_dflt (refine' item_l ?hzk1 ?hzk2 ?hzk3 ?hzk4 ?_ ?hzk6; (case hzk1 => is_list); (case hzk4 => with_reducible assumption); (case hzk2 => omega); (case hzk3 => omega); (case hzk6 => with_unfolding_all rfl); k_whole)))) | (with_reducible ((with_reducible show wpAny _ _ (subscriptTail (PySem.Expr.Name _ _) (PySem.Expr.Name _ _) _ _) _ _ _); ((with_reducible show wpAny _ _ (subscriptTail _ _ (Value.ref _) (Value.int _ _)) _ _ _); k_dflt (refine' item_l ?hzk1 ?hzk2 ?hzk3 ?hzk4 ?_ ?hzk6; (case hzk1 => is_list); (case hzk4 => with_reducible assumption); (case hzk2 => omega); (case hzk3 => omega); (case hzk6 => with_unfolding_all rfl); k_whole)))) | (with_reducible ((with_reducible show wpAny _ _ (call (Value.type "range") _) _ _ _); (k_dflt (refine' range1_rows ?hzk1 ?hzk2 ?_; (case hzk1 => k_asm); (case hzk2 => k_asm); k_whole; intro _ _ _ _ _ _ _ _ _; (try dsimp only); (try k_fold))))) | (with_reducible ((with_reducible show wpAny _ _ (call (Value.builtin "max") _) _ _ _); (k_dflt (refine' max_list_N ?hzk1 ?hzk2 ?hzk3 ?hzk4 ?hzk5 ?hzk6 ?_; (case hzk1 => exact rfl); (case hzk2 => k_asm); (case hzk3 => k_asm); (case hzk4 => is_list); (case hzk5 => with_reducible assumption); (case hzk6 => omega); k_whole; intro _ _ _ _ _ _ _ _; (try dsimp only); (try k_fold))))) | (with_reducible ((with_reducible show wpAny _ _ (inplaceOp Operator.Add (Value.str _ _) (Value.str (Str.mk #[_]) _)) _ _ _); refine iadd1 (by with_reducible assumption) ?_; intro _ _)) | (with_reducible ((with_reducible show wpAny _ _ (PySem.truthy (Value.str _ _)) _ _ _); refine truthy_yes (by with_reducible assumption) (by with_reducible assumption) ?_)) | (with_reducible ((with_reducible show wpAny _ _ (execs _ _) _ _ _); (first | k_gentoks | ((with_reducible refine execs_one ?_); try dsimp only)))) | (with_reducible (with_reducible refine wpAny_If ?_)) | (with_reducible (first | (refine ite_isFalse (by with_reducible assumption) ?_) | (refine ite_pos (by with_reducible assumption) ?_) | (refine ite_neg (by with_reducible assumption) ?_))) | walk1 | dsimp only | (dsimp only; walk1) | (leave1; (try dsimp only)) | fail "no step")
            rename Fr g2 L1 _ _ => F14
            rename News g2 L1 _ _ => N14
            have hneB : ∀ p ∈ ((it3, o13) :: (S, { cls := .type "list", data := .seq acc cA }) :: (753, op2) :: (SA, listOf SV.toArray cS) :: (ST, listOf (List.map (fun k => Value.ref k.1) ks).toArray cST) :: (ks2 ++ (it, rgObj ((t : Int) + 1) (((n + 1 : Nat) : Int) - 1) 1) :: news) : List (Addr × Obj)), p.1 ≠ RB := ne_c rb3.symm (ne_c rbS.symm (ne_c (Nat.ne_of_lt b753) (ne_c (Nat.ne_of_lt bSA) (ne_c (Nat.ne_of_lt bST) rb1))))
            have hps : psum 0 (kept.take (j + 1)) = psum 0 (kept.take j) ++ [tot + kept.getD j 0] := by
              rw [take_snoc hj, psum_snoc, htot, Int.zero_add]
            have hts : tot + kept.getD j 0 = (kept.take (j + 1)).sum := by rw [take_snoc hj, sum_snoc, htot]
            refine append_led F14 (news_swap N14) hneB (by
              have h1 := IntsAre.length hRB
              rw [psum_length, List.length_take] at h1
              omega) ?_
            intro c15 h15 s15 F15 N15
            have N16 := news_swap N15
            clear N15 F14 N14
            (try dsimp only)
            (try k_fold)
            repeat' ((fail_if_success (with_reducible show QQ3 _ _)); first | (k_unfold; (try dsimp only)) | (k_end; wrow_close) | (with_reducible ((with_reducible show wpAny _ _ (call (Value.type "str") _) _ _ _); (k_dflt (refine' str_int ?hzk1 ?_; (case hzk1 => with_reducible assumption); k_whole; intro _ _; (try dsimp only); (try k_fold))))) | (with_reducible ((with_reducible show wpAny _ _ (call (Value.type "int") _) _ _ _); (k_dflt (refine' KIN.call_text ?hzk1 ?hzk2 ?_; (case hzk1 => with_reducible assumption); (case hzk2 => with_reducible assumption); k_whole)))) | (with_reducible ((with_reducible show wpAny _ _ (binaryOp Operator.Mult (Value.str _ _) (Value.int _ _)) _ _ _); (k_dflt (refine' mul_blank ?hzk1 ?_; (case hzk1 => with_reducible assumption); k_whole; intro _ _ _ _ _; (try dsimp only); (try k_fold))))) | (with_reducible ((with_reducible show wpAny _ _ (inplaceOp Operator.Add (Value.str _ _) (Value.str _ _)) _ _ _); (k_dflt (refine' iadd_v ?hzk1 ?hzk2 ?_; (case hzk1 => first | omega | decide); (case hzk2 => first | decide | omega); k_whole; intro _ _ _ _ _; (try dsimp only); (try k_fold))))) | (with_reducible ((with_reducible show wpAny _ _ (binaryOp Operator.Add (Value.str _ _) (Value.str _ _)) _ _ _); (k_dflt (refine' add_v ?hzk1 ?hzk2 ?_; (case hzk1 => first | omega | decide); (case hzk2 => first | decide | omega); k_whole; intro _ _ _ _ _; (try dsimp only); (try k_fold))))) | (with_reducible ((with_reducible show wpAny _ _ (subscriptTail (PySem.Expr.Name _ _) (PySem.Expr.Slice _ _ _ _) _ _) _ _ _); ((with_reducible show wpAny _ _ (subscriptTail _ (PySem.Expr.Slice _ _ none _) (Value.ref _) (Value.ref _)) _ _ _); k_dflt (refine' kmk_slice_ints ?hzF ?hzN ?hzl ?hzp ?hzq ?hzi ?hzm ?hzc ?_ ?hzs ?hzt ?hzz; (case hzF => k_asm); (case hzN => k_asm); (case hzl => is_list); (case hzp => first | exact IsPart.none | exact IsPart.int _ _); (case hzq => first | exact IsPart.none | exact IsPart.int _ _); (case hzi => with_reducible assumption); (case hzm => first | exact kmk_upto (by with_reducible assumption) (by omega) | exact kmk_from (by with_reducible assumption) (by omega)); (case hzc => exact rfl); (case hzs => with_unfolding_all rfl); (case hzt => (intro _; rfl)); (case hzz => with_reducible assumption)); intro _ _ _ _ _ _ _ _ _; (try dsimp only); (try k_fold)))) | (with_reducible ((with_reducible show wpAny _ _ (subscriptTail (PySem.Expr.Name _ _) (PySem.Expr.BinOp _ _ _ _) _ _) _ _ _); ((with_reducible show wpAny _ _ (subscriptTail _ _ (Value.ref _) (Value.int _ _)) _ _ _); k_dflt (refine' item_l ?hzk1 ?hzk2 ?hzk3 ?hzk4 ?_ ?hzk6; (case hzk1 => is_list); (case hzk4 => with_reducible assumption); (case hzk2 => omega); (case hzk3 => omega); (case hzk6 => with_unfolding_all rfl); k_whole)))) | (with_reducible ((with_reducible show wpAny _ _ (subscriptTail (PySem.Expr.Name _ _) (PySem.Expr.Name _ _) _ _) _ _ _); ((with_reducible show wpAny _ _ (subscriptTail _ _ (Value.ref _) (Value.int _ _)) _ _ _); k_dflt (refine' item_l ?hzk1 ?hzk2 ?hzk3 ?hzk4 ?_ ?hzk6; (case hzk1 => is_list); (case hzk4 => with_reducible assumption); (case hzk2 => omega); (case hzk3 => omega); (case hzk6 => with_unfolding_all rfl); k_whole)))) | (with_reducible ((with_reducible show wpAny _ _ (call (Value.type "range") _) _ _ _); (k_dflt (refine' range1_rows ?hzk1 ?hzk2 ?_; (case hzk1 => k_asm); (case hzk2 => k_asm); k_whole; intro _ _ _ _ _ _ _ _ _; (try dsimp only); (try k_fold))))) | (with_reducible ((with_reducible show wpAny _ _ (call (Value.builtin "max") _) _ _ _); (k_dflt (refine' max_list_N ?hzk1 ?hzk2 ?hzk3 ?hzk4 ?hzk5 ?hzk6 ?_; (case hzk1 => exact rfl); (case hzk2 => k_asm); (case hzk3 => k_asm); (case hzk4 => is_list); (case hzk5 => with_reducible assumption); (case hzk6 => omega); k_whole; intro _ _ _ _ _ _ _ _; (try dsimp only); (try k_fold))))) | (with_reducible ((with_reducible show wpAny _ _ (inplaceOp Operator.Add (Value.str _ _) (Value.str (Str.mk #[_]) _)) _ _ _); refine iadd1 (by with_reducible assumption) ?_; intro _ _)) | (with_reducible ((with_reducible show wpAny _ _ (PySem.truthy (Value.str _ _)) _ _ _); refine truthy_yes (by with_reducible assumption) (by with_reducible assumption) ?_)) | (with_reducible ((with_reducible show wpAny _ _ (execs _ _) _ _ _); (first | k_gentoks | ((with_reducible refine execs_one ?_); try dsimp only)))) | (with_reducible (with_reducible refine wpAny_If ?_)) | (with_reducible (first | (refine ite_isFalse (by with_reducible assumption) ?_) | (refine ite_pos (by with_reducible assumption) ?_) | (refine ite_neg (by with_reducible assumption) ?_))) | walk1 | dsimp only | (dsimp only; walk1) | (leave1; (try dsimp only)) | fail "no step")
            rename Fr g2 L1 _ _ => Fz
            rename News g2 L1 _ _ => Nz
            refine hnx3 _ (less' nW (by omega) ⟨j + 1, _, _, o13, _, c15, _, _, _, by omega, rfl, Fr.re Fz (loc_at [("row", .ref RB), ("total", .int (tot + kept.getD j 0) _), ("struck", .ref ST), ("sizes", .ref SA)] (.cons rfl (.cons rfl (.cons rfl (.cons rfl .nil))))), ho13, by rw [hps]; exact ints_snoc hRB, hts, Nz⟩)
      case turn =>
        rintro n2 s' ⟨k, h2, tk2, gens2, op2, RA2, RV2, cR2, ks2, text, tx, tt, junk2, hnk, a5, rfl, hG2, hop2, Fi, hRV2, hKs2, hka2, htx, htl, a1, a2, a3, a4, Ni⟩ QP2 hno2 hso2
        have hne2 : ∀ p ∈ ((753, op2) :: (RA2, listOf (List.toArray RV2) cR2) :: (SA, listOf SV.toArray cS) :: (ST, listOf (List.map (fun k => Value.ref k.1) ks).toArray cST) :: (ks2 ++ (it, rgObj ((t : Int) + 1) (((n + 1 : Nat) : Int) - 1) 1) :: news)), p.1 ≠ it2 := ne_c j753 (ne_c a5 (ne_c jS (ne_c jT (ne_a (fun p hp => by
          obtain ⟨k, h1, h2⟩ := kin hka2 p hp
          rw [← h2]; exact jK k h1) (ne_c jit jW)))))
        cases n2 with
        | zero =>
          refine rng_end rfl Fi Ni hne2 (by omega) ?_
          intro h9 F9 N9
          exact hno2 _ ⟨k, h9, tk2, gens2, op2, RA2, RV2, cR2, ks2, text, tx, tt, junk2, by omega, rfl, hG2, hop2, F9, hRV2, hKs2, hka2, htx, htl, a1, a2, a3, a4, N9⟩
        | succ n2 =>
          have hkl : k < sz.length := by omega
          obtain ⟨tSk, hSk⟩ := IntsAre.at hS hkl
          obtain ⟨c, hc⟩ : ∃ c : Int, c = sz.getD k 0 := ⟨_, rfl⟩
          rw [← hc] at hSk
          have hSk' : SV[(k : Int).toNat]? = some (.int c tSk) := by rw [Int.toNat_natCast]; exact hSk
          have hcm : c ∈ sz := by
            rw [hc]
            have : sz.getD k 0 = sz[k] := by simp [List.getD_eq_getElem?_getD, hkl]
            rw [this]; exact List.getElem_mem hkl
          have hc4 := hsz c hcm
          refine rng_next Fi Ni hne2 (by omega) ?_
          intro h9 F9 N9
          clear F8 N8 Fi Ni
          refine hso2 _ _ (fun QQ2 hnx2 _ _ => ?_)
          clear hso2 hno2 QP2
          (try dsimp only)
          obtain ⟨len1, len2, len3, mem1, mem2⟩ := upTo_lens hrow.len hrow.kids k (Nat.le_of_lt hkl)
          by_cases hact : (t : Int) < c
          · have hup : (upTo t sz ((turnsG sz P0 t).1, [], (turnsG sz P0 t).2) (k + 1)) = ((upTo t sz ((turnsG sz P0 t).1, [], (turnsG sz P0 t).2) k).1.drop (c - t).toNat, (upTo t sz ((turnsG sz P0 t).1, [], (turnsG sz P0 t).2) k).2.1 ++ (upTo t sz ((turnsG sz P0 t).1, [], (turnsG sz P0 t).2) k).1.take ((c - t).toNat - 1), (upTo t sz ((turnsG sz P0 t).1, [], (turnsG sz P0 t).2) k).2.2.set k ((upTo t sz ((turnsG sz P0 t).1, [], (turnsG sz P0 t).2) k).2.2.getD k [] ++ [(upTo t sz ((turnsG sz P0 t).1, [], (turnsG sz P0 t).2) k).1.getD ((c - t).toNat - 1) 0])) := by
              rw [upTo_succ, stepG, ← hc, if_pos hact]
            have hneed : (c - t).toNat ≤ (upTo t sz ((turnsG sz P0 t).1, [], (turnsG sz P0 t).2) k).1.length := by
              rw [len1, drop_getD hkl, ← hc]
              simp only [needF, List.map_cons, List.sum_cons]
              omega
            have hp1 : decide (0 < c - (t : Int)) = true := by simp; omega
            obtain ⟨ksA, KA, kv, kc, ksB, eks2, hlA, hkv, hset⟩ := Kids.at hKs2 (k := k) (by rw [len3]; exact hkl)
            subst eks2
            have N9' : News g L1 h9 ((it2, rgObj ((k : Int) + 1) (((n2 + 1 : Nat) : Int) - 1) 1) :: (753, op2) :: (RA2, listOf (List.toArray RV2) cR2) :: (SA, listOf SV.toArray cS) :: (ST, listOf (List.map (fun k => Value.ref k.1) ks).toArray cST) :: (KA, listOf (List.toArray kv) kc) :: (ksA ++ (ksB ++ (it, rgObj ((t : Int) + 1) (((n + 1 : Nat) : Int) - 1) 1) :: news))) := fun p hp => N9 p (sq_g hp)
            clear N9
            have hSTk : (List.map (fun k => Value.ref k.1) ks)[(k : Int).toNat]? = some (.ref KA) := by
              rw [kRef hka2, Int.toNat_natCast, ← hlA]; exact refs_at
            have hrb : ∀ n ∈ (upTo t sz ((turnsG sz P0 t).1, [], (turnsG sz P0 t).2) k).1, n.natAbs < 10 ^ 10 := fun n hn => hrow.fits (by omega) n (mem1 n hn)
            obtain ⟨x, hx⟩ : ∃ x : Int, x = (upTo t sz ((turnsG sz P0 t).1, [], (turnsG sz P0 t).2) k).1.getD ((c - t).toNat - 1) 0 := ⟨_, rfl⟩
            obtain ⟨tXr, hXr⟩ := IntsAre.at hRV2 (i := (c - t).toNat - 1) (by omega)
            rw [← hx] at hXr
            have hXr' : RV2[(c - (t : Int) - 1).toNat]? = some (.int x tXr) := by
              rw [show (c - (t : Int) - 1).toNat = (c - t).toNat - 1 by omega]; exact hXr
            have hxb : x.natAbs < 10 ^ 10 := by
              rw [hx]
              have hlt : (c - t).toNat - 1 < (upTo t sz ((turnsG sz P0 t).1, [], (turnsG sz P0 t).2) k).1.length := by omega
              exact hrb _ (getD_in hlt)
            have hxl := txt_len hxb
            have hf2 := fmod2 t
            have hh1 : (Str.ofString "#").length = 1 := by decide
            have hh2 : (Str.ofString "'\n").length = 2 := by decide
            have hRz : (List.toArray RV2).size ≤ sizeLine := by
              have h1 := IntsAre.length hRV2
              have h2 := needF_le (t := t) (sz := sz.drop k) (fun x hx => (hsz x (List.mem_of_mem_drop hx)).2)
              have h3 : (100 : Nat) ≤ sizeLine := by decide
              simp only [List.size_toArray, List.length_drop] at h2 ⊢
              omega
            have KAin : ∃ k0 ∈ ks, k0.1 = KA := kin hka2 (KA, listOf (List.toArray kv) kc) (mapR me0)
            repeat' ((fail_if_success (with_reducible show QQ2 _ _)); (fail_if_success (with_reducible show wpAny _ _ (eval (Expr.ListComp _ _ _ _) _) _ _ _)); first | (k_unfold; (try dsimp only)) | (k_end; wrow_close) | (with_reducible ((with_reducible show wpAny _ _ (call (Value.type "str") _) _ _ _); (k_dflt (refine' str_int ?hzk1 ?_; (case hzk1 => with_reducible assumption); k_whole; intro _ _; (try dsimp only); (try k_fold))))) | (with_reducible ((with_reducible show wpAny _ _ (call (Value.type "int") _) _ _ _); (k_dflt (refine' KIN.call_text ?hzk1 ?hzk2 ?_; (case hzk1 => with_reducible assumption); (case hzk2 => with_reducible assumption); k_whole)))) | (with_reducible ((with_reducible show wpAny _ _ (binaryOp Operator.Mult (Value.str _ _) (Value.int _ _)) _ _ _); (k_dflt (refine' mul_blank ?hzk1 ?_; (case hzk1 => with_reducible assumption); k_whole; intro _ _ _ _ _; (try dsimp only); (try k_fold))))) | (with_reducible ((with_reducible show wpAny _ _ (inplaceOp Operator.Add (Value.str _ _) (Value.str _ _)) _ _ _); (k_dflt (refine' iadd_v ?hzk1 ?hzk2 ?_; (case hzk1 => first | omega | decide); (case hzk2 => first | decide | omega); k_whole; intro _ _ _ _ _; (try dsimp only); (try k_fold))))) | (with_reducible ((with_reducible show wpAny _ _ (binaryOp Operator.Add (Value.str _ _) (Value.str _ _)) _ _ _); (k_dflt (refine' add_v ?hzk1 ?hzk2 ?_; (case hzk1 => first | omega | decide); (case hzk2 => first | decide | omega); k_whole; intro _ _ _ _ _; (try dsimp only); (try k_fold))))) | (with_reducible ((with_reducible show wpAny _ _ (subscriptTail (PySem.Expr.Name _ _) (PySem.Expr.Slice _ _ _ _) _ _) _ _ _); ((with_reducible show wpAny _ _ (subscriptTail _ (PySem.Expr.Slice _ _ none _) (Value.ref _) (Value.ref _)) _ _ _); k_dflt (refine' kmk_slice_ints ?hzF ?hzN ?hzl ?hzp ?hzq ?hzi ?hzm ?hzc ?_ ?hzs ?hzt ?hzz; (case hzF => k_asm); (case hzN => k_asm); (case hzl => is_list); (case hzp => first | exact IsPart.none | exact IsPart.int _ _); (case hzq => first | exact IsPart.none | exact IsPart.int _ _); (case hzi => with_reducible assumption); (case hzm => first | exact kmk_upto (by with_reducible assumption) (by omega) | exact kmk_from (by with_reducible assumption) (by omega)); (case hzc => exact rfl); (case hzs => with_unfolding_all rfl); (case hzt => (intro _; rfl)); (case hzz => with_reducible assumption)); intro _ _ _ _ _ _ _ _ _; (try dsimp only); (try k_fold)))) | (with_reducible ((with_reducible show wpAny _ _ (subscriptTail (PySem.Expr.Name _ _) (PySem.Expr.BinOp _ _ _ _) _ _) _ _ _); ((with_reducible show wpAny _ _ (subscriptTail _ _ (Value.ref _) (Value.int _ _)) _ _ _); k_dflt (refine' item_l ?hzk1 ?hzk2 ?hzk3 ?hzk4 ?_ ?hzk6; (case hzk1 => is_list); (case hzk4 => with_reducible assumption); (case hzk2 => omega); (case hzk3 => omega); (case hzk6 => with_unfolding_all rfl); k_whole)))) | (with_reducible ((with_reducible show wpAny _ _ (subscriptTail (PySem.Expr.Name _ _) (PySem.Expr.Name _ _) _ _) _ _ _); ((with_reducible show wpAny _ _ (subscriptTail _ _ (Value.ref _) (Value.int _ _)) _ _ _); k_dflt (refine' item_l ?hzk1 ?hzk2 ?hzk3 ?hzk4 ?_ ?hzk6; (case hzk1 => is_list); (case hzk4 => with_reducible assumption); (case hzk2 => omega); (case hzk3 => omega); (case hzk6 => with_unfolding_all rfl); k_whole)))) | (with_reducible ((with_reducible show wpAny _ _ (call (Value.type "range") _) _ _ _); (k_dflt (refine' range1_rows ?hzk1 ?hzk2 ?_; (case hzk1 => k_asm); (case hzk2 => k_asm); k_whole; intro _ _ _ _ _ _ _ _ _; (try dsimp only); (try k_fold))))) | (with_reducible ((with_reducible show wpAny _ _ (call (Value.builtin "max") _) _ _ _); (k_dflt (refine' max_list_N ?hzk1 ?hzk2 ?hzk3 ?hzk4 ?hzk5 ?hzk6 ?_; (case hzk1 => exact rfl); (case hzk2 => k_asm); (case hzk3 => k_asm); (case hzk4 => is_list); (case hzk5 => with_reducible assumption); (case hzk6 => omega); k_whole; intro _ _ _ _ _ _ _ _; (try dsimp only); (try k_fold))))) | (with_reducible ((with_reducible show wpAny _ _ (inplaceOp Operator.Add (Value.str _ _) (Value.str (Str.mk #[_]) _)) _ _ _); refine iadd1 (by with_reducible assumption) ?_; intro _ _)) | (with_reducible ((with_reducible show wpAny _ _ (PySem.truthy (Value.str _ _)) _ _ _); refine truthy_yes (by with_reducible assumption) (by with_reducible assumption) ?_)) | (with_reducible ((with_reducible show wpAny _ _ (execs _ _) _ _ _); (first | k_gentoks | ((with_reducible refine execs_one ?_); try dsimp only)))) | (with_reducible (with_reducible refine wpAny_If ?_)) | (with_reducible (first | (refine ite_isFalse (by with_reducible assumption) ?_) | (refine ite_pos (by with_reducible assumption) ?_) | (refine ite_neg (by with_reducible assumption) ?_))) | walk1 | dsimp only | (dsimp only; walk1) | (leave1; (try dsimp only)) | fail "no step")
            rename Fr g L1 _ _ => Fy
            refine str_comp rfl Tg Fy rfl (by decide) rfl (by decide) rfl (fun _ => rfl) (fun _ => rfl) ?_
            repeat' ((fail_if_success (with_reducible show QQ2 _ _)); (fail_if_success (with_reducible show ∃ _, _)); first | (k_unfold; (try dsimp only)) | (k_end; wrow_close) | (with_reducible ((with_reducible show wpAny _ _ (call (Value.type "str") _) _ _ _); (k_dflt (refine' str_int ?hzk1 ?_; (case hzk1 => with_reducible assumption); k_whole; intro _ _; (try dsimp only); (try k_fold))))) | (with_reducible ((with_reducible show wpAny _ _ (call (Value.type "int") _) _ _ _); (k_dflt (refine' KIN.call_text ?hzk1 ?hzk2 ?_; (case hzk1 => with_reducible assumption); (case hzk2 => with_reducible assumption); k_whole)))) | (with_reducible ((with_reducible show wpAny _ _ (binaryOp Operator.Mult (Value.str _ _) (Value.int _ _)) _ _ _); (k_dflt (refine' mul_blank ?hzk1 ?_; (case hzk1 => with_reducible assumption); k_whole; intro _ _ _ _ _; (try dsimp only); (try k_fold))))) | (with_reducible ((with_reducible show wpAny _ _ (inplaceOp Operator.Add (Value.str _ _) (Value.str _ _)) _ _ _); (k_dflt (refine' iadd_v ?hzk1 ?hzk2 ?_; (case hzk1 => first | omega | decide); (case hzk2 => first | decide | omega); k_whole; intro _ _ _ _ _; (try dsimp only); (try k_fold))))) | (with_reducible ((with_reducible show wpAny _ _ (binaryOp Operator.Add (Value.str _ _) (Value.str _ _)) _ _ _); (k_dflt (refine' add_v ?hzk1 ?hzk2 ?_; (case hzk1 => first | omega | decide); (case hzk2 => first | decide | omega); k_whole; intro _ _ _ _ _; (try dsimp only); (try k_fold))))) | (with_reducible ((with_reducible show wpAny _ _ (subscriptTail (PySem.Expr.Name _ _) (PySem.Expr.Slice _ _ _ _) _ _) _ _ _); ((with_reducible show wpAny _ _ (subscriptTail _ (PySem.Expr.Slice _ _ none _) (Value.ref _) (Value.ref _)) _ _ _); k_dflt (refine' kmk_slice_ints ?hzF ?hzN ?hzl ?hzp ?hzq ?hzi ?hzm ?hzc ?_ ?hzs ?hzt ?hzz; (case hzF => k_asm); (case hzN => k_asm); (case hzl => is_list); (case hzp => first | exact IsPart.none | exact IsPart.int _ _); (case hzq => first | exact IsPart.none | exact IsPart.int _ _); (case hzi => with_reducible assumption); (case hzm => first | exact kmk_upto (by with_reducible assumption) (by omega) | exact kmk_from (by with_reducible assumption) (by omega)); (case hzc => exact rfl); (case hzs => with_unfolding_all rfl); (case hzt => (intro _; rfl)); (case hzz => with_reducible assumption)); intro _ _ _ _ _ _ _ _ _; (try dsimp only); (try k_fold)))) | (with_reducible ((with_reducible show wpAny _ _ (subscriptTail (PySem.Expr.Name _ _) (PySem.Expr.BinOp _ _ _ _) _ _) _ _ _); ((with_reducible show wpAny _ _ (subscriptTail _ _ (Value.ref _) (Value.int _ _)) _ _ _); k_dflt (refine' item_l ?hzk1 ?hzk2 ?hzk3 ?hzk4 ?_ ?hzk6; (case hzk1 => is_list); (case hzk4 => with_reducible assumption); (case hzk2 => omega); (case hzk3 => omega); (case hzk6 => with_unfolding_all rfl); k_whole)))) | (with_reducible ((with_reducible show wpAny _ _ (subscriptTail (PySem.Expr.Name _ _) (PySem.Expr.Name _ _) _ _) _ _ _); ((with_reducible show wpAny _ _ (subscriptTail _ _ (Value.ref _) (Value.int _ _)) _ _ _); k_dflt (refine' item_l ?hzk1 ?hzk2 ?hzk3 ?hzk4 ?_ ?hzk6; (case hzk1 => is_list); (case hzk4 => with_reducible assumption); (case hzk2 => omega); (case hzk3 => omega); (case hzk6 => with_unfolding_all rfl); k_whole)))) | (with_reducible ((with_reducible show wpAny _ _ (call (Value.type "range") _) _ _ _); (k_dflt (refine' range1_rows ?hzk1 ?hzk2 ?_; (case hzk1 => k_asm); (case hzk2 => k_asm); k_whole; intro _ _ _ _ _ _ _ _ _; (try dsimp only); (try k_fold))))) | (with_reducible ((with_reducible show wpAny _ _ (call (Value.builtin "max") _) _ _ _); (k_dflt (refine' max_list_N ?hzk1 ?hzk2 ?hzk3 ?hzk4 ?hzk5 ?hzk6 ?_; (case hzk1 => exact rfl); (case hzk2 => k_asm); (case hzk3 => k_asm); (case hzk4 => is_list); (case hzk5 => with_reducible assumption); (case hzk6 => omega); k_whole; intro _ _ _ _ _ _ _ _; (try dsimp only); (try k_fold))))) | (with_reducible ((with_reducible show wpAny _ _ (inplaceOp Operator.Add (Value.str _ _) (Value.str (Str.mk #[_]) _)) _ _ _); refine iadd1 (by with_reducible assumption) ?_; intro _ _)) | (with_reducible ((with_reducible show wpAny _ _ (PySem.truthy (Value.str _ _)) _ _ _); refine truthy_yes (by with_reducible assumption) (by with_reducible assumption) ?_)) | (with_reducible ((with_reducible show wpAny _ _ (execs _ _) _ _ _); (first | k_gentoks | ((with_reducible refine execs_one ?_); try dsimp only)))) | (with_reducible (with_reducible refine wpAny_If ?_)) | (with_reducible (first | (refine ite_isFalse (by with_reducible assumption) ?_) | (refine ite_pos (by with_reducible assumption) ?_) | (refine ite_neg (by with_reducible assumption) ?_))) | walk1 | dsimp only | (dsimp only; walk1) | (leave1; (try dsimp only)) | fail "no step")
            rename (IntsAre _ (List.take _ _)) => hIz
            rename Fr g L1 _ _ => Fz
            rename News g L1 _ _ => Nz
            have etk : (c - (t : Int) - 1).toNat = (c - t).toNat - 1 := by omega
            rw [etk] at hIz
            refine ⟨_, _, _, _, rfl, Fz, Nz, news_isList Nz (.head _), hIz, fun n hn => hrb n (List.mem_of_mem_take hn), ?_, ?_⟩
            · have := List.length_take (i := (c - t).toNat - 1) (l := (upTo t sz ((turnsG sz P0 t).1, [], (turnsG sz P0 t).2) k).1)
              omega
            intro D' cD lw h10 tk10 hlw F10 N10 hD10
            clear Fz Nz hIz
            have hWs := wordsOk_of hlw (fun n hn => hrb n (List.mem_of_mem_take hn))
            have hll : lw.length < 10 := by
              have e := congrArg List.length hlw
              rw [List.length_map, List.length_map, List.length_take] at e
              omega
            have hline := join_ok' hlw
            have hlineL : (Txt.join " " (lw.map (·.1))).length ≤ 60 := by
              rw [← list_of_len, hline]
              have h1 := lineOf_len (ns := (upTo t sz ((turnsG sz P0 t).1, [], (turnsG sz P0 t).2) k).1.take ((c - t).toNat - 1)) (fun n hn => hrb n (List.mem_of_mem_take hn))
              have h2 := List.length_take (i := (c - t).toNat - 1) (l := (upTo t sz ((turnsG sz P0 t).1, [], (turnsG sz P0 t).2) k).1)
              omega
            (try dsimp only)
            (try k_fold)
            repeat' ((fail_if_success (with_reducible show QQ2 _ _)); (fail_if_success (with_reducible show wpAny _ _ (call (Value.ref 758) _) _ _ _)); first | (k_unfold; (try dsimp only)) | (k_end; wrow_close) | (with_reducible ((with_reducible show wpAny _ _ (call (Value.type "str") _) _ _ _); (k_dflt (refine' str_int ?hzk1 ?_; (case hzk1 => with_reducible assumption); k_whole; intro _ _; (try dsimp only); (try k_fold))))) | (with_reducible ((with_reducible show wpAny _ _ (call (Value.type "int") _) _ _ _); (k_dflt (refine' KIN.call_text ?hzk1 ?hzk2 ?_; (case hzk1 => with_reducible assumption); (case hzk2 => with_reducible assumption); k_whole)))) | (with_reducible ((with_reducible show wpAny _ _ (binaryOp Operator.Mult (Value.str _ _) (Value.int _ _)) _ _ _); (k_dflt (refine' mul_blank ?hzk1 ?_; (case hzk1 => with_reducible assumption); k_whole; intro _ _ _ _ _; (try dsimp only); (try k_fold))))) | (with_reducible ((with_reducible show wpAny _ _ (inplaceOp Operator.Add (Value.str _ _) (Value.str _ _)) _ _ _); (k_dflt (refine' iadd_v ?hzk1 ?hzk2 ?_; (case hzk1 => first | omega | decide); (case hzk2 => first | decide | omega); k_whole; intro _ _ _ _ _; (try dsimp only); (try k_fold))))) | (with_reducible ((with_reducible show wpAny _ _ (binaryOp Operator.Add (Value.str _ _) (Value.str _ _)) _ _ _); (k_dflt (refine' add_v ?hzk1 ?hzk2 ?_; (case hzk1 => first | omega | decide); (case hzk2 => first | decide | omega); k_whole; intro _ _ _ _ _; (try dsimp only); (try k_fold))))) | (with_reducible ((with_reducible show wpAny _ _ (subscriptTail (PySem.Expr.Name _ _) (PySem.Expr.Slice _ _ _ _) _ _) _ _ _); ((with_reducible show wpAny _ _ (subscriptTail _ (PySem.Expr.Slice _ _ none _) (Value.ref _) (Value.ref _)) _ _ _); k_dflt (refine' kmk_slice_ints ?hzF ?hzN ?hzl ?hzp ?hzq ?hzi ?hzm ?hzc ?_ ?hzs ?hzt ?hzz; (case hzF => k_asm); (case hzN => k_asm); (case hzl => is_list); (case hzp => first | exact IsPart.none | exact IsPart.int _ _); (case hzq => first | exact IsPart.none | exact IsPart.int _ _); (case hzi => with_reducible assumption); (case hzm => first | exact kmk_upto (by with_reducible assumption) (by omega) | exact kmk_from (by with_reducible assumption) (by omega)); (case hzc => exact rfl); (case hzs => with_unfolding_all rfl); (case hzt => (intro _; rfl)); (case hzz => with_reducible assumption)); intro _ _ _ _ _ _ _ _ _; (try dsimp only); (try k_fold)))) | (with_reducible ((with_reducible show wpAny _ _ (subscriptTail (PySem.Expr.Name _ _) (PySem.Expr.BinOp _ _ _ _) _ _) _ _ _); ((with_reducible show wpAny _ _ (subscriptTail _ _ (Value.ref _) (Value.int _ _)) _ _ _); k_dflt (refine' item_l ?hzk1 ?hzk2 ?hzk3 ?hzk4 ?_ ?hzk6; (case hzk1 => is_list); (case hzk4 => with_reducible assumption); (case hzk2 => omega); (case hzk3 => omega); (case hzk6 => with_unfolding_all rfl); k_whole)))) | (with_reducible ((with_reducible show wpAny _ _ (subscriptTail (PySem.Expr.Name _ _) (PySem.Expr.Name _ _) _ _) _ _ _); ((with_reducible show wpAny _ _ (subscriptTail _ _ (Value.ref _) (Value.int _ _)) _ _ _); k_dflt (refine' item_l ?hzk1 ?hzk2 ?hzk3 ?hzk4 ?_ ?hzk6; (case hzk1 => is_list); (case hzk4 => with_reducible assumption); (case hzk2 => omega); (case hzk3 => omega); (case hzk6 => with_unfolding_all rfl); k_whole)))) | (with_reducible ((with_reducible show wpAny _ _ (call (Value.type "range") _) _ _ _); (k_dflt (refine' range1_rows ?hzk1 ?hzk2 ?_; (case hzk1 => k_asm); (case hzk2 => k_asm); k_whole; intro _ _ _ _ _ _ _ _ _; (try dsimp only); (try k_fold))))) | (with_reducible ((with_reducible show wpAny _ _ (call (Value.builtin "max") _) _ _ _); (k_dflt (refine' max_list_N ?hzk1 ?hzk2 ?hzk3 ?hzk4 ?hzk5 ?hzk6 ?_; (case hzk1 => exact rfl); (case hzk2 => k_asm); (case hzk3 => k_asm); (case hzk4 => is_list); (case hzk5 => with_reducible assumption); (case hzk6 => omega); k_whole; intro _ _ _ _ _ _ _ _; (try dsimp only); (try k_fold))))) | (with_reducible ((with_reducible show wpAny _ _ (inplaceOp Operator.Add (Value.str _ _) (Value.str (Str.mk #[_]) _)) _ _ _); refine iadd1 (by with_reducible assumption) ?_; intro _ _)) | (with_reducible ((with_reducible show wpAny _ _ (PySem.truthy (Value.str _ _)) _ _ _); refine truthy_yes (by with_reducible assumption) (by with_reducible assumption) ?_)) | (with_reducible ((with_reducible show wpAny _ _ (execs _ _) _ _ _); (first | k_gentoks | ((with_reducible refine execs_one ?_); try dsimp only)))) | (with_reducible (with_reducible refine wpAny_If ?_)) | (with_reducible (first | (refine ite_isFalse (by with_reducible assumption) ?_) | (refine ite_pos (by with_reducible assumption) ?_) | (refine ite_neg (by with_reducible assumption) ?_))) | walk1 | dsimp only | (dsimp only; walk1) | (leave1; (try dsimp only)) | fail "no step")
            rename Fr g L1 _ _ => F11
            rename News g L1 _ _ => N11
            have inK : ∀ p ∈ ksA ++ ksB, ∃ k0 ∈ ks, k0.1 = p.1 := fun p hp => kin hka2 p (by
              rcases List.mem_append.mp hp with h | h <;> simp [h])
            have NJ : News g L1 _ ((753, op2) :: (D', listOf (strValues lw).toArray cD) :: (it2, rgObj ((k : Int) + 1) (((n2 + 1 : Nat) : Int) - 1) 1) :: (RA2, listOf (List.toArray RV2) cR2) :: (SA, listOf SV.toArray cS) :: (ST, listOf (List.map (fun k => Value.ref k.1) ks).toArray cST) :: (KA, listOf (List.toArray kv) kc) :: (ksA ++ (ksB ++ (it, rgObj ((t : Int) + 1) (((n + 1 : Nat) : Int) - 1) 1) :: news))) := fun p hp => N11 p (sq_h2 hp)
            have hnpJ : ∀ p ∈ ((D', listOf (strValues lw).toArray cD) :: (it2, rgObj ((k : Int) + 1) (((n2 + 1 : Nat) : Int) - 1) 1) :: (RA2, listOf (List.toArray RV2) cR2) :: (SA, listOf SV.toArray cS) :: (ST, listOf (List.map (fun k => Value.ref k.1) ks).toArray cST) :: (KA, listOf (List.toArray kv) kc) :: (ksA ++ (ksB ++ (it, rgObj ((t : Int) + 1) (((n + 1 : Nat) : Int) - 1) 1) :: news)) : List (Addr × Obj)), p.1 ≠ 753 := by
              obtain ⟨k0, hk0, hk1⟩ := KAin
              have xA : ∀ p ∈ ksA ++ ksB, p.1 ≠ 753 := fun p hp => by
                obtain ⟨k0, h1, h2⟩ := inK p hp
                rw [← h2]; exact (xK k0 h1).symm
              exact ne_c (hD10 (753, op2) (by first | exact me1 | exact me2)).symm (ne_c j753.symm (ne_c a1 (ne_c xS (ne_c tX.symm (ne_c (by rw [← hk1]; exact (xK k0 hk0).symm) (ne_a (fun p hp => xA p (mapL hp)) (ne_a (fun p hp => xA p (mapR hp)) (ne_c it753.symm xW))))))))
            k_dflt (refine' join_ok _ _ _ _ _ _ _ _ _ _ _ _ _ _ _ _ _ _ _ _ _ _ _ _ _ _ ?k1 F11 Xg Tg ?k5 NJ hop2 hnpJ (List.mem_cons_self ..) hG2 hWs hll ?k7 ?k8 ?_; (case k1 => exact Bg); (case k5 => first | exact rfl | assumption); (case k7 => ktr_room); (case k8 => ktr_units); k_whole)
            intro tJ op3 h12 tk12 gens12 ht12 F12 N12 G12
            have N13 : News g L1 h12 ((it2, rgObj ((k : Int) + 1) (((n2 + 1 : Nat) : Int) - 1) 1) :: (753, op3) :: (RA2, listOf (List.toArray RV2) cR2) :: (SA, listOf SV.toArray cS) :: (ST, listOf (List.map (fun k => Value.ref k.1) ks).toArray cST) :: (KA, listOf (List.toArray kv) kc) :: (ksA ++ (ksB ++ (it, rgObj ((t : Int) + 1) (((n + 1 : Nat) : Int) - 1) 1) :: news))) := fun p hp => N12 p (sq_n hp)
            clear N12 N11 NJ F11
            (try dsimp only)
            (try k_fold)
            repeat' ((fail_if_success (with_reducible show QQ2 _ _)); (fail_if_success (with_reducible show wpAny _ _ (call (Value.builtin "list.append") _) _ _ _)); first | (k_unfold; (try dsimp only)) | (k_end; wrow_close) | (with_reducible ((with_reducible show wpAny _ _ (call (Value.type "str") _) _ _ _); (k_dflt (refine' str_int ?hzk1 ?_; (case hzk1 => with_reducible assumption); k_whole; intro _ _; (try dsimp only); (try k_fold))))) | (with_reducible ((with_reducible show wpAny _ _ (call (Value.type "int") _) _ _ _); (k_dflt (refine' KIN.call_text ?hzk1 ?hzk2 ?_; (case hzk1 => with_reducible assumption); (case hzk2 => with_reducible assumption); k_whole)))) | (with_reducible ((with_reducible show wpAny _ _ (binaryOp Operator.Mult (Value.str _ _) (Value.int _ _)) _ _ _); (k_dflt (refine' mul_blank ?hzk1 ?_; (case hzk1 => with_reducible assumption); k_whole; intro _ _ _ _ _; (try dsimp only); (try k_fold))))) | (with_reducible ((with_reducible show wpAny _ _ (inplaceOp Operator.Add (Value.str _ _) (Value.str _ _)) _ _ _); (k_dflt (refine' iadd_v ?hzk1 ?hzk2 ?_; (case hzk1 => first | omega | decide); (case hzk2 => first | decide | omega); k_whole; intro _ _ _ _ _; (try dsimp only); (try k_fold))))) | (with_reducible ((with_reducible show wpAny _ _ (binaryOp Operator.Add (Value.str _ _) (Value.str _ _)) _ _ _); (k_dflt (refine' add_v ?hzk1 ?hzk2 ?_; (case hzk1 => first | omega | decide); (case hzk2 => first | decide | omega); k_whole; intro _ _ _ _ _; (try dsimp only); (try k_fold))))) | (with_reducible ((with_reducible show wpAny _ _ (subscriptTail (PySem.Expr.Name _ _) (PySem.Expr.Slice _ _ _ _) _ _) _ _ _); ((with_reducible show wpAny _ _ (subscriptTail _ (PySem.Expr.Slice _ _ none _) (Value.ref _) (Value.ref _)) _ _ _); k_dflt (refine' kmk_slice_ints ?hzF ?hzN ?hzl ?hzp ?hzq ?hzi ?hzm ?hzc ?_ ?hzs ?hzt ?hzz; (case hzF => k_asm); (case hzN => k_asm); (case hzl => is_list); (case hzp => first | exact IsPart.none | exact IsPart.int _ _); (case hzq => first | exact IsPart.none | exact IsPart.int _ _); (case hzi => with_reducible assumption); (case hzm => first | exact kmk_upto (by with_reducible assumption) (by omega) | exact kmk_from (by with_reducible assumption) (by omega)); (case hzc => exact rfl); (case hzs => with_unfolding_all rfl); (case hzt => (intro _; rfl)); (case hzz => with_reducible assumption)); intro _ _ _ _ _ _ _ _ _; (try dsimp only); (try k_fold)))) | (with_reducible ((with_reducible show wpAny _ _ (subscriptTail (PySem.Expr.Name _ _) (PySem.Expr.BinOp _ _ _ _) _ _) _ _ _); ((with_reducible show wpAny _ _ (subscriptTail _ _ (Value.ref _) (Value.int _ _)) _ _ _); k_dflt (refine' item_l ?hzk1 ?hzk2 ?hzk3 ?hzk4 ?_ ?hzk6; (case hzk1 => is_list); (case hzk4 => with_reducible assumption); (case hzk2 => omega); (case hzk3 => omega); (case hzk6 => with_unfolding_all rfl); k_whole)))) | (with_reducible ((with_reducible show wpAny _ _ (subscriptTail (PySem.Expr.Name _ _) (PySem.Expr.Name _ _) _ _) _ _ _); ((with_reducible show wpAny _ _ (subscriptTail _ _ (Value.ref _) (Value.int _ _)) _ _ _); k_dflt (refine' item_l ?hzk1 ?hzk2 ?hzk3 ?hzk4 ?_ ?hzk6; (case hzk1 => is_list); (case hzk4 => with_reducible assumption); (case hzk2 => omega); (case hzk3 => omega); (case hzk6 => with_unfolding_all rfl); k_whole)))) | (with_reducible ((with_reducible show wpAny _ _ (call (Value.type "range") _) _ _ _); (k_dflt (refine' range1_rows ?hzk1 ?hzk2 ?_; (case hzk1 => k_asm); (case hzk2 => k_asm); k_whole; intro _ _ _ _ _ _ _ _ _; (try dsimp only); (try k_fold))))) | (with_reducible ((with_reducible show wpAny _ _ (call (Value.builtin "max") _) _ _ _); (k_dflt (refine' max_list_N ?hzk1 ?hzk2 ?hzk3 ?hzk4 ?hzk5 ?hzk6 ?_; (case hzk1 => exact rfl); (case hzk2 => k_asm); (case hzk3 => k_asm); (case hzk4 => is_list); (case hzk5 => with_reducible assumption); (case hzk6 => omega); k_whole; intro _ _ _ _ _ _ _ _; (try dsimp only); (try k_fold))))) | (with_reducible ((with_reducible show wpAny _ _ (inplaceOp Operator.Add (Value.str _ _) (Value.str (Str.mk #[_]) _)) _ _ _); refine iadd1 (by with_reducible assumption) ?_; intro _ _)) | (with_reducible ((with_reducible show wpAny _ _ (PySem.truthy (Value.str _ _)) _ _ _); refine truthy_yes (by with_reducible assumption) (by with_reducible assumption) ?_)) | (with_reducible ((with_reducible show wpAny _ _ (execs _ _) _ _ _); (first | k_gentoks | ((with_reducible refine execs_one ?_); try dsimp only)))) | (with_reducible (with_reducible refine wpAny_If ?_)) | (with_reducible (first | (refine ite_isFalse (by with_reducible assumption) ?_) | (refine ite_pos (by with_reducible assumption) ?_) | (refine ite_neg (by with_reducible assumption) ?_))) | walk1 | dsimp only | (dsimp only; walk1) | (leave1; (try dsimp only)) | fail "no step")
            rename (_ = text ++ _) => q5
            rename (_ = _ ++ Str.ofString "'\n") => q4
            rename (_ = _ ++ txt x) => q3
            rename (_ = _ ++ Str.ofString "#") => q2
            rename (_ = Txt.join _ _ ++ _) => q1
            rename (_ = List.replicate _ _) => q0
            rename Fr g L1 _ _ => F14
            rename News g L1 _ _ => N14
            have hb1 : (Int.fmod (t : Int) 2).toNat ≤ 1 := by rcases hf2 with h | h <;> rw [h] <;> decide
            have htx5 := TxtOk.step5 htx hb1 q5 q4 q3 q2 q1 q0 hline
            have NP : News g L1 _ ((KA, listOf (List.toArray kv) kc) :: (it2, rgObj ((k : Int) + 1) (((n2 + 1 : Nat) : Int) - 1) 1) :: (753, op3) :: (RA2, listOf (List.toArray RV2) cR2) :: (SA, listOf SV.toArray cS) :: (ST, listOf (List.map (fun k => Value.ref k.1) ks).toArray cST) :: (ksA ++ (ksB ++ (it, rgObj ((t : Int) + 1) (((n + 1 : Nat) : Int) - 1) 1) :: news))) := fun p hp => N14 p (sq_p hp)
            have hnd2 : ((ksA ++ (KA, listOf (List.toArray kv) kc) :: ksB).map (·.1)).Pairwise (· ≠ ·) := by rw [hka2]; exact hnd
            rw [List.map_append, List.map_cons, List.pairwise_append] at hnd2
            obtain ⟨_, hndB, hndA⟩ := hnd2
            have hneA : ∀ p ∈ ((it2, rgObj ((k : Int) + 1) (((n2 + 1 : Nat) : Int) - 1) 1) :: (753, op3) :: (RA2, listOf (List.toArray RV2) cR2) :: (SA, listOf SV.toArray cS) :: (ST, listOf (List.map (fun k => Value.ref k.1) ks).toArray cST) :: (ksA ++ (ksB ++ (it, rgObj ((t : Int) + 1) (((n + 1 : Nat) : Int) - 1) 1) :: news)) : List (Addr × Obj)), p.1 ≠ KA := by
              obtain ⟨k0, h1, h2⟩ := KAin
              subst h2
              exact ne_c (jK k0 h1).symm (ne_c (xK k0 h1) (ne_c (a3 k0 h1) (ne_c (sK k0 h1) (ne_c (hksT k0 h1).symm (ne_a (fun p hp => hndA p.1 (List.mem_map.mpr ⟨p, hp, rfl⟩) _ (by simp)) (ne_a (fun p hp => ((List.pairwise_cons.mp hndB).1 p.1 (List.mem_map.mpr ⟨p, hp, rfl⟩)).symm) (ne_c (itk k0 h1).symm (fun p hp => wK p hp k0 h1))))))))
            have hkvl : kv.length < 1000 := by
              have h1 := IntsAre.length hkv
              have h2 := kid_len (ks := ks) (k := k) (upTo_kids (t := t) (sz := sz) (row := (turnsG sz P0 t).1) hrow.short k) (by rw [len3]; exact hkl)
              omega
            refine append_led F14 NP hneA hkvl ?_
            intro c15 h15 s15 F15 N15
            have N16 : News g L1 h15 ((it2, rgObj ((k : Int) + 1) (((n2 + 1 : Nat) : Int) - 1) 1) :: (753, op3) :: (RA2, listOf (List.toArray RV2) cR2) :: (SA, listOf SV.toArray cS) :: (ST, listOf (List.map (fun k => Value.ref k.1) ks).toArray cST) :: (KA, listOf (List.toArray (kv ++ [.int x tXr])) c15) :: (ksA ++ (ksB ++ (it, rgObj ((t : Int) + 1) (((n + 1 : Nat) : Int) - 1) 1) :: news))) := fun p hp => N15 p (sq_q hp)
            clear N15 NP F14 N14 hneA hnpJ hD10
            (try dsimp only)
            (try k_fold)
            repeat' ((fail_if_success (with_reducible show QQ2 _ _)); first | (k_unfold; (try dsimp only)) | (k_end; wrow_close) | (with_reducible ((with_reducible show wpAny _ _ (call (Value.type "str") _) _ _ _); (k_dflt (refine' str_int ?hzk1 ?_; (case hzk1 => with_reducible assumption); k_whole; intro _ _; (try dsimp only); (try k_fold))))) | (with_reducible ((with_reducible show wpAny _ _ (call (Value.type "int") _) _ _ _); (k_dflt (refine' KIN.call_text ?hzk1 ?hzk2 ?_; (case hzk1 => with_reducible assumption); (case hzk2 => with_reducible assumption); k_whole)))) | (with_reducible ((with_reducible show wpAny _ _ (binaryOp Operator.Mult (Value.str _ _) (Value.int _ _)) _ _ _); (k_dflt (refine' mul_blank ?hzk1 ?_; (case hzk1 => with_reducible assumption); k_whole; intro _ _ _ _ _; (try dsimp only); (try k_fold))))) | (with_reducible ((with_reducible show wpAny _ _ (inplaceOp Operator.Add (Value.str _ _) (Value.str _ _)) _ _ _); (k_dflt (refine' iadd_v ?hzk1 ?hzk2 ?_; (case hzk1 => first | omega | decide); (case hzk2 => first | decide | omega); k_whole; intro _ _ _ _ _; (try dsimp only); (try k_fold))))) | (with_reducible ((with_reducible show wpAny _ _ (binaryOp Operator.Add (Value.str _ _) (Value.str _ _)) _ _ _); (k_dflt (refine' add_v ?hzk1 ?hzk2 ?_; (case hzk1 => first | omega | decide); (case hzk2 => first | decide | omega); k_whole; intro _ _ _ _ _; (try dsimp only); (try k_fold))))) | (with_reducible ((with_reducible show wpAny _ _ (subscriptTail (PySem.Expr.Name _ _) (PySem.Expr.Slice _ _ _ _) _ _) _ _ _); ((with_reducible show wpAny _ _ (subscriptTail _ (PySem.Expr.Slice _ _ none _) (Value.ref _) (Value.ref _)) _ _ _); k_dflt (refine' kmk_slice_ints ?hzF ?hzN ?hzl ?hzp ?hzq ?hzi ?hzm ?hzc ?_ ?hzs ?hzt ?hzz; (case hzF => k_asm); (case hzN => k_asm); (case hzl => is_list); (case hzp => first | exact IsPart.none | exact IsPart.int _ _); (case hzq => first | exact IsPart.none | exact IsPart.int _ _); (case hzi => with_reducible assumption); (case hzm => first | exact kmk_upto (by with_reducible assumption) (by omega) | exact kmk_from (by with_reducible assumption) (by omega)); (case hzc => exact rfl); (case hzs => with_unfolding_all rfl); (case hzt => (intro _; rfl)); (case hzz => with_reducible assumption)); intro _ _ _ _ _ _ _ _ _; (try dsimp only); (try k_fold)))) | (with_reducible ((with_reducible show wpAny _ _ (subscriptTail (PySem.Expr.Name _ _) (PySem.Expr.BinOp _ _ _ _) _ _) _ _ _); ((with_reducible show wpAny _ _ (subscriptTail _ _ (Value.ref _) (Value.int _ _)) _ _ _); k_dflt (refine' item_l ?hzk1 ?hzk2 ?hzk3 ?hzk4 ?_ ?hzk6; (case hzk1 => is_list); (case hzk4 => with_reducible assumption); (case hzk2 => omega); (case hzk3 => omega); (case hzk6 => with_unfolding_all rfl); k_whole)))) | (with_reducible ((with_reducible show wpAny _ _ (subscriptTail (PySem.Expr.Name _ _) (PySem.Expr.Name _ _) _ _) _ _ _); ((with_reducible show wpAny _ _ (subscriptTail _ _ (Value.ref _) (Value.int _ _)) _ _ _); k_dflt (refine' item_l ?hzk1 ?hzk2 ?hzk3 ?hzk4 ?_ ?hzk6; (case hzk1 => is_list); (case hzk4 => with_reducible assumption); (case hzk2 => omega); (case hzk3 => omega); (case hzk6 => with_unfolding_all rfl); k_whole)))) | (with_reducible ((with_reducible show wpAny _ _ (call (Value.type "range") _) _ _ _); (k_dflt (refine' range1_rows ?hzk1 ?hzk2 ?_; (case hzk1 => k_asm); (case hzk2 => k_asm); k_whole; intro _ _ _ _ _ _ _ _ _; (try dsimp only); (try k_fold))))) | (with_reducible ((with_reducible show wpAny _ _ (call (Value.builtin "max") _) _ _ _); (k_dflt (refine' max_list_N ?hzk1 ?hzk2 ?hzk3 ?hzk4 ?hzk5 ?hzk6 ?_; (case hzk1 => exact rfl); (case hzk2 => k_asm); (case hzk3 => k_asm); (case hzk4 => is_list); (case hzk5 => with_reducible assumption); (case hzk6 => omega); k_whole; intro _ _ _ _ _ _ _ _; (try dsimp only); (try k_fold))))) | (with_reducible ((with_reducible show wpAny _ _ (inplaceOp Operator.Add (Value.str _ _) (Value.str (Str.mk #[_]) _)) _ _ _); refine iadd1 (by with_reducible assumption) ?_; intro _ _)) | (with_reducible ((with_reducible show wpAny _ _ (PySem.truthy (Value.str _ _)) _ _ _); refine truthy_yes (by with_reducible assumption) (by with_reducible assumption) ?_)) | (with_reducible ((with_reducible show wpAny _ _ (execs _ _) _ _ _); (first | k_gentoks | ((with_reducible refine execs_one ?_); try dsimp only)))) | (with_reducible (with_reducible refine wpAny_If ?_)) | (with_reducible (first | (refine ite_isFalse (by with_reducible assumption) ?_) | (refine ite_pos (by with_reducible assumption) ?_) | (refine ite_neg (by with_reducible assumption) ?_))) | walk1 | dsimp only | (dsimp only; walk1) | (leave1; (try dsimp only)) | fail "no step")
            rename (∀ p : Addr × Obj, p ∈ _ → p.1 < _) => lz
            rename (IntsAre _ (List.drop _ _)) => hIz
            rename Fr g L1 _ _ => Fz
            rename News g L1 _ _ => Nz
            have e1 : (k : Int) + 1 = ((k + 1 : Nat) : Int) := by omega
            have e2 : ((n2 + 1 : Nat) : Int) - 1 = (n2 : Int) := by omega
            have dl : ∀ {p : Addr × Obj}, p ∈ ((it2, rgObj ((k : Int) + 1) (((n2 + 1 : Nat) : Int) - 1) 1) :: (753, op3) :: (RA2, listOf (List.toArray RV2) cR2) :: (SA, listOf SV.toArray cS) :: (ST, listOf (List.map (fun k => Value.ref k.1) ks).toArray cST) :: (KA, listOf (List.toArray (kv ++ [.int x tXr])) c15) :: (ksA ++ (ksB ++ (it, rgObj ((t : Int) + 1) (((n + 1 : Nat) : Int) - 1) 1) :: news)) : List (Addr × Obj)) → _ ≠ p.1 := fun {p} hp => Ne.symm (Nat.ne_of_lt (lz p hp))
            have hka3 : (ksA ++ (KA, listOf (List.toArray (kv ++ [.int x tXr])) c15) :: ksB).map (·.1) = ks.map (·.1) := by rw [← hka2]; simp
            have dk : ∀ k0 ∈ ks, _ ≠ k0.1 := fun k0 hk0 => by
              have : k0.1 ∈ (ksA ++ (KA, listOf (List.toArray (kv ++ [.int x tXr])) c15) :: ksB).map (·.1) := by rw [hka3]; exact List.mem_map.mpr ⟨k0, hk0, rfl⟩
              obtain ⟨k', h1, h2⟩ := List.mem_map.mp this
              rw [← h2]
              exact dl (sq_w h1)
            refine hnx2 _ (less' n2 (by omega) ⟨k + 1, _, _, _, op3, _, _, 0, ksA ++ (KA, listOf (List.toArray (kv ++ [.int x tXr])) c15) :: ksB, _, _, _, _, by omega, dl (p := (it2, rgObj ((k : Int) + 1) (((n2 + 1 : Nat) : Int) - 1) 1)) me0, rfl, G12, ht12, Fr.re Fz (loc_at [("row", .ref _), ("text", .str _ _), ("turn", .int (t : Int) _), ("struck", .ref ST), ("sizes", .ref SA)] (.cons rfl (.cons rfl (.cons rfl (.cons rfl (.cons rfl .nil)))))), by rw [hup]; exact hIz, ?_, hka3, by rw [hup]; exact htx5, by omega, dl (p := (753, op3)) me1, dl (p := (ST, listOf (List.map (fun k => Value.ref k.1) ks).toArray cST)) me4, dk, dl (p := (it, rgObj ((t : Int) + 1) (((n + 1 : Nat) : Int) - 1) 1)) (mt6 (mapR (mapR me0))), ?_⟩)
            · rw [hup, hx] at *
              exact hset _ _ _ (ints_snoc hkv)
            · intro p hp
              rw [← e1, ← e2] at hp
              exact Nz p (sq_u hp)
          · have hup : (upTo t sz ((turnsG sz P0 t).1, [], (turnsG sz P0 t).2) (k + 1)) = (upTo t sz ((turnsG sz P0 t).1, [], (turnsG sz P0 t).2) k) := by rw [upTo_succ, stepG, ← hc, if_neg hact]
            have hp1 : decide (0 < c - (t : Int)) = false := by simp; omega
            repeat' ((fail_if_success (with_reducible show QQ2 _ _)); first | (k_unfold; (try dsimp only)) | (k_end; wrow_close) | (with_reducible ((with_reducible show wpAny _ _ (call (Value.type "str") _) _ _ _); (k_dflt (refine' str_int ?hzk1 ?_; (case hzk1 => with_reducible assumption); k_whole; intro _ _; (try dsimp only); (try k_fold))))) | (with_reducible ((with_reducible show wpAny _ _ (call (Value.type "int") _) _ _ _); (k_dflt (refine' KIN.call_text ?hzk1 ?hzk2 ?_; (case hzk1 => with_reducible assumption); (case hzk2 => with_reducible assumption); k_whole)))) | (with_reducible ((with_reducible show wpAny _ _ (binaryOp Operator.Mult (Value.str _ _) (Value.int _ _)) _ _ _); (k_dflt (refine' mul_blank ?hzk1 ?_; (case hzk1 => with_reducible assumption); k_whole; intro _ _ _ _ _; (try dsimp only); (try k_fold))))) | (with_reducible ((with_reducible show wpAny _ _ (inplaceOp Operator.Add (Value.str _ _) (Value.str _ _)) _ _ _); (k_dflt (refine' iadd_v ?hzk1 ?hzk2 ?_; (case hzk1 => first | omega | decide); (case hzk2 => first | decide | omega); k_whole; intro _ _ _ _ _; (try dsimp only); (try k_fold))))) | (with_reducible ((with_reducible show wpAny _ _ (binaryOp Operator.Add (Value.str _ _) (Value.str _ _)) _ _ _); (k_dflt (refine' add_v ?hzk1 ?hzk2 ?_; (case hzk1 => first | omega | decide); (case hzk2 => first | decide | omega); k_whole; intro _ _ _ _ _; (try dsimp only); (try k_fold))))) | (with_reducible ((with_reducible show wpAny _ _ (subscriptTail (PySem.Expr.Name _ _) (PySem.Expr.Slice _ _ _ _) _ _) _ _ _); ((with_reducible show wpAny _ _ (subscriptTail _ (PySem.Expr.Slice _ _ none _) (Value.ref _) (Value.ref _)) _ _ _); k_dflt (refine' kmk_slice_ints ?hzF ?hzN ?hzl ?hzp ?hzq ?hzi ?hzm ?hzc ?_ ?hzs ?hzt ?hzz; (case hzF => k_asm); (case hzN => k_asm); (case hzl => is_list); (case hzp => first | exact IsPart.none | exact IsPart.int _ _); (case hzq => first | exact IsPart.none | exact IsPart.int _ _); (case hzi => with_reducible assumption); (case hzm => first | exact kmk_upto (by with_reducible assumption) (by omega) | exact kmk_from (by with_reducible assumption) (by omega)); (case hzc => exact rfl); (case hzs => with_unfolding_all rfl); (case hzt => (intro _; rfl)); (case hzz => with_reducible assumption)); intro _ _ _ _ _ _ _ _ _; (try dsimp only); (try k_fold)))) | (with_reducible ((with_reducible show wpAny _ _ (subscriptTail (PySem.Expr.Name _ _) (PySem.Expr.BinOp _ _ _ _) _ _) _ _ _); ((with_reducible show wpAny _ _ (subscriptTail _ _ (Value.ref _) (Value.int _ _)) _ _ _); k_dflt (refine' item_l ?hzk1 ?hzk2 ?hzk3 ?hzk4 ?_ ?hzk6; (case hzk1 => is_list); (case hzk4 => with_reducible assumption); (case hzk2 => omega); (case hzk3 => omega); (case hzk6 => with_unfolding_all rfl); k_whole)))) | (with_reducible ((with_reducible show wpAny _ _ (subscriptTail (PySem.Expr.Name _ _) (PySem.Expr.Name _ _) _ _) _ _ _); ((with_reducible show wpAny _ _ (subscriptTail _ _ (Value.ref _) (Value.int _ _)) _ _ _); k_dflt (refine' item_l ?hzk1 ?hzk2 ?hzk3 ?hzk4 ?_ ?hzk6; (case hzk1 => is_list); (case hzk4 => with_reducible assumption); (case hzk2 => omega); (case hzk3 => omega); (case hzk6 => with_unfolding_all rfl); k_whole)))) | (with_reducible ((with_reducible show wpAny _ _ (call (Value.type "range") _) _ _ _); (k_dflt (refine' range1_rows ?hzk1 ?hzk2 ?_; (case hzk1 => k_asm); (case hzk2 => k_asm); k_whole; intro _ _ _ _ _ _ _ _ _; (try dsimp only); (try k_fold))))) | (with_reducible ((with_reducible show wpAny _ _ (call (Value.builtin "max") _) _ _ _); (k_dflt (refine' max_list_N ?hzk1 ?hzk2 ?hzk3 ?hzk4 ?hzk5 ?hzk6 ?_; (case hzk1 => exact rfl); (case hzk2 => k_asm); (case hzk3 => k_asm); (case hzk4 => is_list); (case hzk5 => with_reducible assumption); (case hzk6 => omega); k_whole; intro _ _ _ _ _ _ _ _; (try dsimp only); (try k_fold))))) | (with_reducible ((with_reducible show wpAny _ _ (inplaceOp Operator.Add (Value.str _ _) (Value.str (Str.mk #[_]) _)) _ _ _); refine iadd1 (by with_reducible assumption) ?_; intro _ _)) | (with_reducible ((with_reducible show wpAny _ _ (PySem.truthy (Value.str _ _)) _ _ _); refine truthy_yes (by with_reducible assumption) (by with_reducible assumption) ?_)) | (with_reducible ((with_reducible show wpAny _ _ (execs _ _) _ _ _); (first | k_gentoks | ((with_reducible refine execs_one ?_); try dsimp only)))) | (with_reducible (with_reducible refine wpAny_If ?_)) | (with_reducible (first | (refine ite_isFalse (by with_reducible assumption) ?_) | (refine ite_pos (by with_reducible assumption) ?_) | (refine ite_neg (by with_reducible assumption) ?_))) | walk1 | dsimp only | (dsimp only; walk1) | (leave1; (try dsimp only)) | fail "no step")
            rename Fr g L1 _ _ => Fz
            rename News g L1 _ _ => Nz
            have e1 : (k : Int) + 1 = ((k + 1 : Nat) : Int) := by omega
            have e2 : ((n2 + 1 : Nat) : Int) - 1 = (n2 : Int) := by omega
            rw [e1, e2] at Nz
            refine hnx2 _ (less' n2 (by omega) ⟨k + 1, _, _, _, op2, RA2, RV2, cR2, ks2, text, _, _, _, by omega, a5, rfl, hG2, hop2, Fr.re Fz (loc_at [("row", .ref RA2), ("text", .str text _), ("turn", .int (t : Int) _), ("struck", .ref ST), ("sizes", .ref SA)] (.cons rfl (.cons rfl (.cons rfl (.cons rfl (.cons rfl .nil)))))), by rw [hup]; exact hRV2, by rw [hup]; exact hKs2, hka2, by rw [hup]; exact htx, by omega, a1, a2, a3, a4, Nz⟩)
end
section
section
variable {prog : Program} {w : World} {A : Around} {E : Value → Shared → Prop} {s : Shared} {h₀ : Heap} {L : Addr} {m : Str → Option Value} {news : List (Addr × Obj)} {Q : Value → Shared → Prop}
theorem rep_flat (v : Value) (n : Nat) : (List.replicate n [v]).flatten = List.replicate n v := by
  induction n with
  | zero => rfl
  | succ n ih => rw [List.replicate_succ, List.replicate_succ, List.flatten_cons, ih]; rfl
/-- [v] * x -/
theorem mul_led {l : Addr} {v : Value} {x : Int} {u : Tok} {k : Nat}
    (Fm : Fr h₀ L s.heap m) (N : News h₀ L s.heap news) (ho : s.heap.get? l = some (listOf #[v] k)) (hlo : -100 ≤ x) (hhi : x < 100)
    (h : ∀ D h', Fr h₀ L h' m → News h₀ L h' ((D, listOf (List.toArray (List.replicate x.toNat v)) 0) :: news) → (∀ p ∈ news, p.1 < D) → Q (.ref D) { s with heap := h' }) :
    wpAny (model prog w) A (binaryOp .Mult (.ref l) (.int x u)) Q E s := by
  refine wpAny_binaryOp_repeat_ref (T := "list") (U := "int") (by decide) ⟨_, ho, rfl⟩ (fun s' => typeIs_int s' x u) noFill_list_mul F.fills_int_mul F.slot_int_rmul repeat_list F.slot_int_index.lookup
    (call_meets F.slot_int_rmul (typeIs_int s x u) F.entry_int_rmul (F.args_int_rmul_2 _ _) (lm_int_rmul_list_any x u l #[v] k none #[])
      ⟨ho, rfl, ⟨_, ho, rfl⟩, call_meets F.slot_list_mul ⟨_, ho, rfl⟩ F.entry_list_mul (F.args_list_mul_2 _ _)
        (lm_list_mul_any l #[v] k none #[] x u (by simp [Builtin.List.listFitsIndex]; omega) (by simp; omega) (by simp [Builtin.List.listTooLong, sizeLine]; omega))
        ⟨ho, ?_⟩⟩)
  have N' := News.push Fm N { cls := Value.type "list", data := Data.seq (List.foldl (fun x1 x2 => x1 ++ x2) #[] (List.replicate (if (#[v] : Array Value).isEmpty = true then 0 else x.toNat) #[v])) }
  have e : List.foldl (fun x1 x2 => x1 ++ x2) #[] (List.replicate (if (#[v] : Array Value).isEmpty = true then 0 else x.toNat) #[v]) = (List.replicate x.toNat v).toArray := by
    rw [listMul_foldl_if]
    show (List.replicate x.toNat [v]).flatten.toArray = _
    rw [rep_flat]
  rw [e] at N'
  have := h s.heap.objs.size _ (Fm.push _) N' (fun p hp => Heap.lt_size (N p hp).1)
  rw [e]
  exact this
theorem seq_iadd : seqSlot? (.type "list") (dunderI "add") = pure (some (.builtin "list.__iadd__")) := by
  unfold seqSlot?
  rw [F.slot_list_iadd.lookup]
  kernel_rfl
theorem nofill_iadd : fillsInplaceSlot (.type "list") "add" (Operator.Add == .Add) = pure false := by
  unfold fillsInplaceSlot
  show (typeLookup (.type "list") (dunderI "add") >>= fun fi => pure (fi.isSome && !isSeqSlot fi)) = pure false
  rw [F.slot_list_iadd.lookup]
  kernel_rfl
/-- l += b of two lists of the ledger -/
theorem iadd_led {l b : Addr} {vs ws : List Value} {c c2 : Nat} (F : Fr h₀ L s.heap m) (N : News h₀ L s.heap ((l, listOf vs.toArray c) :: news)) (hb : (b, listOf ws.toArray c2) ∈ news) (hne : ∀ p ∈ news, p.1 ≠ l) (h1 : vs.length < 1000) (h2 : ws.length < 1000)
    (hQ : ∀ c' h', Fr h₀ L h' m → News h₀ L h' ((l, listOf (vs ++ ws).toArray c') :: news) → Q (.ref l) { s with heap := h' }) :
    wpAny (model prog w) A (inplaceOp .Add (.ref l) (.ref b)) Q E s := by
  obtain ⟨el, hL, h0⟩ := N _ (.head _)
  have eb := (N _ (.tail _ hb)).1
  have sl : (1000 : Nat) + 1000 ≤ sizeLine := by decide
  have hz : ¬(!vs.toArray.isEmpty && Builtin.List.listTooLong (vs.toArray.size + ws.toArray.size)) = true := by
    have : Builtin.List.listTooLong (vs.toArray.size + ws.toArray.size) = false := by
      simp [Builtin.List.listTooLong]
      omega
    rw [this, Bool.and_false]
    exact Bool.false_ne_true
  unfold inplaceOp
  refine wpAny_holding ?_
  refine wpAny_bind (wpAny_typeOf (T := "list") ⟨_, el, rfl⟩ (wpAny_bind (wpAny_of_eq nofill_iadd ?_)))
  show wpAny _ A (if false = true then _ else _) Q E s
  rw [if_neg Bool.false_ne_true]
  refine wpAny_bind (wpAny_binaryOp1_none (nm := "add") (T := "list") ⟨_, el, rfl⟩ ⟨_, eb, rfl⟩ noFill_list_add ?_)
  refine wpAny_bind (wpAny_of_eq seq_iadd ?_)
  refine wpAny_bind (wpAny_rule ?_)
  refine call_meets PySem.F.slot_list_iadd ⟨_, el, rfl⟩ PySem.F.entry_list_iadd (PySem.F.args_list_iadd_2 _ _) (PySem.AutoSeq1.list___iadd___list_list_0 l vs.toArray c b ws.toArray c2 hz (by simp; omega) (by simp; omega)) ⟨el, eb, ?_⟩
  have hs : Heap.SameBut l s.heap (s.heap.update l (Obj.mapSeq fun x => x ++ ws.toArray)) := Heap.SameBut.update ..
  have e' : (s.heap.update l (Obj.mapSeq fun x => x ++ ws.toArray)).get? l = some (listOf (vs ++ ws).toArray (if (vs.toArray ++ ws.toArray).size == vs.toArray.size then c else c + 1)) := by
    rw [Heap.get?_update_self _ el rfl]
    simp [Obj.mapSeq]
  exact hQ _ _ (fr_but F h0 hL hs.extBut) (news_with (news' := news) (o' := listOf #[] 0) (news_but (fun p hp => N p (.tail _ hp)) hne hs.extBut) e' hL h0)
end
end
section
noncomputable abbrev zipObj (TI TO : Addr) (f0 : Value) : Obj := { cls := .type "zip", dict := none, data := .fields #[f0, .bool false, .bool false, .ref TI, .ref TO], slots := #[] }
noncomputable abbrev pairObj (a b : Value) : Obj := { cls := .type "tuple", data := .seq #[a, b] }
section
variable {prog : Program} {w : World} {A : Around} {E : Value → Shared → Prop} {s : Shared} {h₀ : Heap} {L : Addr} {m : Str → Option Value} {news : List (Addr × Obj)} {Q : Value → Shared → Prop}
theorem zip_led {l1 l2 : Addr} {xs ys : Array Value} (F : Fr h₀ L s.heap m) (N : News h₀ L s.heap news) (hl1 : s.heap.IsList l1 xs) (hl2 : s.heap.IsList l2 ys)
    (h : ∀ z TI TO i1 i2 o1 o2 h', Fr h₀ L h' m → News h₀ L h' ((z, zipObj TI TO .none) :: (TI, pairObj (.ref i1) (.ref i2)) :: (TO, pairObj .none .none) :: (i1, o1) :: (i2, o2) :: news) → LitAt o1 l1 0 → LitAt o2 l2 0 → ZipApart z TI TO i1 i2 l1 l2 →
      (∀ p ∈ news, p.1 ≠ z ∧ p.1 ≠ TO ∧ p.1 ≠ i1 ∧ p.1 ≠ i2) → Q (.ref z) { s with heap := h' }) :
    wpAny (model prog w) A (call (.type "zip") [.ref l1, .ref l2]) Q E s := by
  refine call_zip_2 hl1 hl2 fun h' a1 a2 a3 a4 a5 a6 a7 => ?_
  obtain ⟨o1, e1, c1, d1⟩ := a4
  obtain ⟨o2, e2, c2, d2⟩ := a5
  have lt1 : @LT.lt Nat _ l1 s.heap.objs.size := by obtain ⟨_, e, _⟩ := hl1; exact Heap.lt_size e
  have lt2 : @LT.lt Nat _ l2 s.heap.objs.size := by obtain ⟨_, e, _⟩ := hl2; exact Heap.lt_size e
  have out : ∀ {b}, s.heap.objs.size ≤ b → b ≠ L ∧ h₀.get? b = none := fun {b} hb => by
    have e : s.heap.get? b = none := by
      cases e : s.heap.get? b with
      | none => rfl
      | some o => exact absurd (Heap.lt_size e) (Nat.not_lt.mpr hb)
    constructor
    · intro z
      obtain ⟨o, _, _, ho, _⟩ := F.ns
      rw [← z, e] at ho
      cases ho
    · cases q : h₀.get? b with
      | none => rfl
      | some o => rw [F.keep _ _ q] at e; cases e
  refine h (s.heap.objs.size + 4) (s.heap.objs.size + 2) (s.heap.objs.size + 3) s.heap.objs.size (s.heap.objs.size + 1) o1 o2 h' (F.keeps a7) ?_ ⟨c1, d1⟩ ⟨c2, d2⟩ (by constructor <;> (show @Ne Nat _ _; omega)) (fun p hp => ?_)
  · intro p hp
    rcases List.mem_cons.mp hp with rfl | hp
    · exact ⟨a1, out (Nat.le_add_right _ _)⟩
    rcases List.mem_cons.mp hp with rfl | hp
    · exact ⟨a2, out (Nat.le_add_right _ _)⟩
    rcases List.mem_cons.mp hp with rfl | hp
    · exact ⟨a3, out (Nat.le_add_right _ _)⟩
    rcases List.mem_cons.mp hp with rfl | hp
    · exact ⟨e1, out (Nat.le_refl _)⟩
    rcases List.mem_cons.mp hp with rfl | hp
    · exact ⟨e2, out (Nat.le_add_right _ _)⟩
    · exact ⟨a7 _ _ (N p hp).1, (N p hp).2⟩
  · have : @LT.lt Nat _ p.1 s.heap.objs.size := Heap.lt_size (N p hp).1
    refine ⟨?_, ?_, ?_, ?_⟩ <;> (show @Ne Nat _ _; omega)
theorem mul_small {a b : Int} {t u : Tok} (ha : a.natAbs < 2 ^ 40) (hb : b.natAbs < 2 ^ 40) (h : ∀ t' k, Q (.int (a * b) t') { s with toks := k }) : wpAny (model prog w) A (binaryOp .Mult (.int a t) (.int b u)) Q E s := by
  refine P.mul_int (h _ _) (IntMulOk.of_left (intBits_le_64 ?_ ?_)) <;> omega
end
section
variable {prog : Program} {w : World} {A : Around} {E : Value → Shared → Prop} {env : Env}
theorem comp_blockP {elt iter : PySem.Expr} {elts : List PySem.Expr} {x1 : Nat} {tp : Pos} {scope : Scope} {cl : List (Str × Addr)} {pos : Pos} {s₂ : Shared} {it : Value} {RR : Value → Addr → Result → Shared → Prop}
    (hcell : ∀ y ∈ scope.names, y.2 ≠ .cell) (hkind : scope.kind = .function)
    (h : ∀ D C h₁ tk, s₂.heap.get? D = none → s₂.heap.get? C = none → D ≠ C → h₁.get? D = some (listOf #[] 0) → h₁.Ns C (fun _ => none) → (∀ b o, s₂.heap.get? b = some o → h₁.get? b = some o) →
      (∃ (I : Nat → Shared → Prop) (n : Nat), I n { s₂ with heap := h₁, toks := tk } ∧
        (wpAny (model prog w) A (pyIter it) (fun it' s' => it' = it ∧ s' = { s₂ with heap := h₁, toks := tk }) (fun _ _ => False) { s₂ with heap := h₁, toks := tk }) ∧
        ∀ n s, I n s → wpAny (model prog w) A (pyNext it) (fun r s₁ => match r with
          | none => RR (.ref D) C (.ok .next) s₁
          | some v => wpAny (model prog w) A (letOwnedTupleGo (.Tuple elts x1 tp) it v) (fun _ s₁' => wpAny (model prog w) A (assign (.Tuple elts x1 tp) (compEnvC scope cl C env) v) (fun _ s₂ => wpAny (model prog w) A (eval elt (compEnvC scope cl C env)) (fun x s₄ => wpAny (model prog w) A (call (.builtin "list.append") [.ref D, x]) (fun _ s₅ => Less I n s₅) (fun _ _ => False) s₄) (fun _ _ => False) s₂) (fun _ _ => False) s₁') (fun _ _ => False) s₁) (fun _ _ => False) s)) :
    wpAny (model prog w) A (newList []) (fun acc s₃ => wpAny (model prog w) A (newFunctionEnv scope env.globals cl [] env.qual none .none (some env)) (fun cenv s₄ =>
      codeAny (model prog w) A (.compStart (.ListComp elt [⟨.Tuple elts x1 tp, iter, [], 0⟩] scope pos) 0 it acc { cenv with scope := relabel scope env }) (RR acc cenv.locals) s₄) E s₃) E s₂ := by
  refine wpAny_newObj_type (wpAny_newFunctionEnv hcell (by intro y hy; simp at hy) (fun h₁ hns₁ hsb₁ => ?_) hkind)
  dsimp only at hns₁ hsb₁ ⊢
  generalize hH2 : s₂.heap.push { cls := .type "list", dict := none, data := .seq ([] : List Value).toArray } = H2 at hns₁ hsb₁ ⊢
  have hC : H2.objs.size = s₂.heap.objs.size + 1 := by rw [← hH2, Heap.size_push]
  have hDC : s₂.heap.objs.size ≠ H2.objs.size := by rw [hC]; exact Nat.ne_of_lt (Nat.lt_succ_self _)
  have below : ∀ b, b < s₂.heap.objs.size → b ≠ H2.objs.size := fun b hb => by rw [hC]; exact Nat.ne_of_lt (Nat.lt_succ_of_lt hb)
  have old : ∀ b o, s₂.heap.get? b = some o → h₁.get? b = some o := fun b o e => hsb₁.extBut b o (below b (Heap.lt_size e)) (Heap.get?_push_of_some _ (hH2 ▸ Heap.get?_push_of_some _ e))
  have hacc : h₁.get? s₂.heap.objs.size = some (listOf #[] 0) := hsb₁.extBut _ _ hDC (Heap.get?_push_of_some _ (hH2 ▸ Heap.get?_push_size _ rfl))
  have fresh : ∀ a, s₂.heap.objs.size ≤ a → s₂.heap.get? a = none := fun a ha => by
    cases e : s₂.heap.get? a with
    | none => rfl
    | some o' => exact absurd (Heap.lt_size e) (Nat.not_lt.mpr ha)
  obtain ⟨I, n, hI, hself, turn⟩ := h s₂.heap.objs.size H2.objs.size h₁ _ (fresh _ (Nat.le_refl _)) (fresh _ (by rw [hC]; exact Nat.le_succ _)) hDC hacc (by simpa using hns₁) old
  have loop : codeAny (model prog w) A (.compLoop (.ListComp elt [⟨.Tuple elts x1 tp, iter, [], 0⟩] scope pos) 0 it (.ref s₂.heap.objs.size) (compEnvC scope cl H2.objs.size env)) (RR (.ref s₂.heap.objs.size) H2.objs.size) { s₂ with heap := h₁, toks := s₂.toks + ([] : List (Str × Value)).length } := by
    refine LCp.codeAny_compLoop_pair I (fun n s hI => ?_) n hI
    refine wpAny_mono (turn n s hI) (fun r s₁ h₁ => ?_) (fun _ _ x => x.elim)
    cases r with
    | none => exact h₁
    | some v =>
      refine wpAny_mono h₁ (fun _ s₁' h₁' => wpAny_mono h₁' (fun _ s₂ h₂ => ?_) (fun _ _ x => x.elim)) (fun _ _ x => x.elim)
      exact wpAny_mono h₂ (fun x s₄ h₄ => wpAny_mono h₄ (fun _ _ h₅ => h₅) (fun _ _ x => x.elim)) (fun _ _ x => x.elim)
  refine codeAny_compStart_list loop ?_
  exact wpAny_mono hself (fun it' s' h' => by
    obtain ⟨rfl, rfl⟩ := h'
    exact loop) (fun _ _ x => x.elim)
end
noncomputable def zmul (f : Int) (xn yn : List Int) : List Int := List.zipWith (fun s l => s + f * l) xn yn
theorem zmul_take {f : Int} {xn yn : List Int} {j : Nat} (h1 : j < xn.length) (h2 : j < yn.length) : zmul f (xn.take (j + 1)) (yn.take (j + 1)) = zmul f (xn.take j) (yn.take j) ++ [xn.getD j 0 + f * yn.getD j 0] := by
  unfold zmul
  rw [take_snoc h1, take_snoc h2, List.zipWith_append (by simp; omega)]
  rfl
inductive ZIi (s : Shared) (h₀ : Heap) (L D C z TI TO i1 i2 l1 l2 : Addr) (m : Str → Option Value) (news : List (Addr × Obj)) (f : Int) (xn yn : List Int) (n : Nat) (s' : Shared) : Prop
  | mk (j : Nat) (ws : List Value) (c : Nat) (h' : Heap) (tk' : Nat) (mC : Str → Option Value) (a b : Value) (_ : n + j = xn.length) (_ : s' = { s with heap := h', toks := tk' }) (_ : Fr h₀ L h' m) (_ : News h₀ L h' ((D, listOf (List.toArray ws) c) :: news)) (_ : h'.Ns C mC) (_ : IsZip h' z TI TO .none) (_ : IsPair h' TI (.ref i1) (.ref i2)) (_ : IsPair h' TO a b) (_ : h'.IsListIter i1 l1 j) (_ : h'.IsListIter i2 l2 j) (_ : IntsAre ws (zmul f (xn.take j) (yn.take j)))
set_option maxHeartbeats 2000000 in
theorem zip_comp {prog : Program} {w : World} {A : Around} {s : Shared} {E : Value → Shared → Prop} {h₀ : Heap} {L z TI TO i1 i2 l1 l2 fc : Addr} {env : Env} {m : Str → Option Value} {news : List (Addr × Obj)} {o1 o2 oc : Obj} {xs ys : List Value} {xn yn : List Int} {c1 c2 : Nat} {f : Int} {tf : Tok} {sc : Scope} {kk : Nat} {p1 p2 p3 p4 p5 pa pb tp py pi pos spos : Pos} {Q : Flow → Shared → Prop}
    (hh : A.handled = none) (F : Fr h₀ L s.heap m) (N : News h₀ L s.heap ((z, zipObj TI TO .none) :: (TI, pairObj (.ref i1) (.ref i2)) :: (TO, pairObj .none .none) :: (i1, o1) :: (i2, o2) :: news)) (ho1 : LitAt o1 l1 0) (ho2 : LitAt o2 l2 0) (ZA : ZipApart z TI TO i1 i2 l1 l2)
    (hne5 : ∀ p ∈ news, p.1 ≠ z ∧ p.1 ≠ TO ∧ p.1 ≠ i1 ∧ p.1 ≠ i2) (hl1 : (l1, listOf xs.toArray c1) ∈ news) (hl2 : (l2, listOf ys.toArray c2) ∈ news) (hx : IntsAre xs xn) (hy : IntsAre ys yn) (hlen : xn.length = yn.length) (h50 : xn.length < 50)
    (hfc : (fc, oc) ∈ news) (hoc : oc.data = .cell (some (.int f tf))) (hf : f.natAbs < 2 ^ 40) (hyb : ∀ n ∈ yn, n.natAbs < 2 ^ 40)
    (hL : env.locals = L) (hek : env.scope.kind = .function) (hpk : env.kindOf "pairs" = some .local) (hck : env.kindOf "coefficients" = some .local) (hm : m "pairs" = some (.ref z))
    (hsw : swapsWith (.ListComp (.BinOp (.Name "same" p1) .Add (.BinOp (.Name "factor" p2) .Mult (.Name "lower" p3) p4) p5) [⟨.Tuple [.Name "same" pa, .Name "lower" pb] kk tp, .Name "pairs" pi, [], 0⟩] sc pos) (some (.Name "coefficients" py)) spos.line env = pure true)
    (hclos : closureFor sc env = pure [(("factor" : Str), fc)]) (hcell : ∀ z ∈ sc.names, z.2 ≠ .cell) (hkind : sc.kind = .function) (hnames : ∀ z ∈ sc.names, z.2 = .local → sc.names.lookup z.1 = some .local) (hx1 : sc.names.lookup ("same" : Str) = some NameKind.local) (hx2 : sc.names.lookup ("lower" : Str) = some NameKind.local)
    (hfk : ∀ C, (compEnvC sc [(("factor" : Str), fc)] C env).kindOf "factor" = some .cell)
    (hQ : ∀ D ws c h' tk', IntsAre ws (zmul f xn yn) → Fr h₀ L h' (fun y => if y = "coefficients" then some (.ref D) else m y) → News h₀ L h' ((D, listOf (List.toArray ws) c) :: news) → (∀ p ∈ news, p.1 ≠ D) → Q .next { s with heap := h', toks := tk' }) :
    wpAny (model prog w) A (exec (.Assign [.Name "coefficients" py] (.ListComp (.BinOp (.Name "same" p1) .Add (.BinOp (.Name "factor" p2) .Mult (.Name "lower" p3) p4) p5) [⟨.Tuple [.Name "same" pa, .Name "lower" pb] kk tp, .Name "pairs" pi, [], 0⟩] sc pos) spos) env) Q E s := by
  rw [exec_Assign_Name_used _ _ _ _ hsw]
  refine wpAny_bind (wpAny_standAt (wpAny_bind ?_))
  show wpAny _ A (do let _ ← comprehension (.ListComp (.BinOp (.Name "same" p1) .Add (.BinOp (.Name "factor" p2) .Mult (.Name "lower" p3) p4) p5) [⟨.Tuple [.Name "same" pa, .Name "lower" pb] kk tp, .Name "pairs" pi, [], 0⟩] sc pos) sc env _ (newList []) false (eval (.Name "pairs" pi) env) (some (assign (.Name "coefficients" py) env))) _ _ s
  refine wpAny_bind (wpAny_mono (wpAny_comprehension_free (use := some (assign (.Name "coefficients" py) env)) (Q := fun _ s' => Q .next s') rfl (fun _ => rfl) hclos hkind hnames ?_) (fun _ s' hq => wpAny_pure (wpAny_pure hq)) fun _ _ e => e)
  refine wpAny_Name (wpAny_loadName_local hek hpk (hL ▸ F.ns) hm ?_) (by decide)
  have Nz := N _ (.head _)
  have NTI := N _ (.tail _ (.head _))
  have NTO := N _ (.tail _ (.tail _ (.head _)))
  have Ni1 := N _ (.tail _ (.tail _ (.tail _ (.head _))))
  have Ni2 := N _ (.tail _ (.tail _ (.tail _ (.tail _ (.head _)))))
  refine wpAny_pyIter_zip (TI := TI) (TO := TO) (f0 := .none) Nz.1 ?_
  refine comp_blockP hcell hkind fun D C h₁ tk hD hC hDC eD nC keep => ?_
  have NW : News h₀ L s.heap news := fun p hp => N p (.tail _ (.tail _ (.tail _ (.tail _ (.tail _ hp)))))
  have fresh : ∀ {b}, s.heap.get? b = none → b ≠ L ∧ h₀.get? b = none ∧ (∀ p ∈ news, p.1 ≠ b) ∧ z ≠ b ∧ TI ≠ b ∧ TO ≠ b ∧ i1 ≠ b ∧ i2 ≠ b := fun {b} e => by
    have ne : ∀ {x o}, s.heap.get? x = some o → x ≠ b := fun {x o} q t => by rw [t, e] at q; cases q
    refine ⟨?_, ?_, fun p hp => ne (NW p hp).1, ne Nz.1, ne NTI.1, ne NTO.1, ne Ni1.1, ne Ni2.1⟩
    · obtain ⟨o, _, _, ho, _⟩ := F.ns
      exact fun t => ne ho t.symm
    · cases q : h₀.get? b with
      | none => rfl
      | some o => exact absurd rfl (ne (F.keep _ _ q))
  have qD := fresh hD
  have D1 := qD.1
  have D2 := qD.2.1
  have D3 := qD.2.2.1
  have D4 := qD.2.2.2.1
  have D5 := qD.2.2.2.2.1
  have D6 := qD.2.2.2.2.2.1
  have D7 := qD.2.2.2.2.2.2.1
  have D8 := qD.2.2.2.2.2.2.2
  have qC := fresh hC
  have C1 := qC.1
  have C2 := qC.2.1
  have C3 := qC.2.2.1
  have C4 := qC.2.2.2.1
  have C5 := qC.2.2.2.2.1
  have C6 := qC.2.2.2.2.2.1
  have C7 := qC.2.2.2.2.2.2.1
  have C8 := qC.2.2.2.2.2.2.2
  have none0 : ∀ {b o}, h₀.get? b = some o → b ≠ z ∧ b ≠ TO ∧ b ≠ i1 ∧ b ≠ i2 ∧ b ≠ C ∧ b ≠ D := fun {b o} e => by
    refine ⟨?_, ?_, ?_, ?_, ?_, ?_⟩ <;> intro t <;> rw [t] at e
    · rw [Nz.2.2] at e; cases e
    · rw [NTO.2.2] at e; cases e
    · rw [Ni1.2.2] at e; cases e
    · rw [Ni2.2.2] at e; cases e
    · rw [C2] at e; cases e
    · rw [D2] at e; cases e
  have hLz : L ≠ z ∧ L ≠ TO ∧ L ≠ i1 ∧ L ≠ i2 ∧ L ≠ C ∧ L ≠ D := ⟨Nz.2.1.symm, NTO.2.1.symm, Ni1.2.1.symm, Ni2.2.1.symm, C1.symm, D1.symm⟩
  refine ⟨ZIi s h₀ L D C z TI TO i1 i2 l1 l2 m news f xn yn, xn.length, ?_, ?_, ?_⟩
  · refine ⟨0, [], 0, h₁, tk, _, _, _, rfl, rfl, F.keeps keep, ?_, nC, keep _ _ Nz.1, keep _ _ NTI.1, keep _ _ NTO.1, ⟨o1, keep _ _ Ni1.1, ho1⟩, ⟨o2, keep _ _ Ni2.1, ho2⟩, .nil⟩
    intro p hp
    rcases List.mem_cons.mp hp with rfl | hp
    · exact ⟨eD, D1, D2⟩
    · exact ⟨keep _ _ (NW p hp).1, (NW p hp).2⟩
  · exact wpAny_pyIter_zip (TI := TI) (TO := TO) (f0 := .none) (keep _ _ Nz.1) ⟨rfl, rfl⟩
  · rintro n s' ⟨j, ws, c, h', tk', mC, a, b, hnj, rfl, F', N', nC', z1, z2, z3, z4, z5, hws⟩
    have q1 : h'.IsList l1 xs.toArray := news_isList N' (.tail _ hl1)
    have q2 : h'.IsList l2 ys.toArray := news_isList N' (.tail _ hl2)
    have goesOn : ∀ {h3 : Heap}, (∀ c o, c ≠ z → c ≠ TO → c ≠ i1 → c ≠ i2 → c ≠ C → h'.get? c = some o → h3.get? c = some o) → Fr h₀ L h3 m ∧ News h₀ L h3 ((D, listOf (List.toArray ws) c) :: news) := fun {h3} k3 => by
      refine ⟨⟨?_, fun b o e => ?_, F'.above⟩, fun p hp => ?_⟩
      · obtain ⟨o, es, ep, ho, r⟩ := F'.ns
        exact ⟨o, es, ep, k3 _ _ hLz.1 hLz.2.1 hLz.2.2.1 hLz.2.2.2.1 hLz.2.2.2.2.1 ho, r⟩
      · obtain ⟨n1, n2, n3, n4, n5, _⟩ := none0 e
        exact k3 b o n1 n2 n3 n4 n5 (F'.keep b o e)
      · rcases List.mem_cons.mp hp with rfl | hp
        · exact ⟨k3 _ _ D4.symm D6.symm D7.symm D8.symm hDC (N' _ (.head _)).1, D1, D2⟩
        · obtain ⟨n1, n2, n3, n4⟩ := hne5 p hp
          exact ⟨k3 _ _ n1 n2 n3 n4 (C3 p hp) (N' p (.tail _ hp)).1, (N' p (.tail _ hp)).2⟩
    cases n with
    | zero =>
      refine wpAny_pyNext_zip_end hh ZA z1 z2 z3 z4 z5 q1 q2 (.inl ?_) fun h3 k3 => ?_
      · have := hx.length
        simp; omega
      obtain ⟨F3, N3⟩ := goesOn (h3 := h3) (fun c o a1 a2 a3 a4 _ e => k3 c o a1 a2 a3 a4 e)
      have nC3 : h3.Ns C mC := by
        obtain ⟨o, es, ep, ho, r⟩ := nC'
        exact ⟨o, es, ep, k3 _ _ C4.symm C6.symm C7.symm C8.symm ho, r⟩
      show wpAny _ A (assign (.Name "coefficients" py) env (.ref D)) _ _ _
      refine wpAny_assign_Name (wpAny_storeName_local hck (hL ▸ F3.ns) (fun h4 n4 s4 => ?_) (by simp [hek]))
      rw [hL] at n4 s4
      refine ⟨mC, ns_but nC3 C1 s4.extBut, fun h5 s5 => ?_⟩
      have F4 := F3.set n4 s4
      have N4 := N3.set s4
      have e1 : xn.take j = xn := List.take_of_length_le (by omega)
      have e2 : yn.take j = yn := List.take_of_length_le (by omega)
      rw [e1, e2] at hws
      exact hQ D ws c h5 _ hws (fr_but F4 C2 C1 s5.extBut) (news_but N4 (fun p hp => by
        rcases List.mem_cons.mp hp with rfl | hp
        · exact hDC
        · exact C3 p hp) s5.extBut) D3
    | succ n =>
      have hj1 : j < xn.length := by omega
      have hj2 : j < yn.length := by omega
      obtain ⟨t1, e1⟩ := IntsAre.at hx hj1
      obtain ⟨t2, e2⟩ := IntsAre.at hy hj2
      refine wpAny_pyNext_zip_item ZA z1 z2 z3 z4 z5 q1 q2 (by simpa using e1) (by simpa using e2) fun h3 a1 a2 a3 a4 a5 a6 k3 => ?_
      dsimp only at a1 a2 a3 a4 a5 a6 k3 ⊢
      have outT : ∀ {x o}, h'.get? x = some o → x ≠ h'.objs.size := fun {x o} q t => by rw [t, get_none] at q; cases q
      refine wpAny_letOwnedTupleGo_zip a1 fun h4 b1 s4 => ?_
      have nC4 : h4.Ns C mC := by
        obtain ⟨o, es, ep, ho, r⟩ := nC'
        exact ⟨o, es, ep, s4.extBut _ _ C4.symm (k3 _ _ C4.symm C6.symm C7.symm C8.symm ho), r⟩
      have hT4 : h4.IsTuple h'.objs.size #[.int (xn.getD j 0) t1, .int (yn.getD j 0) t2] := ⟨_, s4.extBut _ _ (outT z1).symm a5, rfl, _, rfl⟩
      refine kcp_assign (env := compEnvC sc [(("factor" : Str), fc)] C env) hh hT4 (lookup_relabel_local hx1) (lookup_relabel_local hx2) (by simp [compEnvC, relabel, hkind]) nC4 fun h5 tk5 n5 k5 => ?_
      have up : ∀ c o, c ≠ z → c ≠ TO → c ≠ i1 → c ≠ i2 → c ≠ C → h'.get? c = some o → h5.get? c = some o := fun c o x1 x2 x3 x4 x5 e => k5 c o x5 (s4.extBut c o x1 (k3 c o x1 x2 x3 x4 e))
      obtain ⟨F5, N5⟩ := goesOn up
      have hck2 : (compEnvC sc [(("factor" : Str), fc)] C env).scope.kind = .function := by simp [compEnvC, relabel, hkind]
      refine wpAny_BinOp (wpAny_Name (wpAny_loadName_local (env := compEnvC sc [(("factor" : Str), fc)] C env) (v := .int (xn.getD j 0) t1) hck2 (lookup_relabel_local hx1) n5 rfl ?_) (by decide))
      refine wpAny_BinOp (wpAny_Name (wpAny_loadName_cell (env := compEnvC sc [(("factor" : Str), fc)] C env) (v := .int f tf) hck2 (hfk C) rfl ⟨oc, (N5 _ (.tail _ hfc)).1, hoc⟩ ?_) (by decide))
      refine wpAny_Name (wpAny_loadName_local (env := compEnvC sc [(("factor" : Str), fc)] C env) (v := .int (yn.getD j 0) t2) hck2 (lookup_relabel_local hx2) n5 rfl ?_) (by decide)
      refine mul_small hf (hyb _ (getD_in hj2)) fun t' k => ?_
      refine P.add_int ?_
      refine append_led F5 N5 D3 ?_ fun c6 h6 s6 F6 N6 => ?_
      · have := IntsAre.length hws
        have l1 : (zmul f (xn.take j) (yn.take j)).length ≤ xn.length := by
          unfold zmul
          rw [List.length_zipWith, List.length_take]
          omega
        omega
      have kz : ∀ c o, c ≠ C → c ≠ D → h4.get? c = some o → h6.get? c = some o := fun c o x1 x2 e => s6.extBut c o x2 (k5 c o x1 e)
      refine less' n (by omega) ⟨j + 1, _, c6, h6, _, _, _, _, by omega, rfl, F6, N6, ns_but n5 hDC.symm s6.extBut, kz _ _ C4 D4 b1, kz _ _ C5 D5 (s4.extBut _ _ ZA.TIz (k3 _ _ ZA.TIz ZA.TITO ZA.TIi1 ZA.TIi2 z2)), kz _ _ C6 D6 (s4.extBut _ _ ZA.TOz a2), ?_, ?_, ?_⟩
      · obtain ⟨o, e, r⟩ := a3
        exact ⟨o, kz _ _ C7 D7 (s4.extBut _ _ ZA.i1z e), r⟩
      · obtain ⟨o, e, r⟩ := a4
        exact ⟨o, kz _ _ C8 D8 (s4.extBut _ _ ZA.i2z e), r⟩
      · rw [zmul_take hj1 hj2]
        exact ints_snoc hws
end
section
noncomputable def facsUp (sz : List Int) (k : Nat) : Nat → List Int
  | 0 => List.replicate (sz.getD 0 0 - 1).toNat ((k : Int) + 1)
  | i + 1 => facsUp sz k i ++ List.replicate (sz.getD (i + 1) 0 - sz.getD i 0).toNat ((k : Int) + 1 - ((i + 1 : Nat) : Int))
noncomputable def mulF (cs : List Int) (f : Int) : List Int := zmul f (cs ++ [0]) (0 :: cs)
theorem facsUp_ok {sz : List Int} {k : Nat} (hsz : ∀ x ∈ sz, 1 ≤ x ∧ x ≤ 4) (hk : k < 4) : ∀ i, i ≤ k → i < sz.length → (facsUp sz k i).length ≤ 3 + 3 * i ∧ ∀ f ∈ facsUp sz k i, f.natAbs ≤ 4
  | 0, _, h => by
    have h1 := hsz _ (getD_in h)
    refine ⟨?_, fun f hf => ?_⟩
    · rw [facsUp, List.length_replicate]; omega
    · rw [facsUp] at hf
      have := (List.mem_replicate.mp hf).2
      omega
  | i + 1, hi, h => by
    obtain ⟨a, b⟩ := facsUp_ok hsz hk i (by omega) (by omega)
    have h1 := hsz _ (getD_in h)
    have h2 := hsz _ (getD_in (l := sz) (i := i) (by omega))
    refine ⟨?_, fun f hf => ?_⟩
    · rw [facsUp, List.length_append, List.length_replicate]; omega
    · rw [facsUp] at hf
      rcases List.mem_append.mp hf with hf | hf
      · exact b f hf
      · have := (List.mem_replicate.mp hf).2
        omega
theorem mulF_length (cs : List Int) (f : Int) : (mulF cs f).length = cs.length + 1 := by
  simp [mulF, zmul]
theorem zmul_bound {B : Nat} {f : Int} (hf : f.natAbs ≤ 4) : ∀ {xn yn : List Int}, (∀ n ∈ xn, n.natAbs ≤ B) → (∀ n ∈ yn, n.natAbs ≤ B) → ∀ n ∈ zmul f xn yn, n.natAbs ≤ 5 * B
  | [], _, _, _, n, h => by simp [zmul] at h
  | _ :: _, [], _, _, n, h => by simp [zmul] at h
  | x :: xn, y :: yn, hx, hy, n, h => by
    have e : zmul f (x :: xn) (y :: yn) = (x + f * y) :: zmul f xn yn := rfl
    rw [e] at h
    rcases List.mem_cons.mp h with rfl | h
    · have h1 := hx x (.head _)
      have h2 := hy y (.head _)
      have h3 : (f * y).natAbs ≤ 4 * B := by
        rw [Int.natAbs_mul]
        exact Nat.mul_le_mul hf h2
      omega
    · exact zmul_bound hf (fun n hn => hx n (.tail _ hn)) (fun n hn => hy n (.tail _ hn)) n h
theorem mulF_bound {B : Nat} {f : Int} {cs : List Int} (hf : f.natAbs ≤ 4) (h : ∀ n ∈ cs, n.natAbs ≤ B) : ∀ n ∈ mulF cs f, n.natAbs ≤ 5 * B :=
  zmul_bound hf (fun n hn => by
    rcases List.mem_append.mp hn with hn | hn
    · exact h n hn
    · have : n = 0 := by simpa using hn
      omega) (fun n hn => by
    rcases List.mem_cons.mp hn with rfl | hn
    · omega
    · exact h n hn)
/-- the coefficients after j factors -/
noncomputable def coefs (fs : List Int) (c0 : List Int) (j : Nat) : List Int := (fs.take j).foldl mulF c0
theorem coefs_succ {fs c0 : List Int} {j : Nat} (h : j < fs.length) : coefs fs c0 (j + 1) = mulF (coefs fs c0 j) (fs.getD j 0) := by
  unfold coefs
  rw [take_snoc h, List.foldl_append]
  rfl
theorem coefs_length {fs c0 : List Int} : ∀ {j : Nat}, j ≤ fs.length → (coefs fs c0 j).length = c0.length + j
  | 0, _ => by simp [coefs]
  | j + 1, h => by
    rw [coefs_succ (by omega), mulF_length, coefs_length (by omega)]
    omega
theorem coefs_bound {fs c0 : List Int} (hf : ∀ f ∈ fs, f.natAbs ≤ 4) (h0 : ∀ n ∈ c0, n.natAbs ≤ 2000) : ∀ {j : Nat}, j ≤ fs.length → ∀ n ∈ coefs fs c0 j, n.natAbs ≤ 2000 * 5 ^ j
  | 0, _, n, hn => by
    have := h0 n (by simpa [coefs] using hn)
    simpa using this
  | j + 1, h, n, hn => by
    rw [coefs_succ (by omega)] at hn
    have := mulF_bound (hf _ (getD_in (by omega))) (coefs_bound hf h0 (j := j) (by omega)) n hn
    rw [Nat.pow_succ]
    omega
theorem coefs_fits {fs c0 : List Int} (hf : ∀ f ∈ fs, f.natAbs ≤ 4) (h0 : ∀ n ∈ c0, n.natAbs ≤ 2000) {j : Nat} (hj : j ≤ fs.length) (h12 : fs.length ≤ 12) : ∀ n ∈ coefs fs c0 j, n.natAbs < 2 ^ 40 := fun n hn => by
  have h1 := coefs_bound hf h0 hj n hn
  have h2 : 5 ^ j ≤ 5 ^ 12 := Nat.pow_le_pow_right (by decide) (by omega)
  have h3 : 2000 * 5 ^ j ≤ 2000 * 5 ^ 12 := Nat.mul_le_mul_left _ h2
  have h4 : 2000 * 5 ^ 12 < 2 ^ 40 := by decide
  omega
theorem ints_rep (x : Int) (t : Tok) : ∀ n, IntsAre (List.replicate n (.int x t)) (List.replicate n x)
  | 0 => .nil
  | n + 1 => .cons x t (ints_rep x t n)
theorem ints_app : ∀ {vs ws : List Value} {ns ms : List Int}, IntsAre vs ns → IntsAre ws ms → IntsAre (vs ++ ws) (ns ++ ms)
  | _, _, _, _, .nil, h => h
  | _, _, _, _, .cons n t r, h => .cons n t (ints_app r h)
theorem small_from {a n : Int} (h0 : 0 ≤ a) (h1 : a ≤ n) (h : n < 100) : Builtin.Range.small a n 1 = true := by
  unfold Builtin.Range.small Builtin.Range.rangeFitsLong Builtin.Range.rangeSize
  by_cases hn : a < n
  · simp only [show (1 : Int) > 0 by decide, if_true, if_pos hn]
    simp
    omega
  · simp only [show (1 : Int) > 0 by decide, if_true, if_neg hn]
    simp
    omega
theorem rsize_from {a n : Int} (h0 : a ≤ n) : Builtin.Range.rangeSize a n 1 = n - a := by
  unfold Builtin.Range.rangeSize
  simp only [show (1 : Int) > 0 by decide, if_true]
  by_cases h : a < n
  · rw [if_pos h]; simp
  · rw [if_neg h]; omega
theorem rng_iterA {prog : Program} {w : World} {A : Around} {E : Value → Shared → Prop} {s : Shared} {h₀ : Heap} {L : Addr} {m : Str → Option Value} {news : List (Addr × Obj)} {Q : Value → Shared → Prop} {a n : Int} {r : Addr} {t u v : Tok} (F : Fr h₀ L s.heap m) (N : News h₀ L s.heap news) (hr : IsRange s.heap r a n 1 t u v) (h0 : 0 ≤ a) (h1 : a ≤ n) (h2 : n < 100)
    (hQ : ∀ it h', Fr h₀ L h' m → News h₀ L h' ((it, rgObj a (n - a) 1) :: news) → (∀ p ∈ news, p.1 ≠ it) → Q (.ref it) { s with heap := h' }) : wpAny (model prog w) A (pyIter (.ref r)) Q E s := by
  refine wpAny_pyIter_range hr (small_from h0 h1 h2) ?_
  rw [rsize_from h1]
  exact hQ _ _ (F.push _) (News.push F N _) fun p hp => Nat.ne_of_lt (Heap.lt_size (N p hp).1)
end
section







theorem allLt_lt {d : Nat} : ∀ {l : List (Addr × Obj)}, AllLt d l → ∀ {p : Addr × Obj}, p ∈ l → @LT.lt Nat _ p.1 d
  | [], _, _, h => nomatch h
  | x :: r, h, p, hm => by
    rcases List.mem_cons.mp hm with rfl | hm
    · exact h.1
    · exact allLt_lt h.2 hm
theorem news_c3 {h₀ : Heap} {L : Addr} {h : Heap} {x1 x2 x3 : Addr × Obj} {r : List (Addr × Obj)} (N : News h₀ L h (x1 :: x2 :: x3 :: r)) : News h₀ L h (x3 :: x1 :: r) := fun p hp => N p (by
  simp only [List.mem_cons] at hp ⊢
  rcases hp with h | h | h <;> simp [h])
theorem news_p4 {h₀ : Heap} {L : Addr} {h : Heap} {x1 x2 x3 x4 : Addr × Obj} {r : List (Addr × Obj)} (N : News h₀ L h (x1 :: x2 :: x3 :: x4 :: r)) : News h₀ L h (x4 :: x1 :: x3 :: r) := fun p hp => N p (by
  simp only [List.mem_cons] at hp ⊢
  rcases hp with h | h | h | h <;> simp [h])
theorem sp_a {α : Type} {c f q y : α} {N : List α} {p : α} (hp : p ∈ f :: c :: y :: N) : p ∈ f :: q :: c :: y :: N :=
  (fa_c me0 (fa_c me2 (fa_c me3 (fun _ h => mt4 h))) : ∀ u9 ∈ f :: c :: y :: N, u9 ∈ f :: q :: c :: y :: N) p hp
theorem sp_b {α : Type} {c f j y z : α} {N : List α} {p : α} (hp : p ∈ j :: c :: z :: f :: y :: N) : p ∈ j :: z :: f :: c :: y :: N :=
  (fa_c me0 (fa_c me3 (fa_c me1 (fa_c me2 (fa_c me4 (fun _ h => mt5 h))))) : ∀ u9 ∈ j :: c :: z :: f :: y :: N, u9 ∈ j :: z :: f :: c :: y :: N) p hp
theorem sp_c {α : Type} {c d f j q0 q1 q2 q3 y z : α} {N : List α} {p : α} (hp : p ∈ j :: c :: d :: f :: y :: N) : p ∈ d :: q0 :: q1 :: q2 :: q3 :: c :: j :: z :: f :: y :: N :=
  (fa_c me6 (fa_c me5 (fa_c me0 (fa_c me8 (fa_c me9 (fun _ h => mt10 h))))) : ∀ u9 ∈ j :: c :: d :: f :: y :: N, u9 ∈ d :: q0 :: q1 :: q2 :: q3 :: c :: j :: z :: f :: y :: N) p hp
inductive SPi (s : Shared) (k : Nat) (g1 : Heap) (L1 FA SA it : Addr) (oc : Obj) (a b : Int) (t1 t2 t3 : Tok) (SV : List Value) (cS : Nat) (sz : List Int) (news : List (Addr × Obj)) (n : Nat) (s' : Shared) : Prop
  | mk (i : Nat) (h2 : Heap) (tk2 : Nat) (FV : List Value) (cF : Nat) (junk : Str → Option Value) (_ : n + i = k) (_ : s' = { s with heap := h2, toks := tk2 }) (_ : Fr g1 L1 h2 (fun y => if y = "factors" then some (.ref FA) else if y = "b" then some (.int b t3) else if y = "a" then some (.int a t2) else if y = "k" then some (.int (k : Int) t1) else if y = "sizes" then some (.ref SA) else junk y)) (_ : IntsAre FV (facsUp sz k i)) (_ : News g1 L1 h2 ((it, rgObj ((i : Int) + 1) (n : Int) 1) :: (FA, listOf (List.toArray FV) cF) :: (L1 + 1, oc) :: (SA, listOf SV.toArray cS) :: news))
inductive SPj (s : Shared) (k : Nat) (g1 : Heap) (L1 FA SA it : Addr) (oc : Obj) (a b : Int) (t1 t2 t3 : Tok) (SV : List Value) (cS : Nat) (sz : List Int) (news : List (Addr × Obj)) (s' : Shared) : Prop
  | mk (i : Nat) (h2 : Heap) (tk2 : Nat) (FV : List Value) (cF : Nat) (junk : Str → Option Value) (_ : i = k) (_ : s' = { s with heap := h2, toks := tk2 }) (_ : Fr g1 L1 h2 (fun y => if y = "factors" then some (.ref FA) else if y = "b" then some (.int b t3) else if y = "a" then some (.int a t2) else if y = "k" then some (.int (k : Int) t1) else if y = "sizes" then some (.ref SA) else junk y)) (_ : IntsAre FV (facsUp sz k i)) (_ : News g1 L1 h2 ((FA, listOf (List.toArray FV) cF) :: (L1 + 1, oc) :: (SA, listOf SV.toArray cS) :: news))
inductive SPw (s : Shared) (fs c0 : List Int) (g1 : Heap) (L1 FA SA it2 : Addr) (FV SV : List Value) (cF cS : Nat) (news : List (Addr × Obj)) (n : Nat) (s' : Shared) : Prop
  | mk (j : Nat) (h3 : Heap) (tk3 : Nat) (oW oc2 : Obj) (v0 : Option Value) (CA : Addr) (CV : List Value) (cC : Nat) (junk : Str → Option Value) (_ : n + j = fs.length) (_ : CA ≠ it2) (_ : s' = { s with heap := h3, toks := tk3 }) (_ : Fr g1 L1 h3 (fun y => if y = "coefficients" then some (.ref CA) else if y = "factors" then some (.ref FA) else junk y)) (_ : LitAt oW FA j) (_ : oc2.data = .cell v0) (_ : IntsAre CV (coefs fs c0 j)) (_ : CA ≠ L1 + 1) (_ : CA ≠ FA) (_ : News g1 L1 h3 ((it2, oW) :: (L1 + 1, oc2) :: (CA, listOf (List.toArray CV) cC) :: (FA, listOf (List.toArray FV) cF) :: (SA, listOf SV.toArray cS) :: news))
inductive SPx (s : Shared) (fs c0 : List Int) (g1 : Heap) (L1 FA SA it2 : Addr) (FV SV : List Value) (cF cS : Nat) (news : List (Addr × Obj)) (s' : Shared) : Prop
  | mk (j : Nat) (h3 : Heap) (tk3 : Nat) (oW oc2 : Obj) (v0 : Option Value) (CA : Addr) (CV : List Value) (cC : Nat) (junk : Str → Option Value) (_ : j = fs.length) (_ : s' = { s with heap := h3, toks := tk3 }) (_ : Fr g1 L1 h3 (fun y => if y = "coefficients" then some (.ref CA) else if y = "factors" then some (.ref FA) else junk y)) (_ : LitAt oW FA j) (_ : oc2.data = .cell v0) (_ : IntsAre CV (coefs fs c0 j)) (_ : CA ≠ L1 + 1) (_ : CA ≠ FA) (_ : News g1 L1 h3 ((L1 + 1, oc2) :: (CA, listOf (List.toArray CV) cC) :: (FA, listOf (List.toArray FV) cF) :: (SA, listOf SV.toArray cS) :: news))
set_option maxHeartbeats 8000000 in
theorem product_ok : ∀ (w : World) (mean : ExcName → Option Value) (mg mb : Str → Option Value) (dp un : Nat) (gd : Option (List Code)) (cn : Str) (cs : Scope) (ca : Addr) (ccd : Value) (cl : List (Str × Addr)) (outer : List Env) (A₀ : Around) (base h₀ : Heap) (L : Addr) (m : Str → Option Value) (s : Shared) (Q E : Value → Shared → Prop) (news : List (Addr × Obj)) (SA : Addr) (SV : List Value) (cS : Nat) (sz : List Int) (k : Nat) (a b : Int) (t1 t2 t3 : Tok)
    (B : Below A₀ base outer h₀) (F : Fr h₀ L s.heap m) (X : (heap w.params).In h₀) (T : Top VW LO mean mg mb h₀) (hk : cs.kind = .function) (N : News h₀ L s.heap ((SA, listOf SV.toArray cS) :: news)) (hS : IntsAre SV sz) (hsz : ∀ x ∈ sz, 1 ≤ x ∧ x ≤ 4) (hk4 : k < sz.length) (hl2 : sz.length ≤ 4) (ha : a.natAbs ≤ 1000) (hb : b.natAbs ≤ 100) (hd : dp < 310) (hu : un < 500)
    (hret : ∀ (D : Addr) (PV : List Value) (c : Nat) (h' : Heap) (tk' : Nat), IntsAre PV ((coefs (facsUp sz k k) [b, a + k * b] (facsUp sz k k).length).drop 1) → Fr h₀ L h' m → News h₀ L h' ((D, listOf PV.toArray c) :: (SA, listOf SV.toArray cS) :: news) → (∀ p ∈ news, p.1 ≠ D) → D ≠ SA → Q (.ref D) { s with heap := h', toks := tk' }),
    wpAny (model PySem.Challenge.rw_nq0213_01.prog w) (ktrTop dp un gd cn cs L ca ccd cl outer) (call (.ref 776) [.ref SA, .int (k : Int) t1, .int a t2, .int b t3]) Q E s := by
  intro w mean mg mb dp un gd cn cs ca ccd cl outer A₀ base h₀ L m s Q E news SA SV cS sz k a b t1 t2 t3 B F X T hk N hS hsz hk4 hl2 ha hb hd hu hret
  have := recLim
  refine wpAny_call ?_
  k_dflt (refine' code_defC ?k1 ?k2 ?k3 ?k4 ?k5 ?kA ?kF ?kK ?k6 ?k7 ?k8 ?k9 ?kB ?kD ?_ ?c2 ?c3 ?c4; (case kA => exact rfl); (case kF => exact rfl); (case kK => first | exact rfl | assumption); (case k1 => k_asm); (case k2 => k_asm); (case k3 => k_asm); (case k4 => k_asm); (case k5 => k_asm); (case k6 => k_is); (case k7 => k_is); (case k8 => ktr_room); (case k9 => first | exact BindsTo.of_eq rfl | exact binds_K (by k_in) rfl (by k_is) rfl rfl rfl); (case kB => exact rfl); (case kD => decide +kernel); (case c2 => exact rfl); (case c3 => exact rfl); (case c4 => exact rfl); k_whole)
  intro g1 L1 hp1 tk1 cells1 FG1 F1 N1 Y1 B1 X1 T1 l1
  (try k_lt l1)
  k_cells Y1
  (try simp only [List.cons_append, List.nil_append] at N1)
  (try dsimp only)
  (try k_lift B1)
  (try k_fold)
  rename Obj => oc
  rename (oc.data = _) => e
  have hoc0 : oc.data = .cell none := e.trans rfl
  clear e
  have hlS := IntsAre.length hS
  obtain ⟨tS0, hS0⟩ := IntsAre.at hS (i := 0) (by omega)
  have hS0' : SV[(0 : Int).toNat]? = some (.int (sz.getD 0 0) tS0) := hS0
  have hs0 := hsz _ (getD_in (l := sz) (i := 0) (by omega))
  repeat' ((fail_if_success (with_reducible show wpAny _ _ (binaryOp Operator.Mult (Value.ref _) (Value.int _ _)) _ _ _)); first | (k_unfold; (try dsimp only)) | (k_end; wrow_close) | (with_reducible ((with_reducible show wpAny _ _ (subscriptTail (PySem.Expr.Name _ _) (PySem.Expr.Slice _ _ _ _) _ _) _ _ _); ((with_reducible show wpAny _ _ (subscriptTail _ (PySem.Expr.Slice _ _ none _) (Value.ref _) (Value.ref _)) _ _ _); k_dflt (refine' kmk_slice_ints ?hzF ?hzN ?hzl ?hzp ?hzq ?hzi ?hzm ?hzc ?_ ?hzs ?hzt ?hzz; (case hzF => k_asm); (case hzN => k_asm); (case hzl => is_list); (case hzp => first | exact IsPart.none | exact IsPart.int _ _); (case hzq => first | exact IsPart.none | exact IsPart.int _ _); (case hzi => with_reducible assumption); (case hzm => first | exact kmk_upto (by with_reducible assumption) (by omega) | exact kmk_from (by with_reducible assumption) (by omega)); (case hzc => exact rfl); (case hzs => with_unfolding_all rfl); (case hzt => (intro _; rfl)); (case hzz => with_reducible assumption)); intro _ _ _ _ _ _ _ _ _; (try dsimp only); (try k_fold)))) | (with_reducible ((with_reducible show wpAny _ _ (binaryOp Operator.Mult (Value.int _ _) (Value.int _ _)) _ _ _); (k_dflt (refine' mul_small ?hzk1 ?hzk2 ?_; (case hzk1 => omega); (case hzk2 => omega); k_whole; intro _ _; (try dsimp only); (try k_fold))))) | (with_reducible ((with_reducible show wpAny _ _ (subscriptTail (PySem.Expr.Name _ _) (PySem.Expr.Constant _ _ _) _ _) _ _ _); ((with_reducible show wpAny _ _ (subscriptTail _ _ (Value.ref _) (Value.int _ _)) _ _ _); k_dflt (refine' item_l ?hzk1 ?hzk2 ?hzk3 ?hzk4 ?_ ?hzk6; (case hzk1 => is_list); (case hzk4 => with_reducible assumption); (case hzk2 => omega); (case hzk3 => omega); (case hzk6 => with_unfolding_all rfl); k_whole)))) | (with_reducible ((with_reducible show wpAny _ _ (subscriptTail (PySem.Expr.Name _ _) (PySem.Expr.BinOp _ _ _ _) _ _) _ _ _); ((with_reducible show wpAny _ _ (subscriptTail _ _ (Value.ref _) (Value.int _ _)) _ _ _); k_dflt (refine' item_l ?hzk1 ?hzk2 ?hzk3 ?hzk4 ?_ ?hzk6; (case hzk1 => is_list); (case hzk4 => with_reducible assumption); (case hzk2 => omega); (case hzk3 => omega); (case hzk6 => with_unfolding_all rfl); k_whole)))) | (with_reducible ((with_reducible show wpAny _ _ (subscriptTail (PySem.Expr.Name _ _) (PySem.Expr.Name _ _) _ _) _ _ _); ((with_reducible show wpAny _ _ (subscriptTail _ _ (Value.ref _) (Value.int _ _)) _ _ _); k_dflt (refine' item_l ?hzk1 ?hzk2 ?hzk3 ?hzk4 ?_ ?hzk6; (case hzk1 => is_list); (case hzk4 => with_reducible assumption); (case hzk2 => omega); (case hzk3 => omega); (case hzk6 => with_unfolding_all rfl); k_whole)))) | (with_reducible ((with_reducible show wpAny _ _ (call (Value.type "range") _) _ _ _); (k_dflt (refine' range2_rows ?hzk1 ?hzk2 ?_; (case hzk1 => k_asm); (case hzk2 => k_asm); k_whole; intro _ _ _ _ _ _ _ _ _; (try dsimp only); (try k_fold))))) | (with_reducible ((with_reducible show wpAny _ _ (inplaceOp Operator.Add (Value.str _ _) (Value.str (Str.mk #[_]) _)) _ _ _); refine iadd1 (by with_reducible assumption) ?_; intro _ _)) | (with_reducible ((with_reducible show wpAny _ _ (PySem.truthy (Value.str _ _)) _ _ _); refine truthy_yes (by with_reducible assumption) (by with_reducible assumption) ?_)) | (with_reducible ((with_reducible show wpAny _ _ (execs _ _) _ _ _); (first | k_gentoks | ((with_reducible refine execs_one ?_); try dsimp only)))) | (with_reducible (with_reducible refine wpAny_If ?_)) | (with_reducible (first | (refine ite_isFalse (by with_reducible assumption) ?_) | (refine ite_pos (by with_reducible assumption) ?_) | (refine ite_neg (by with_reducible assumption) ?_))) | walk1 | dsimp only | (dsimp only; walk1) | (leave1; (try dsimp only)) | fail "no step")
  rename Fr g1 L1 _ _ => F2
  rename News g1 L1 _ _ => N2
  refine mul_led F2 N2 (N2 _ (.head _)).1 (by omega) (by omega) ?_
  intro FA h2 F3 N3 lFA
  have N4 : News g1 L1 h2 ((FA, listOf (List.toArray (List.replicate (sz.getD 0 0 - 1).toNat (.int ((k : Int) + 1) (tk1 + 1)))) 0) :: (L1 + 1, oc) :: (SA, listOf SV.toArray cS) :: news) := fun p hp => N3 p (sp_a hp)
  have fcell : L1 + 1 ≠ FA := Nat.ne_of_lt (lFA (L1 + 1, oc) me1)
  have fS : SA ≠ FA := Nat.ne_of_lt (lFA (SA, listOf SV.toArray cS) me2)
  have fW : ∀ p ∈ news, p.1 ≠ FA := fun p hp => Nat.ne_of_lt (lFA p (mt3 hp))
  clear F2 N2 N3 lFA
  (try dsimp only)
  (try k_fold)
  repeat' ((fail_if_success (with_reducible show wpAny _ _ (exec (Stmt.For _ _ _ _ _) _) _ _ _)); first | (k_unfold; (try dsimp only)) | (k_end; wrow_close) | (with_reducible ((with_reducible show wpAny _ _ (subscriptTail (PySem.Expr.Name _ _) (PySem.Expr.Slice _ _ _ _) _ _) _ _ _); ((with_reducible show wpAny _ _ (subscriptTail _ (PySem.Expr.Slice _ _ none _) (Value.ref _) (Value.ref _)) _ _ _); k_dflt (refine' kmk_slice_ints ?hzF ?hzN ?hzl ?hzp ?hzq ?hzi ?hzm ?hzc ?_ ?hzs ?hzt ?hzz; (case hzF => k_asm); (case hzN => k_asm); (case hzl => is_list); (case hzp => first | exact IsPart.none | exact IsPart.int _ _); (case hzq => first | exact IsPart.none | exact IsPart.int _ _); (case hzi => with_reducible assumption); (case hzm => first | exact kmk_upto (by with_reducible assumption) (by omega) | exact kmk_from (by with_reducible assumption) (by omega)); (case hzc => exact rfl); (case hzs => with_unfolding_all rfl); (case hzt => (intro _; rfl)); (case hzz => with_reducible assumption)); intro _ _ _ _ _ _ _ _ _; (try dsimp only); (try k_fold)))) | (with_reducible ((with_reducible show wpAny _ _ (binaryOp Operator.Mult (Value.int _ _) (Value.int _ _)) _ _ _); (k_dflt (refine' mul_small ?hzk1 ?hzk2 ?_; (case hzk1 => omega); (case hzk2 => omega); k_whole; intro _ _; (try dsimp only); (try k_fold))))) | (with_reducible ((with_reducible show wpAny _ _ (subscriptTail (PySem.Expr.Name _ _) (PySem.Expr.Constant _ _ _) _ _) _ _ _); ((with_reducible show wpAny _ _ (subscriptTail _ _ (Value.ref _) (Value.int _ _)) _ _ _); k_dflt (refine' item_l ?hzk1 ?hzk2 ?hzk3 ?hzk4 ?_ ?hzk6; (case hzk1 => is_list); (case hzk4 => with_reducible assumption); (case hzk2 => omega); (case hzk3 => omega); (case hzk6 => with_unfolding_all rfl); k_whole)))) | (with_reducible ((with_reducible show wpAny _ _ (subscriptTail (PySem.Expr.Name _ _) (PySem.Expr.BinOp _ _ _ _) _ _) _ _ _); ((with_reducible show wpAny _ _ (subscriptTail _ _ (Value.ref _) (Value.int _ _)) _ _ _); k_dflt (refine' item_l ?hzk1 ?hzk2 ?hzk3 ?hzk4 ?_ ?hzk6; (case hzk1 => is_list); (case hzk4 => with_reducible assumption); (case hzk2 => omega); (case hzk3 => omega); (case hzk6 => with_unfolding_all rfl); k_whole)))) | (with_reducible ((with_reducible show wpAny _ _ (subscriptTail (PySem.Expr.Name _ _) (PySem.Expr.Name _ _) _ _) _ _ _); ((with_reducible show wpAny _ _ (subscriptTail _ _ (Value.ref _) (Value.int _ _)) _ _ _); k_dflt (refine' item_l ?hzk1 ?hzk2 ?hzk3 ?hzk4 ?_ ?hzk6; (case hzk1 => is_list); (case hzk4 => with_reducible assumption); (case hzk2 => omega); (case hzk3 => omega); (case hzk6 => with_unfolding_all rfl); k_whole)))) | (with_reducible ((with_reducible show wpAny _ _ (call (Value.type "range") _) _ _ _); (k_dflt (refine' range2_rows ?hzk1 ?hzk2 ?_; (case hzk1 => k_asm); (case hzk2 => k_asm); k_whole; intro _ _ _ _ _ _ _ _ _; (try dsimp only); (try k_fold))))) | (with_reducible ((with_reducible show wpAny _ _ (inplaceOp Operator.Add (Value.str _ _) (Value.str (Str.mk #[_]) _)) _ _ _); refine iadd1 (by with_reducible assumption) ?_; intro _ _)) | (with_reducible ((with_reducible show wpAny _ _ (PySem.truthy (Value.str _ _)) _ _ _); refine truthy_yes (by with_reducible assumption) (by with_reducible assumption) ?_)) | (with_reducible ((with_reducible show wpAny _ _ (execs _ _) _ _ _); (first | k_gentoks | ((with_reducible refine execs_one ?_); try dsimp only)))) | (with_reducible (with_reducible refine wpAny_If ?_)) | (with_reducible (first | (refine ite_isFalse (by with_reducible assumption) ?_) | (refine ite_pos (by with_reducible assumption) ?_) | (refine ite_neg (by with_reducible assumption) ?_))) | walk1 | dsimp only | (dsimp only; walk1) | (leave1; (try dsimp only)) | fail "no step")
  refine wpAny_For ?_
  repeat' ((fail_if_success (with_reducible show wpAny _ _ (pyIter _) _ _ _)); first | (k_unfold; (try dsimp only)) | (k_end; wrow_close) | (with_reducible ((with_reducible show wpAny _ _ (subscriptTail (PySem.Expr.Name _ _) (PySem.Expr.Slice _ _ _ _) _ _) _ _ _); ((with_reducible show wpAny _ _ (subscriptTail _ (PySem.Expr.Slice _ _ none _) (Value.ref _) (Value.ref _)) _ _ _); k_dflt (refine' kmk_slice_ints ?hzF ?hzN ?hzl ?hzp ?hzq ?hzi ?hzm ?hzc ?_ ?hzs ?hzt ?hzz; (case hzF => k_asm); (case hzN => k_asm); (case hzl => is_list); (case hzp => first | exact IsPart.none | exact IsPart.int _ _); (case hzq => first | exact IsPart.none | exact IsPart.int _ _); (case hzi => with_reducible assumption); (case hzm => first | exact kmk_upto (by with_reducible assumption) (by omega) | exact kmk_from (by with_reducible assumption) (by omega)); (case hzc => exact rfl); (case hzs => with_unfolding_all rfl); (case hzt => (intro _; rfl)); (case hzz => with_reducible assumption)); intro _ _ _ _ _ _ _ _ _; (try dsimp only); (try k_fold)))) | (with_reducible ((with_reducible show wpAny _ _ (binaryOp Operator.Mult (Value.int _ _) (Value.int _ _)) _ _ _); (k_dflt (refine' mul_small ?hzk1 ?hzk2 ?_; (case hzk1 => omega); (case hzk2 => omega); k_whole; intro _ _; (try dsimp only); (try k_fold))))) | (with_reducible ((with_reducible show wpAny _ _ (subscriptTail (PySem.Expr.Name _ _) (PySem.Expr.Constant _ _ _) _ _) _ _ _); ((with_reducible show wpAny _ _ (subscriptTail _ _ (Value.ref _) (Value.int _ _)) _ _ _); k_dflt (refine' item_l ?hzk1 ?hzk2 ?hzk3 ?hzk4 ?_ ?hzk6; (case hzk1 => is_list); (case hzk4 => with_reducible assumption); (case hzk2 => omega); (case hzk3 => omega); (case hzk6 => with_unfolding_all rfl); k_whole)))) | (with_reducible ((with_reducible show wpAny _ _ (subscriptTail (PySem.Expr.Name _ _) (PySem.Expr.BinOp _ _ _ _) _ _) _ _ _); ((with_reducible show wpAny _ _ (subscriptTail _ _ (Value.ref _) (Value.int _ _)) _ _ _); k_dflt (refine' item_l ?hzk1 ?hzk2 ?hzk3 ?hzk4 ?_ ?hzk6; (case hzk1 => is_list); (case hzk4 => with_reducible assumption); (case hzk2 => omega); (case hzk3 => omega); (case hzk6 => with_unfolding_all rfl); k_whole)))) | (with_reducible ((with_reducible show wpAny _ _ (subscriptTail (PySem.Expr.Name _ _) (PySem.Expr.Name _ _) _ _) _ _ _); ((with_reducible show wpAny _ _ (subscriptTail _ _ (Value.ref _) (Value.int _ _)) _ _ _); k_dflt (refine' item_l ?hzk1 ?hzk2 ?hzk3 ?hzk4 ?_ ?hzk6; (case hzk1 => is_list); (case hzk4 => with_reducible assumption); (case hzk2 => omega); (case hzk3 => omega); (case hzk6 => with_unfolding_all rfl); k_whole)))) | (with_reducible ((with_reducible show wpAny _ _ (call (Value.type "range") _) _ _ _); (k_dflt (refine' range2_rows ?hzk1 ?hzk2 ?_; (case hzk1 => k_asm); (case hzk2 => k_asm); k_whole; intro _ _ _ _ _ _ _ _ _; (try dsimp only); (try k_fold))))) | (with_reducible ((with_reducible show wpAny _ _ (inplaceOp Operator.Add (Value.str _ _) (Value.str (Str.mk #[_]) _)) _ _ _); refine iadd1 (by with_reducible assumption) ?_; intro _ _)) | (with_reducible ((with_reducible show wpAny _ _ (PySem.truthy (Value.str _ _)) _ _ _); refine truthy_yes (by with_reducible assumption) (by with_reducible assumption) ?_)) | (with_reducible ((with_reducible show wpAny _ _ (execs _ _) _ _ _); (first | k_gentoks | ((with_reducible refine execs_one ?_); try dsimp only)))) | (with_reducible (with_reducible refine wpAny_If ?_)) | (with_reducible (first | (refine ite_isFalse (by with_reducible assumption) ?_) | (refine ite_pos (by with_reducible assumption) ?_) | (refine ite_neg (by with_reducible assumption) ?_))) | walk1 | dsimp only | (dsimp only; walk1) | (leave1; (try dsimp only)) | fail "no step")
  rename IsRange _ _ _ _ _ _ _ _ => hr
  rename Fr g1 L1 _ _ => F5
  rename News g1 L1 _ _ => N5
  refine rng_iterA F5 N5 hr (by omega) (by omega) (by omega) ?_
  intro it h6 F6 N6 hit
  clear F5 N5 hr
  have iFA : FA ≠ it := hit (FA, _) (.head _)
  have iC : L1 + 1 ≠ it := hit (L1 + 1, oc) me1
  have iS : SA ≠ it := hit (SA, listOf SV.toArray cS) me2
  have iW : ∀ p ∈ news, p.1 ≠ it := fun p hp => hit p (mt3 hp)
  refine for_inv_q (SPi s k g1 L1 FA SA it oc a b t1 t2 t3 SV cS sz news) (SPj s k g1 L1 FA SA it oc a b t1 t2 t3 SV cS sz news) k ?hinit ?turn ?post (by intro _; rfl)
  case hinit =>
    refine ⟨0, _, _, List.replicate (sz.getD 0 0 - 1).toNat (.int ((k : Int) + 1) (tk1 + 1)), 0, _, by omega, rfl, Fr.re F6 (loc_at [("factors", .ref FA), ("b", .int b t3), ("a", .int a t2), ("k", .int (k : Int) t1), ("sizes", .ref SA)] (.cons rfl (.cons rfl (.cons rfl (.cons rfl (.cons rfl .nil)))))), ints_rep _ _ _, ?_⟩
    have e1 : ((0 : Nat) : Int) + 1 = 1 := rfl
    have e2 : ((k : Int) + 1) - 1 = (k : Int) := by omega
    rw [e2] at N6
    exact N6
  case post =>
    rintro s' ⟨i, h2, tk2, FV, cF, junk, hi, rfl, Fa, hFV, Na⟩
    subst hi
    clear F6 N6
    (try dsimp only)
    obtain ⟨fs, hfs⟩ : ∃ fs, fs = facsUp sz i i := ⟨_, rfl⟩
    obtain ⟨fl1, fl2⟩ := facsUp_ok (k := i) hsz (by omega) i (by omega) (by omega)
    rw [← hfs] at hFV fl1 fl2 hret
    have hlF := IntsAre.length hFV
    have hc0 : ∀ n ∈ [b, a + (i : Int) * b], n.natAbs ≤ 2000 := fun n hn => by
      simp only [List.mem_cons, List.not_mem_nil, or_false] at hn
      rcases hn with rfl | rfl
      · omega
      · have h1 : ((i : Int) * b).natAbs ≤ 4 * 100 := by
          rw [Int.natAbs_mul]
          exact Nat.mul_le_mul (by omega) hb
        omega
    repeat' ((fail_if_success (with_reducible show wpAny _ _ (exec (Stmt.For _ _ _ _ _) _) _ _ _)); first | (k_unfold; (try dsimp only)) | (k_end; wrow_close) | (with_reducible ((with_reducible show wpAny _ _ (subscriptTail (PySem.Expr.Name _ _) (PySem.Expr.Slice _ _ _ _) _ _) _ _ _); ((with_reducible show wpAny _ _ (subscriptTail _ (PySem.Expr.Slice _ _ none _) (Value.ref _) (Value.ref _)) _ _ _); k_dflt (refine' kmk_slice_ints ?hzF ?hzN ?hzl ?hzp ?hzq ?hzi ?hzm ?hzc ?_ ?hzs ?hzt ?hzz; (case hzF => k_asm); (case hzN => k_asm); (case hzl => is_list); (case hzp => first | exact IsPart.none | exact IsPart.int _ _); (case hzq => first | exact IsPart.none | exact IsPart.int _ _); (case hzi => with_reducible assumption); (case hzm => first | exact kmk_upto (by with_reducible assumption) (by omega) | exact kmk_from (by with_reducible assumption) (by omega)); (case hzc => exact rfl); (case hzs => with_unfolding_all rfl); (case hzt => (intro _; rfl)); (case hzz => with_reducible assumption)); intro _ _ _ _ _ _ _ _ _; (try dsimp only); (try k_fold)))) | (with_reducible ((with_reducible show wpAny _ _ (binaryOp Operator.Mult (Value.int _ _) (Value.int _ _)) _ _ _); (k_dflt (refine' mul_small ?hzk1 ?hzk2 ?_; (case hzk1 => omega); (case hzk2 => omega); k_whole; intro _ _; (try dsimp only); (try k_fold))))) | (with_reducible ((with_reducible show wpAny _ _ (subscriptTail (PySem.Expr.Name _ _) (PySem.Expr.Constant _ _ _) _ _) _ _ _); ((with_reducible show wpAny _ _ (subscriptTail _ _ (Value.ref _) (Value.int _ _)) _ _ _); k_dflt (refine' item_l ?hzk1 ?hzk2 ?hzk3 ?hzk4 ?_ ?hzk6; (case hzk1 => is_list); (case hzk4 => with_reducible assumption); (case hzk2 => omega); (case hzk3 => omega); (case hzk6 => with_unfolding_all rfl); k_whole)))) | (with_reducible ((with_reducible show wpAny _ _ (subscriptTail (PySem.Expr.Name _ _) (PySem.Expr.BinOp _ _ _ _) _ _) _ _ _); ((with_reducible show wpAny _ _ (subscriptTail _ _ (Value.ref _) (Value.int _ _)) _ _ _); k_dflt (refine' item_l ?hzk1 ?hzk2 ?hzk3 ?hzk4 ?_ ?hzk6; (case hzk1 => is_list); (case hzk4 => with_reducible assumption); (case hzk2 => omega); (case hzk3 => omega); (case hzk6 => with_unfolding_all rfl); k_whole)))) | (with_reducible ((with_reducible show wpAny _ _ (subscriptTail (PySem.Expr.Name _ _) (PySem.Expr.Name _ _) _ _) _ _ _); ((with_reducible show wpAny _ _ (subscriptTail _ _ (Value.ref _) (Value.int _ _)) _ _ _); k_dflt (refine' item_l ?hzk1 ?hzk2 ?hzk3 ?hzk4 ?_ ?hzk6; (case hzk1 => is_list); (case hzk4 => with_reducible assumption); (case hzk2 => omega); (case hzk3 => omega); (case hzk6 => with_unfolding_all rfl); k_whole)))) | (with_reducible ((with_reducible show wpAny _ _ (call (Value.type "range") _) _ _ _); (k_dflt (refine' range2_rows ?hzk1 ?hzk2 ?_; (case hzk1 => k_asm); (case hzk2 => k_asm); k_whole; intro _ _ _ _ _ _ _ _ _; (try dsimp only); (try k_fold))))) | (with_reducible ((with_reducible show wpAny _ _ (inplaceOp Operator.Add (Value.str _ _) (Value.str (Str.mk #[_]) _)) _ _ _); refine iadd1 (by with_reducible assumption) ?_; intro _ _)) | (with_reducible ((with_reducible show wpAny _ _ (PySem.truthy (Value.str _ _)) _ _ _); refine truthy_yes (by with_reducible assumption) (by with_reducible assumption) ?_)) | (with_reducible ((with_reducible show wpAny _ _ (execs _ _) _ _ _); (first | k_gentoks | ((with_reducible refine execs_one ?_); try dsimp only)))) | (with_reducible (with_reducible refine wpAny_If ?_)) | (with_reducible (first | (refine ite_isFalse (by with_reducible assumption) ?_) | (refine ite_pos (by with_reducible assumption) ?_) | (refine ite_neg (by with_reducible assumption) ?_))) | walk1 | dsimp only | (dsimp only; walk1) | (leave1; (try dsimp only)) | fail "no step")
    refine wpAny_For ?_
    repeat' ((fail_if_success (with_reducible show wpAny _ _ (pyIter _) _ _ _)); first | (k_unfold; (try dsimp only)) | (k_end; wrow_close) | (with_reducible ((with_reducible show wpAny _ _ (subscriptTail (PySem.Expr.Name _ _) (PySem.Expr.Slice _ _ _ _) _ _) _ _ _); ((with_reducible show wpAny _ _ (subscriptTail _ (PySem.Expr.Slice _ _ none _) (Value.ref _) (Value.ref _)) _ _ _); k_dflt (refine' kmk_slice_ints ?hzF ?hzN ?hzl ?hzp ?hzq ?hzi ?hzm ?hzc ?_ ?hzs ?hzt ?hzz; (case hzF => k_asm); (case hzN => k_asm); (case hzl => is_list); (case hzp => first | exact IsPart.none | exact IsPart.int _ _); (case hzq => first | exact IsPart.none | exact IsPart.int _ _); (case hzi => with_reducible assumption); (case hzm => first | exact kmk_upto (by with_reducible assumption) (by omega) | exact kmk_from (by with_reducible assumption) (by omega)); (case hzc => exact rfl); (case hzs => with_unfolding_all rfl); (case hzt => (intro _; rfl)); (case hzz => with_reducible assumption)); intro _ _ _ _ _ _ _ _ _; (try dsimp only); (try k_fold)))) | (with_reducible ((with_reducible show wpAny _ _ (binaryOp Operator.Mult (Value.int _ _) (Value.int _ _)) _ _ _); (k_dflt (refine' mul_small ?hzk1 ?hzk2 ?_; (case hzk1 => omega); (case hzk2 => omega); k_whole; intro _ _; (try dsimp only); (try k_fold))))) | (with_reducible ((with_reducible show wpAny _ _ (subscriptTail (PySem.Expr.Name _ _) (PySem.Expr.Constant _ _ _) _ _) _ _ _); ((with_reducible show wpAny _ _ (subscriptTail _ _ (Value.ref _) (Value.int _ _)) _ _ _); k_dflt (refine' item_l ?hzk1 ?hzk2 ?hzk3 ?hzk4 ?_ ?hzk6; (case hzk1 => is_list); (case hzk4 => with_reducible assumption); (case hzk2 => omega); (case hzk3 => omega); (case hzk6 => with_unfolding_all rfl); k_whole)))) | (with_reducible ((with_reducible show wpAny _ _ (subscriptTail (PySem.Expr.Name _ _) (PySem.Expr.BinOp _ _ _ _) _ _) _ _ _); ((with_reducible show wpAny _ _ (subscriptTail _ _ (Value.ref _) (Value.int _ _)) _ _ _); k_dflt (refine' item_l ?hzk1 ?hzk2 ?hzk3 ?hzk4 ?_ ?hzk6; (case hzk1 => is_list); (case hzk4 => with_reducible assumption); (case hzk2 => omega); (case hzk3 => omega); (case hzk6 => with_unfolding_all rfl); k_whole)))) | (with_reducible ((with_reducible show wpAny _ _ (subscriptTail (PySem.Expr.Name _ _) (PySem.Expr.Name _ _) _ _) _ _ _); ((with_reducible show wpAny _ _ (subscriptTail _ _ (Value.ref _) (Value.int _ _)) _ _ _); k_dflt (refine' item_l ?hzk1 ?hzk2 ?hzk3 ?hzk4 ?_ ?hzk6; (case hzk1 => is_list); (case hzk4 => with_reducible assumption); (case hzk2 => omega); (case hzk3 => omega); (case hzk6 => with_unfolding_all rfl); k_whole)))) | (with_reducible ((with_reducible show wpAny _ _ (call (Value.type "range") _) _ _ _); (k_dflt (refine' range2_rows ?hzk1 ?hzk2 ?_; (case hzk1 => k_asm); (case hzk2 => k_asm); k_whole; intro _ _ _ _ _ _ _ _ _; (try dsimp only); (try k_fold))))) | (with_reducible ((with_reducible show wpAny _ _ (inplaceOp Operator.Add (Value.str _ _) (Value.str (Str.mk #[_]) _)) _ _ _); refine iadd1 (by with_reducible assumption) ?_; intro _ _)) | (with_reducible ((with_reducible show wpAny _ _ (PySem.truthy (Value.str _ _)) _ _ _); refine truthy_yes (by with_reducible assumption) (by with_reducible assumption) ?_)) | (with_reducible ((with_reducible show wpAny _ _ (execs _ _) _ _ _); (first | k_gentoks | ((with_reducible refine execs_one ?_); try dsimp only)))) | (with_reducible (with_reducible refine wpAny_If ?_)) | (with_reducible (first | (refine ite_isFalse (by with_reducible assumption) ?_) | (refine ite_pos (by with_reducible assumption) ?_) | (refine ite_neg (by with_reducible assumption) ?_))) | walk1 | dsimp only | (dsimp only; walk1) | (leave1; (try dsimp only)) | fail "no step")
    rename Fr g1 L1 _ _ => F5
    rename News g1 L1 _ _ => N5
    refine lst_iter F5 N5 ⟨_, (N5 (FA, listOf (List.toArray FV) cF) me1).1, rfl, _, rfl⟩ ?_
    intro it2 o2 h6 F6 ho2 N6 hit2
    clear F5 N5
    rename_i k9 CA0 _ lCA _
    obtain ⟨lCA1, lCA2, lCA3, lCA4⟩ := lCA
    have jF : FA ≠ it2 := hit2 (FA, listOf (List.toArray FV) cF) me1
    have jC : L1 + 1 ≠ it2 := hit2 (L1 + 1, oc) me2
    have jS : SA ≠ it2 := hit2 (SA, listOf SV.toArray cS) me3
    have jW : ∀ p ∈ news, p.1 ≠ it2 := fun p hp => hit2 p (mt4 hp)
    refine for_inv_q (SPw s fs [b, a + (i : Int) * b] g1 L1 FA SA it2 FV SV cF cS news) (SPx s fs [b, a + (i : Int) * b] g1 L1 FA SA it2 FV SV cF cS news) fs.length ?wi ?wt ?wp (by intro _; rfl)
    case wi =>
      refine ⟨0, _, _, o2, oc, none, CA0, [.int b t3, .int (a + (i : Int) * b) k9], 0, _, by omega, hit2 _ (.head _), rfl, Fr.re F6 (loc_at [("coefficients", .ref CA0), ("factors", .ref FA)] (.cons rfl (.cons rfl .nil))), ho2, hoc0, .cons _ _ (.cons _ _ .nil), (Nat.ne_of_lt lCA2).symm, (Nat.ne_of_lt lCA1).symm, ?w3⟩
      intro p hp
      exact N6 p (sp_b hp)
    case wp =>
      rintro s' ⟨j, h3, tk3, oW, oc2, v0, CA, CV, cC, junk2, hnj, rfl, Fb, hoW, hoc2, hCV, cL, cFA, Nb⟩
      clear F6 N6
      subst hnj
      have hlC := IntsAre.length hCV
      have hcl := coefs_length (fs := fs) (c0 := [b, a + (i : Int) * b]) (j := fs.length) (by omega)
      simp only [List.length_cons, List.length_nil] at hcl
      (try dsimp only)
      repeat' (first | (k_unfold; (try dsimp only)) | (k_end; wrow_close) | (with_reducible ((with_reducible show wpAny _ _ (subscriptTail (PySem.Expr.Name _ _) (PySem.Expr.Slice _ _ _ _) _ _) _ _ _); ((with_reducible show wpAny _ _ (subscriptTail _ (PySem.Expr.Slice _ _ none _) (Value.ref _) (Value.ref _)) _ _ _); k_dflt (refine' kmk_slice_ints ?hzF ?hzN ?hzl ?hzp ?hzq ?hzi ?hzm ?hzc ?_ ?hzs ?hzt ?hzz; (case hzF => k_asm); (case hzN => k_asm); (case hzl => is_list); (case hzp => first | exact IsPart.none | exact IsPart.int _ _); (case hzq => first | exact IsPart.none | exact IsPart.int _ _); (case hzi => with_reducible assumption); (case hzm => first | exact kmk_upto (by with_reducible assumption) (by omega) | exact kmk_from (by with_reducible assumption) (by omega)); (case hzc => exact rfl); (case hzs => with_unfolding_all rfl); (case hzt => (intro _; rfl)); (case hzz => with_reducible assumption)); intro _ _ _ _ _ _ _ _ _; (try dsimp only); (try k_fold)))) | (with_reducible ((with_reducible show wpAny _ _ (binaryOp Operator.Mult (Value.int _ _) (Value.int _ _)) _ _ _); (k_dflt (refine' mul_small ?hzk1 ?hzk2 ?_; (case hzk1 => omega); (case hzk2 => omega); k_whole; intro _ _; (try dsimp only); (try k_fold))))) | (with_reducible ((with_reducible show wpAny _ _ (subscriptTail (PySem.Expr.Name _ _) (PySem.Expr.Constant _ _ _) _ _) _ _ _); ((with_reducible show wpAny _ _ (subscriptTail _ _ (Value.ref _) (Value.int _ _)) _ _ _); k_dflt (refine' item_l ?hzk1 ?hzk2 ?hzk3 ?hzk4 ?_ ?hzk6; (case hzk1 => is_list); (case hzk4 => with_reducible assumption); (case hzk2 => omega); (case hzk3 => omega); (case hzk6 => with_unfolding_all rfl); k_whole)))) | (with_reducible ((with_reducible show wpAny _ _ (subscriptTail (PySem.Expr.Name _ _) (PySem.Expr.BinOp _ _ _ _) _ _) _ _ _); ((with_reducible show wpAny _ _ (subscriptTail _ _ (Value.ref _) (Value.int _ _)) _ _ _); k_dflt (refine' item_l ?hzk1 ?hzk2 ?hzk3 ?hzk4 ?_ ?hzk6; (case hzk1 => is_list); (case hzk4 => with_reducible assumption); (case hzk2 => omega); (case hzk3 => omega); (case hzk6 => with_unfolding_all rfl); k_whole)))) | (with_reducible ((with_reducible show wpAny _ _ (subscriptTail (PySem.Expr.Name _ _) (PySem.Expr.Name _ _) _ _) _ _ _); ((with_reducible show wpAny _ _ (subscriptTail _ _ (Value.ref _) (Value.int _ _)) _ _ _); k_dflt (refine' item_l ?hzk1 ?hzk2 ?hzk3 ?hzk4 ?_ ?hzk6; (case hzk1 => is_list); (case hzk4 => with_reducible assumption); (case hzk2 => omega); (case hzk3 => omega); (case hzk6 => with_unfolding_all rfl); k_whole)))) | (with_reducible ((with_reducible show wpAny _ _ (call (Value.type "range") _) _ _ _); (k_dflt (refine' range2_rows ?hzk1 ?hzk2 ?_; (case hzk1 => k_asm); (case hzk2 => k_asm); k_whole; intro _ _ _ _ _ _ _ _ _; (try dsimp only); (try k_fold))))) | (with_reducible ((with_reducible show wpAny _ _ (inplaceOp Operator.Add (Value.str _ _) (Value.str (Str.mk #[_]) _)) _ _ _); refine iadd1 (by with_reducible assumption) ?_; intro _ _)) | (with_reducible ((with_reducible show wpAny _ _ (PySem.truthy (Value.str _ _)) _ _ _); refine truthy_yes (by with_reducible assumption) (by with_reducible assumption) ?_)) | (with_reducible ((with_reducible show wpAny _ _ (execs _ _) _ _ _); (first | k_gentoks | ((with_reducible refine execs_one ?_); try dsimp only)))) | (with_reducible (with_reducible refine wpAny_If ?_)) | (with_reducible (first | (refine ite_isFalse (by with_reducible assumption) ?_) | (refine ite_pos (by with_reducible assumption) ?_) | (refine ite_neg (by with_reducible assumption) ?_))) | walk1 | dsimp only | (dsimp only; walk1) | (leave1; (try dsimp only)) | fail "no step")
      rename (IntsAre _ (List.drop 1 _)) => hI
      rename (L1 + 1 < _ ∧ _) => lD
      rename News h₀ L _ _ => NF
      rename Fr h₀ L _ _ => FF
      obtain ⟨_, _, _, lD4, lD5⟩ := lD
      refine hret _ _ 0 _ _ hI FF (fun p hp => NF p ?_) (fun p hp => allLt_mem lD5 hp) (Nat.ne_of_lt lD4).symm
      simp only [List.mem_cons] at hp ⊢
      rcases hp with h | h | h <;> simp [h]
    case wt =>
      rintro nB s' ⟨j, h3, tk3, oW, oc2, v0, CA, CV, cC, junk2, hnj, cit, rfl, Fb, hoW, hoc2, hCV, cL, cFA, Nb⟩ QP2 hno2 hso2
      have hFl : h3.IsList FA (List.toArray FV) := ⟨_, (Nb (FA, listOf (List.toArray FV) cF) me3).1, rfl, _, rfl⟩
      have hneB : ∀ p ∈ ((L1 + 1, oc2) :: (CA, listOf (List.toArray CV) cC) :: (FA, listOf (List.toArray FV) cF) :: (SA, listOf SV.toArray cS) :: news : List (Addr × Obj)), p.1 ≠ it2 := ne_c jC (ne_c cit (ne_c jF (ne_c jS jW)))
      cases nB with
      | zero =>
        refine lst_end rfl Fb Nb hneB hoW hFl (by rw [Array.getElem?_eq_none_iff]; simp; omega) ?_
        intro h13 F13 N13
        exact hno2 _ ⟨j, h13, tk3, oW, oc2, v0, CA, CV, cC, junk2, by omega, rfl, F13, hoW, hoc2, hCV, cL, cFA, N13⟩
      | succ nB =>
        have hj : j < fs.length := by omega
        obtain ⟨tF, hFj⟩ := IntsAre.at hFV hj
        have hfb := fl2 _ (getD_in hj)
        refine lst_next Fb Nb hneB hoW hFl (by simpa using hFj) ?_
        intro h13 o13 F13 ho13 N13
        clear F6 N6 Fb Nb
        refine hso2 _ _ (fun QQ2 hnx2 _ _ => ?_)
        clear hso2 hno2 QP2
        (try dsimp only)
        repeat' ((fail_if_success (with_reducible show QQ2 _ _)); (fail_if_success (with_reducible show wpAny _ _ (storeName _ (Str.ofString "factor") _) _ _ _)); first | (k_unfold; (try dsimp only)) | (k_end; wrow_close) | (with_reducible ((with_reducible show wpAny _ _ (subscriptTail (PySem.Expr.Name _ _) (PySem.Expr.Slice _ _ _ _) _ _) _ _ _); ((with_reducible show wpAny _ _ (subscriptTail _ (PySem.Expr.Slice _ _ none _) (Value.ref _) (Value.ref _)) _ _ _); k_dflt (refine' kmk_slice_ints ?hzF ?hzN ?hzl ?hzp ?hzq ?hzi ?hzm ?hzc ?_ ?hzs ?hzt ?hzz; (case hzF => k_asm); (case hzN => k_asm); (case hzl => is_list); (case hzp => first | exact IsPart.none | exact IsPart.int _ _); (case hzq => first | exact IsPart.none | exact IsPart.int _ _); (case hzi => with_reducible assumption); (case hzm => first | exact kmk_upto (by with_reducible assumption) (by omega) | exact kmk_from (by with_reducible assumption) (by omega)); (case hzc => exact rfl); (case hzs => with_unfolding_all rfl); (case hzt => (intro _; rfl)); (case hzz => with_reducible assumption)); intro _ _ _ _ _ _ _ _ _; (try dsimp only); (try k_fold)))) | (with_reducible ((with_reducible show wpAny _ _ (binaryOp Operator.Mult (Value.int _ _) (Value.int _ _)) _ _ _); (k_dflt (refine' mul_small ?hzk1 ?hzk2 ?_; (case hzk1 => omega); (case hzk2 => omega); k_whole; intro _ _; (try dsimp only); (try k_fold))))) | (with_reducible ((with_reducible show wpAny _ _ (subscriptTail (PySem.Expr.Name _ _) (PySem.Expr.Constant _ _ _) _ _) _ _ _); ((with_reducible show wpAny _ _ (subscriptTail _ _ (Value.ref _) (Value.int _ _)) _ _ _); k_dflt (refine' item_l ?hzk1 ?hzk2 ?hzk3 ?hzk4 ?_ ?hzk6; (case hzk1 => is_list); (case hzk4 => with_reducible assumption); (case hzk2 => omega); (case hzk3 => omega); (case hzk6 => with_unfolding_all rfl); k_whole)))) | (with_reducible ((with_reducible show wpAny _ _ (subscriptTail (PySem.Expr.Name _ _) (PySem.Expr.BinOp _ _ _ _) _ _) _ _ _); ((with_reducible show wpAny _ _ (subscriptTail _ _ (Value.ref _) (Value.int _ _)) _ _ _); k_dflt (refine' item_l ?hzk1 ?hzk2 ?hzk3 ?hzk4 ?_ ?hzk6; (case hzk1 => is_list); (case hzk4 => with_reducible assumption); (case hzk2 => omega); (case hzk3 => omega); (case hzk6 => with_unfolding_all rfl); k_whole)))) | (with_reducible ((with_reducible show wpAny _ _ (subscriptTail (PySem.Expr.Name _ _) (PySem.Expr.Name _ _) _ _) _ _ _); ((with_reducible show wpAny _ _ (subscriptTail _ _ (Value.ref _) (Value.int _ _)) _ _ _); k_dflt (refine' item_l ?hzk1 ?hzk2 ?hzk3 ?hzk4 ?_ ?hzk6; (case hzk1 => is_list); (case hzk4 => with_reducible assumption); (case hzk2 => omega); (case hzk3 => omega); (case hzk6 => with_unfolding_all rfl); k_whole)))) | (with_reducible ((with_reducible show wpAny _ _ (call (Value.type "range") _) _ _ _); (k_dflt (refine' range2_rows ?hzk1 ?hzk2 ?_; (case hzk1 => k_asm); (case hzk2 => k_asm); k_whole; intro _ _ _ _ _ _ _ _ _; (try dsimp only); (try k_fold))))) | (with_reducible ((with_reducible show wpAny _ _ (inplaceOp Operator.Add (Value.str _ _) (Value.str (Str.mk #[_]) _)) _ _ _); refine iadd1 (by with_reducible assumption) ?_; intro _ _)) | (with_reducible ((with_reducible show wpAny _ _ (PySem.truthy (Value.str _ _)) _ _ _); refine truthy_yes (by with_reducible assumption) (by with_reducible assumption) ?_)) | (with_reducible ((with_reducible show wpAny _ _ (execs _ _) _ _ _); (first | k_gentoks | ((with_reducible refine execs_one ?_); try dsimp only)))) | (with_reducible (with_reducible refine wpAny_If ?_)) | (with_reducible (first | (refine ite_isFalse (by with_reducible assumption) ?_) | (refine ite_pos (by with_reducible assumption) ?_) | (refine ite_neg (by with_reducible assumption) ?_))) | walk1 | dsimp only | (dsimp only; walk1) | (leave1; (try dsimp only)) | fail "no step")
        refine storeX_C F13 (news_swap N13) rfl (UpdF.head ?un) hoc2 ?_ rfl rfl
        case un => exact ne_c jC.symm (ne_c cL (ne_c fcell.symm (ne_c (Nat.ne_of_lt (Nat.lt_succ_of_lt l1.1)) (fun p hp => Nat.ne_of_lt (Nat.lt_succ_of_lt (allLt_lt l1.2 hp))))))
        intro h14 oc3 F14 N14 hoc3
        clear F13 N13 hoc2
        (try dsimp only)
        (try dsimp only at N14)
        (try k_fold)
        repeat' ((fail_if_success (with_reducible show QQ2 _ _)); (fail_if_success (with_reducible show wpAny _ _ (binaryOp Operator.Add (Value.ref _) (Value.ref _)) _ _ _)); first | (k_unfold; (try dsimp only)) | (k_end; wrow_close) | (with_reducible ((with_reducible show wpAny _ _ (subscriptTail (PySem.Expr.Name _ _) (PySem.Expr.Slice _ _ _ _) _ _) _ _ _); ((with_reducible show wpAny _ _ (subscriptTail _ (PySem.Expr.Slice _ _ none _) (Value.ref _) (Value.ref _)) _ _ _); k_dflt (refine' kmk_slice_ints ?hzF ?hzN ?hzl ?hzp ?hzq ?hzi ?hzm ?hzc ?_ ?hzs ?hzt ?hzz; (case hzF => k_asm); (case hzN => k_asm); (case hzl => is_list); (case hzp => first | exact IsPart.none | exact IsPart.int _ _); (case hzq => first | exact IsPart.none | exact IsPart.int _ _); (case hzi => with_reducible assumption); (case hzm => first | exact kmk_upto (by with_reducible assumption) (by omega) | exact kmk_from (by with_reducible assumption) (by omega)); (case hzc => exact rfl); (case hzs => with_unfolding_all rfl); (case hzt => (intro _; rfl)); (case hzz => with_reducible assumption)); intro _ _ _ _ _ _ _ _ _; (try dsimp only); (try k_fold)))) | (with_reducible ((with_reducible show wpAny _ _ (binaryOp Operator.Mult (Value.int _ _) (Value.int _ _)) _ _ _); (k_dflt (refine' mul_small ?hzk1 ?hzk2 ?_; (case hzk1 => omega); (case hzk2 => omega); k_whole; intro _ _; (try dsimp only); (try k_fold))))) | (with_reducible ((with_reducible show wpAny _ _ (subscriptTail (PySem.Expr.Name _ _) (PySem.Expr.Constant _ _ _) _ _) _ _ _); ((with_reducible show wpAny _ _ (subscriptTail _ _ (Value.ref _) (Value.int _ _)) _ _ _); k_dflt (refine' item_l ?hzk1 ?hzk2 ?hzk3 ?hzk4 ?_ ?hzk6; (case hzk1 => is_list); (case hzk4 => with_reducible assumption); (case hzk2 => omega); (case hzk3 => omega); (case hzk6 => with_unfolding_all rfl); k_whole)))) | (with_reducible ((with_reducible show wpAny _ _ (subscriptTail (PySem.Expr.Name _ _) (PySem.Expr.BinOp _ _ _ _) _ _) _ _ _); ((with_reducible show wpAny _ _ (subscriptTail _ _ (Value.ref _) (Value.int _ _)) _ _ _); k_dflt (refine' item_l ?hzk1 ?hzk2 ?hzk3 ?hzk4 ?_ ?hzk6; (case hzk1 => is_list); (case hzk4 => with_reducible assumption); (case hzk2 => omega); (case hzk3 => omega); (case hzk6 => with_unfolding_all rfl); k_whole)))) | (with_reducible ((with_reducible show wpAny _ _ (subscriptTail (PySem.Expr.Name _ _) (PySem.Expr.Name _ _) _ _) _ _ _); ((with_reducible show wpAny _ _ (subscriptTail _ _ (Value.ref _) (Value.int _ _)) _ _ _); k_dflt (refine' item_l ?hzk1 ?hzk2 ?hzk3 ?hzk4 ?_ ?hzk6; (case hzk1 => is_list); (case hzk4 => with_reducible assumption); (case hzk2 => omega); (case hzk3 => omega); (case hzk6 => with_unfolding_all rfl); k_whole)))) | (with_reducible ((with_reducible show wpAny _ _ (call (Value.type "range") _) _ _ _); (k_dflt (refine' range2_rows ?hzk1 ?hzk2 ?_; (case hzk1 => k_asm); (case hzk2 => k_asm); k_whole; intro _ _ _ _ _ _ _ _ _; (try dsimp only); (try k_fold))))) | (with_reducible ((with_reducible show wpAny _ _ (inplaceOp Operator.Add (Value.str _ _) (Value.str (Str.mk #[_]) _)) _ _ _); refine iadd1 (by with_reducible assumption) ?_; intro _ _)) | (with_reducible ((with_reducible show wpAny _ _ (PySem.truthy (Value.str _ _)) _ _ _); refine truthy_yes (by with_reducible assumption) (by with_reducible assumption) ?_)) | (with_reducible ((with_reducible show wpAny _ _ (execs _ _) _ _ _); (first | k_gentoks | ((with_reducible refine execs_one ?_); try dsimp only)))) | (with_reducible (with_reducible refine wpAny_If ?_)) | (with_reducible (first | (refine ite_isFalse (by with_reducible assumption) ?_) | (refine ite_pos (by with_reducible assumption) ?_) | (refine ite_neg (by with_reducible assumption) ?_))) | walk1 | dsimp only | (dsimp only; walk1) | (leave1; (try dsimp only)) | fail "no step")
        rename Fr g1 L1 _ _ => F15
        rename News g1 L1 _ _ => N15
        have hlC := IntsAre.length hCV
        have hcl := coefs_length (fs := fs) (c0 := [b, a + (i : Int) * b]) (j := j) (by omega)
        simp only [List.length_cons, List.length_nil] at hcl
        have hcb := coefs_fits (j := j) fl2 hc0 (by omega) (by omega)
        have slb : (100 : Nat) ≤ sizeLine := by decide
        refine add_lists (vs := CV) F15 N15 (ws := [.int 0 tk3]) (news_isList N15 (.tail _ (.tail _ (.tail _ (.head _))))) (news_isList N15 (.head _)) ?_ (by simp only [List.length_cons, List.length_nil]; omega)
        intro h16 F16 N16
        clear F15 N15
        (try dsimp only)
        (try k_fold)
        repeat' ((fail_if_success (with_reducible show QQ2 _ _)); (fail_if_success (with_reducible show wpAny _ _ (binaryOp Operator.Add (Value.ref _) (Value.ref _)) _ _ _)); first | (k_unfold; (try dsimp only)) | (k_end; wrow_close) | (with_reducible ((with_reducible show wpAny _ _ (subscriptTail (PySem.Expr.Name _ _) (PySem.Expr.Slice _ _ _ _) _ _) _ _ _); ((with_reducible show wpAny _ _ (subscriptTail _ (PySem.Expr.Slice _ _ none _) (Value.ref _) (Value.ref _)) _ _ _); k_dflt (refine' kmk_slice_ints ?hzF ?hzN ?hzl ?hzp ?hzq ?hzi ?hzm ?hzc ?_ ?hzs ?hzt ?hzz; (case hzF => k_asm); (case hzN => k_asm); (case hzl => is_list); (case hzp => first | exact IsPart.none | exact IsPart.int _ _); (case hzq => first | exact IsPart.none | exact IsPart.int _ _); (case hzi => with_reducible assumption); (case hzm => first | exact kmk_upto (by with_reducible assumption) (by omega) | exact kmk_from (by with_reducible assumption) (by omega)); (case hzc => exact rfl); (case hzs => with_unfolding_all rfl); (case hzt => (intro _; rfl)); (case hzz => with_reducible assumption)); intro _ _ _ _ _ _ _ _ _; (try dsimp only); (try k_fold)))) | (with_reducible ((with_reducible show wpAny _ _ (binaryOp Operator.Mult (Value.int _ _) (Value.int _ _)) _ _ _); (k_dflt (refine' mul_small ?hzk1 ?hzk2 ?_; (case hzk1 => omega); (case hzk2 => omega); k_whole; intro _ _; (try dsimp only); (try k_fold))))) | (with_reducible ((with_reducible show wpAny _ _ (subscriptTail (PySem.Expr.Name _ _) (PySem.Expr.Constant _ _ _) _ _) _ _ _); ((with_reducible show wpAny _ _ (subscriptTail _ _ (Value.ref _) (Value.int _ _)) _ _ _); k_dflt (refine' item_l ?hzk1 ?hzk2 ?hzk3 ?hzk4 ?_ ?hzk6; (case hzk1 => is_list); (case hzk4 => with_reducible assumption); (case hzk2 => omega); (case hzk3 => omega); (case hzk6 => with_unfolding_all rfl); k_whole)))) | (with_reducible ((with_reducible show wpAny _ _ (subscriptTail (PySem.Expr.Name _ _) (PySem.Expr.BinOp _ _ _ _) _ _) _ _ _); ((with_reducible show wpAny _ _ (subscriptTail _ _ (Value.ref _) (Value.int _ _)) _ _ _); k_dflt (refine' item_l ?hzk1 ?hzk2 ?hzk3 ?hzk4 ?_ ?hzk6; (case hzk1 => is_list); (case hzk4 => with_reducible assumption); (case hzk2 => omega); (case hzk3 => omega); (case hzk6 => with_unfolding_all rfl); k_whole)))) | (with_reducible ((with_reducible show wpAny _ _ (subscriptTail (PySem.Expr.Name _ _) (PySem.Expr.Name _ _) _ _) _ _ _); ((with_reducible show wpAny _ _ (subscriptTail _ _ (Value.ref _) (Value.int _ _)) _ _ _); k_dflt (refine' item_l ?hzk1 ?hzk2 ?hzk3 ?hzk4 ?_ ?hzk6; (case hzk1 => is_list); (case hzk4 => with_reducible assumption); (case hzk2 => omega); (case hzk3 => omega); (case hzk6 => with_unfolding_all rfl); k_whole)))) | (with_reducible ((with_reducible show wpAny _ _ (call (Value.type "range") _) _ _ _); (k_dflt (refine' range2_rows ?hzk1 ?hzk2 ?_; (case hzk1 => k_asm); (case hzk2 => k_asm); k_whole; intro _ _ _ _ _ _ _ _ _; (try dsimp only); (try k_fold))))) | (with_reducible ((with_reducible show wpAny _ _ (inplaceOp Operator.Add (Value.str _ _) (Value.str (Str.mk #[_]) _)) _ _ _); refine iadd1 (by with_reducible assumption) ?_; intro _ _)) | (with_reducible ((with_reducible show wpAny _ _ (PySem.truthy (Value.str _ _)) _ _ _); refine truthy_yes (by with_reducible assumption) (by with_reducible assumption) ?_)) | (with_reducible ((with_reducible show wpAny _ _ (execs _ _) _ _ _); (first | k_gentoks | ((with_reducible refine execs_one ?_); try dsimp only)))) | (with_reducible (with_reducible refine wpAny_If ?_)) | (with_reducible (first | (refine ite_isFalse (by with_reducible assumption) ?_) | (refine ite_pos (by with_reducible assumption) ?_) | (refine ite_neg (by with_reducible assumption) ?_))) | walk1 | dsimp only | (dsimp only; walk1) | (leave1; (try dsimp only)) | fail "no step")
        rename Fr g1 L1 _ _ => F17
        rename News g1 L1 _ _ => N17
        refine add_lists (vs := [.int 0 _]) F17 N17 (ws := CV) (news_isList N17 (.head _)) (news_isList N17 (.tail _ (.tail _ (.tail _ (.tail _ (.tail _ (.head _))))))) ?_ (by simp only [List.length_cons, List.length_nil]; omega)
        intro h18 F18 N18
        clear F17 N17
        (try dsimp only)
        (try k_fold)
        repeat' ((fail_if_success (with_reducible show QQ2 _ _)); (fail_if_success (with_reducible show wpAny _ _ (call (Value.type "zip") _) _ _ _)); first | (k_unfold; (try dsimp only)) | (k_end; wrow_close) | (with_reducible ((with_reducible show wpAny _ _ (subscriptTail (PySem.Expr.Name _ _) (PySem.Expr.Slice _ _ _ _) _ _) _ _ _); ((with_reducible show wpAny _ _ (subscriptTail _ (PySem.Expr.Slice _ _ none _) (Value.ref _) (Value.ref _)) _ _ _); k_dflt (refine' kmk_slice_ints ?hzF ?hzN ?hzl ?hzp ?hzq ?hzi ?hzm ?hzc ?_ ?hzs ?hzt ?hzz; (case hzF => k_asm); (case hzN => k_asm); (case hzl => is_list); (case hzp => first | exact IsPart.none | exact IsPart.int _ _); (case hzq => first | exact IsPart.none | exact IsPart.int _ _); (case hzi => with_reducible assumption); (case hzm => first | exact kmk_upto (by with_reducible assumption) (by omega) | exact kmk_from (by with_reducible assumption) (by omega)); (case hzc => exact rfl); (case hzs => with_unfolding_all rfl); (case hzt => (intro _; rfl)); (case hzz => with_reducible assumption)); intro _ _ _ _ _ _ _ _ _; (try dsimp only); (try k_fold)))) | (with_reducible ((with_reducible show wpAny _ _ (binaryOp Operator.Mult (Value.int _ _) (Value.int _ _)) _ _ _); (k_dflt (refine' mul_small ?hzk1 ?hzk2 ?_; (case hzk1 => omega); (case hzk2 => omega); k_whole; intro _ _; (try dsimp only); (try k_fold))))) | (with_reducible ((with_reducible show wpAny _ _ (subscriptTail (PySem.Expr.Name _ _) (PySem.Expr.Constant _ _ _) _ _) _ _ _); ((with_reducible show wpAny _ _ (subscriptTail _ _ (Value.ref _) (Value.int _ _)) _ _ _); k_dflt (refine' item_l ?hzk1 ?hzk2 ?hzk3 ?hzk4 ?_ ?hzk6; (case hzk1 => is_list); (case hzk4 => with_reducible assumption); (case hzk2 => omega); (case hzk3 => omega); (case hzk6 => with_unfolding_all rfl); k_whole)))) | (with_reducible ((with_reducible show wpAny _ _ (subscriptTail (PySem.Expr.Name _ _) (PySem.Expr.BinOp _ _ _ _) _ _) _ _ _); ((with_reducible show wpAny _ _ (subscriptTail _ _ (Value.ref _) (Value.int _ _)) _ _ _); k_dflt (refine' item_l ?hzk1 ?hzk2 ?hzk3 ?hzk4 ?_ ?hzk6; (case hzk1 => is_list); (case hzk4 => with_reducible assumption); (case hzk2 => omega); (case hzk3 => omega); (case hzk6 => with_unfolding_all rfl); k_whole)))) | (with_reducible ((with_reducible show wpAny _ _ (subscriptTail (PySem.Expr.Name _ _) (PySem.Expr.Name _ _) _ _) _ _ _); ((with_reducible show wpAny _ _ (subscriptTail _ _ (Value.ref _) (Value.int _ _)) _ _ _); k_dflt (refine' item_l ?hzk1 ?hzk2 ?hzk3 ?hzk4 ?_ ?hzk6; (case hzk1 => is_list); (case hzk4 => with_reducible assumption); (case hzk2 => omega); (case hzk3 => omega); (case hzk6 => with_unfolding_all rfl); k_whole)))) | (with_reducible ((with_reducible show wpAny _ _ (call (Value.type "range") _) _ _ _); (k_dflt (refine' range2_rows ?hzk1 ?hzk2 ?_; (case hzk1 => k_asm); (case hzk2 => k_asm); k_whole; intro _ _ _ _ _ _ _ _ _; (try dsimp only); (try k_fold))))) | (with_reducible ((with_reducible show wpAny _ _ (inplaceOp Operator.Add (Value.str _ _) (Value.str (Str.mk #[_]) _)) _ _ _); refine iadd1 (by with_reducible assumption) ?_; intro _ _)) | (with_reducible ((with_reducible show wpAny _ _ (PySem.truthy (Value.str _ _)) _ _ _); refine truthy_yes (by with_reducible assumption) (by with_reducible assumption) ?_)) | (with_reducible ((with_reducible show wpAny _ _ (execs _ _) _ _ _); (first | k_gentoks | ((with_reducible refine execs_one ?_); try dsimp only)))) | (with_reducible (with_reducible refine wpAny_If ?_)) | (with_reducible (first | (refine ite_isFalse (by with_reducible assumption) ?_) | (refine ite_pos (by with_reducible assumption) ?_) | (refine ite_neg (by with_reducible assumption) ?_))) | walk1 | dsimp only | (dsimp only; walk1) | (leave1; (try dsimp only)) | fail "no step")
        rename Fr g1 L1 _ _ => F19
        rename News g1 L1 _ _ => N19
        (try k_unfold)
        (try dsimp only)
        refine zip_led F19 N19 (news_isList N19 (.tail _ (.tail _ (.head _)))) (news_isList N19 (.head _)) ?_
        intro z TI TO i1 i2 o1 oo2 h20 F20 N20 ho1 hoo2 ZA hne5
        (try dsimp only)
        (try k_fold)
        repeat' ((fail_if_success (with_reducible show QQ2 _ _)); (fail_if_success (with_reducible show wpAny _ _ (exec (Stmt.Assign [Expr.Name (Str.ofString "coefficients") _] (Expr.ListComp _ _ _ _) _) _) _ _ _)); first | (k_unfold; (try dsimp only)) | (k_end; wrow_close) | (with_reducible ((with_reducible show wpAny _ _ (subscriptTail (PySem.Expr.Name _ _) (PySem.Expr.Slice _ _ _ _) _ _) _ _ _); ((with_reducible show wpAny _ _ (subscriptTail _ (PySem.Expr.Slice _ _ none _) (Value.ref _) (Value.ref _)) _ _ _); k_dflt (refine' kmk_slice_ints ?hzF ?hzN ?hzl ?hzp ?hzq ?hzi ?hzm ?hzc ?_ ?hzs ?hzt ?hzz; (case hzF => k_asm); (case hzN => k_asm); (case hzl => is_list); (case hzp => first | exact IsPart.none | exact IsPart.int _ _); (case hzq => first | exact IsPart.none | exact IsPart.int _ _); (case hzi => with_reducible assumption); (case hzm => first | exact kmk_upto (by with_reducible assumption) (by omega) | exact kmk_from (by with_reducible assumption) (by omega)); (case hzc => exact rfl); (case hzs => with_unfolding_all rfl); (case hzt => (intro _; rfl)); (case hzz => with_reducible assumption)); intro _ _ _ _ _ _ _ _ _; (try dsimp only); (try k_fold)))) | (with_reducible ((with_reducible show wpAny _ _ (binaryOp Operator.Mult (Value.int _ _) (Value.int _ _)) _ _ _); (k_dflt (refine' mul_small ?hzk1 ?hzk2 ?_; (case hzk1 => omega); (case hzk2 => omega); k_whole; intro _ _; (try dsimp only); (try k_fold))))) | (with_reducible ((with_reducible show wpAny _ _ (subscriptTail (PySem.Expr.Name _ _) (PySem.Expr.Constant _ _ _) _ _) _ _ _); ((with_reducible show wpAny _ _ (subscriptTail _ _ (Value.ref _) (Value.int _ _)) _ _ _); k_dflt (refine' item_l ?hzk1 ?hzk2 ?hzk3 ?hzk4 ?_ ?hzk6; (case hzk1 => is_list); (case hzk4 => with_reducible assumption); (case hzk2 => omega); (case hzk3 => omega); (case hzk6 => with_unfolding_all rfl); k_whole)))) | (with_reducible ((with_reducible show wpAny _ _ (subscriptTail (PySem.Expr.Name _ _) (PySem.Expr.BinOp _ _ _ _) _ _) _ _ _); ((with_reducible show wpAny _ _ (subscriptTail _ _ (Value.ref _) (Value.int _ _)) _ _ _); k_dflt (refine' item_l ?hzk1 ?hzk2 ?hzk3 ?hzk4 ?_ ?hzk6; (case hzk1 => is_list); (case hzk4 => with_reducible assumption); (case hzk2 => omega); (case hzk3 => omega); (case hzk6 => with_unfolding_all rfl); k_whole)))) | (with_reducible ((with_reducible show wpAny _ _ (subscriptTail (PySem.Expr.Name _ _) (PySem.Expr.Name _ _) _ _) _ _ _); ((with_reducible show wpAny _ _ (subscriptTail _ _ (Value.ref _) (Value.int _ _)) _ _ _); k_dflt (refine' item_l ?hzk1 ?hzk2 ?hzk3 ?hzk4 ?_ ?hzk6; (case hzk1 => is_list); (case hzk4 => with_reducible assumption); (case hzk2 => omega); (case hzk3 => omega); (case hzk6 => with_unfolding_all rfl); k_whole)))) | (with_reducible ((with_reducible show wpAny _ _ (call (Value.type "range") _) _ _ _); (k_dflt (refine' range2_rows ?hzk1 ?hzk2 ?_; (case hzk1 => k_asm); (case hzk2 => k_asm); k_whole; intro _ _ _ _ _ _ _ _ _; (try dsimp only); (try k_fold))))) | (with_reducible ((with_reducible show wpAny _ _ (inplaceOp Operator.Add (Value.str _ _) (Value.str (Str.mk #[_]) _)) _ _ _); refine iadd1 (by with_reducible assumption) ?_; intro _ _)) | (with_reducible ((with_reducible show wpAny _ _ (PySem.truthy (Value.str _ _)) _ _ _); refine truthy_yes (by with_reducible assumption) (by with_reducible assumption) ?_)) | (with_reducible ((with_reducible show wpAny _ _ (execs _ _) _ _ _); (first | k_gentoks | ((with_reducible refine execs_one ?_); try dsimp only)))) | (with_reducible (with_reducible refine wpAny_If ?_)) | (with_reducible (first | (refine ite_isFalse (by with_reducible assumption) ?_) | (refine ite_pos (by with_reducible assumption) ?_) | (refine ite_neg (by with_reducible assumption) ?_))) | walk1 | dsimp only | (dsimp only; walk1) | (leave1; (try dsimp only)) | fail "no step")
        rename Fr g1 L1 _ _ => F21
        rename News g1 L1 _ _ => N21
        refine' zip_comp (w := w) rfl F21 N21 ho1 hoo2 ZA hne5 (c1 := 0) (c2 := 0) (f := fs.getD j 0) ?q1 ?q2 (ints_app hCV (.cons 0 tk3 .nil)) (.cons 0 (tk3 + 1) hCV) ?q3 ?q4 ?q5 hoc3 ?q6 ?q7 rfl rfl rfl rfl rfl ?q8 rfl (by decide) rfl (by decide) rfl rfl ?q9 ?_
        case q1 => exact (.tail _ (.tail _ (.head _)))
        case q2 => exact (.head _)
        case q3 => rw [List.length_append, List.length_cons, List.length_cons, List.length_nil]
        case q4 => rw [List.length_append, List.length_cons, List.length_nil]; omega
        case q5 => exact (.tail _ (.tail _ (.tail _ (.tail _ (.head _)))))
        case q6 => omega
        case q7 =>
          intro n hn
          rcases List.mem_cons.mp hn with rfl | hn
          · decide
          · exact hcb n hn
        case q8 => with_unfolding_all rfl
        case q9 => exact fun _ => rfl
        intro D ws c h22 tk22 hws F22 N22 hD
        clear F21 N21
        (try dsimp only)
        (try k_fold)
        repeat' ((fail_if_success (with_reducible show QQ2 _ _)); first | (k_unfold; (try dsimp only)) | (k_end; wrow_close) | (with_reducible ((with_reducible show wpAny _ _ (subscriptTail (PySem.Expr.Name _ _) (PySem.Expr.Slice _ _ _ _) _ _) _ _ _); ((with_reducible show wpAny _ _ (subscriptTail _ (PySem.Expr.Slice _ _ none _) (Value.ref _) (Value.ref _)) _ _ _); k_dflt (refine' kmk_slice_ints ?hzF ?hzN ?hzl ?hzp ?hzq ?hzi ?hzm ?hzc ?_ ?hzs ?hzt ?hzz; (case hzF => k_asm); (case hzN => k_asm); (case hzl => is_list); (case hzp => first | exact IsPart.none | exact IsPart.int _ _); (case hzq => first | exact IsPart.none | exact IsPart.int _ _); (case hzi => with_reducible assumption); (case hzm => first | exact kmk_upto (by with_reducible assumption) (by omega) | exact kmk_from (by with_reducible assumption) (by omega)); (case hzc => exact rfl); (case hzs => with_unfolding_all rfl); (case hzt => (intro _; rfl)); (case hzz => with_reducible assumption)); intro _ _ _ _ _ _ _ _ _; (try dsimp only); (try k_fold)))) | (with_reducible ((with_reducible show wpAny _ _ (binaryOp Operator.Mult (Value.int _ _) (Value.int _ _)) _ _ _); (k_dflt (refine' mul_small ?hzk1 ?hzk2 ?_; (case hzk1 => omega); (case hzk2 => omega); k_whole; intro _ _; (try dsimp only); (try k_fold))))) | (with_reducible ((with_reducible show wpAny _ _ (subscriptTail (PySem.Expr.Name _ _) (PySem.Expr.Constant _ _ _) _ _) _ _ _); ((with_reducible show wpAny _ _ (subscriptTail _ _ (Value.ref _) (Value.int _ _)) _ _ _); k_dflt (refine' item_l ?hzk1 ?hzk2 ?hzk3 ?hzk4 ?_ ?hzk6; (case hzk1 => is_list); (case hzk4 => with_reducible assumption); (case hzk2 => omega); (case hzk3 => omega); (case hzk6 => with_unfolding_all rfl); k_whole)))) | (with_reducible ((with_reducible show wpAny _ _ (subscriptTail (PySem.Expr.Name _ _) (PySem.Expr.BinOp _ _ _ _) _ _) _ _ _); ((with_reducible show wpAny _ _ (subscriptTail _ _ (Value.ref _) (Value.int _ _)) _ _ _); k_dflt (refine' item_l ?hzk1 ?hzk2 ?hzk3 ?hzk4 ?_ ?hzk6; (case hzk1 => is_list); (case hzk4 => with_reducible assumption); (case hzk2 => omega); (case hzk3 => omega); (case hzk6 => with_unfolding_all rfl); k_whole)))) | (with_reducible ((with_reducible show wpAny _ _ (subscriptTail (PySem.Expr.Name _ _) (PySem.Expr.Name _ _) _ _) _ _ _); ((with_reducible show wpAny _ _ (subscriptTail _ _ (Value.ref _) (Value.int _ _)) _ _ _); k_dflt (refine' item_l ?hzk1 ?hzk2 ?hzk3 ?hzk4 ?_ ?hzk6; (case hzk1 => is_list); (case hzk4 => with_reducible assumption); (case hzk2 => omega); (case hzk3 => omega); (case hzk6 => with_unfolding_all rfl); k_whole)))) | (with_reducible ((with_reducible show wpAny _ _ (call (Value.type "range") _) _ _ _); (k_dflt (refine' range2_rows ?hzk1 ?hzk2 ?_; (case hzk1 => k_asm); (case hzk2 => k_asm); k_whole; intro _ _ _ _ _ _ _ _ _; (try dsimp only); (try k_fold))))) | (with_reducible ((with_reducible show wpAny _ _ (inplaceOp Operator.Add (Value.str _ _) (Value.str (Str.mk #[_]) _)) _ _ _); refine iadd1 (by with_reducible assumption) ?_; intro _ _)) | (with_reducible ((with_reducible show wpAny _ _ (PySem.truthy (Value.str _ _)) _ _ _); refine truthy_yes (by with_reducible assumption) (by with_reducible assumption) ?_)) | (with_reducible ((with_reducible show wpAny _ _ (execs _ _) _ _ _); (first | k_gentoks | ((with_reducible refine execs_one ?_); try dsimp only)))) | (with_reducible (with_reducible refine wpAny_If ?_)) | (with_reducible (first | (refine ite_isFalse (by with_reducible assumption) ?_) | (refine ite_pos (by with_reducible assumption) ?_) | (refine ite_neg (by with_reducible assumption) ?_))) | walk1 | dsimp only | (dsimp only; walk1) | (leave1; (try dsimp only)) | fail "no step")
        rename Fr g1 L1 _ _ => F23
        rename News g1 L1 _ _ => N23
        have hD1 : it2 ≠ D := hD (it2, o13) (.tail _ (.tail _ (.tail _ (.tail _ (.tail _ (.head _))))))
        have hD2 : L1 + 1 ≠ D := hD (L1 + 1, oc3) (.tail _ (.tail _ (.tail _ (.tail _ (.head _)))))
        have hD3 : FA ≠ D := hD (FA, listOf (List.toArray FV) cF) (.tail _ (.tail _ (.tail _ (.tail _ (.tail _ (.tail _ (.tail _ (.head _))))))))
        have hws' : IntsAre ws (coefs fs [b, a + (i : Int) * b] (j + 1)) := by rw [coefs_succ hj]; exact hws
        refine hnx2 _ (less' nB (by omega) ⟨j + 1, _, _, o13, oc3, _, D, ws, c, _, by omega, hD1.symm, rfl, Fr.re F23 (loc_at [("coefficients", .ref D), ("factors", .ref FA)] (.cons rfl (.cons rfl .nil))), ho13, hoc3, hws', hD2.symm, hD3.symm, ?_⟩)
        intro p hp
        exact N23 p (sp_c hp)
  case turn =>
    rintro n s' ⟨i, h2, tk2, FV, cF, junk, hni, rfl, Fa, hFV, Na⟩ QP1 hno1 hso1
    have hne : ∀ p ∈ ((FA, listOf (List.toArray FV) cF) :: (L1 + 1, oc) :: (SA, listOf SV.toArray cS) :: news : List (Addr × Obj)), p.1 ≠ it := ne_c iFA (ne_c iC (ne_c iS iW))
    cases n with
    | zero =>
      refine rng_end rfl Fa Na hne (by omega) ?_
      intro h9 F9 N9
      exact hno1 _ ⟨i, h9, tk2, FV, cF, junk, by omega, rfl, F9, hFV, N9⟩
    | succ n =>
      obtain ⟨tA, hA⟩ := IntsAre.at hS (i := i + 1) (by omega)
      obtain ⟨tB, hB⟩ := IntsAre.at hS (i := i) (by omega)
      have hA' : SV[((i : Int) + 1).toNat]? = some (.int (sz.getD (i + 1) 0) tA) := by rw [show ((i : Int) + 1).toNat = i + 1 by omega]; exact hA
      have hB' : SV[((i : Int) + 1 - 1).toNat]? = some (.int (sz.getD i 0) tB) := by rw [show ((i : Int) + 1 - 1).toNat = i by omega]; exact hB
      have hsA := hsz _ (getD_in (l := sz) (i := i + 1) (by omega))
      have hsB := hsz _ (getD_in (l := sz) (i := i) (by omega))
      refine rng_next Fa Na hne (by omega) ?_
      intro h9 F9 N9
      clear F6 N6 Fa Na
      refine hso1 _ _ (fun QQ1 hnx1 _ _ => ?_)
      clear hso1 hno1 QP1
      (try dsimp only)
      repeat' ((fail_if_success (with_reducible show QQ1 _ _)); (fail_if_success (with_reducible show wpAny _ _ (binaryOp Operator.Mult (Value.ref _) (Value.int _ _)) _ _ _)); first | (k_unfold; (try dsimp only)) | (k_end; wrow_close) | (with_reducible ((with_reducible show wpAny _ _ (subscriptTail (PySem.Expr.Name _ _) (PySem.Expr.Slice _ _ _ _) _ _) _ _ _); ((with_reducible show wpAny _ _ (subscriptTail _ (PySem.Expr.Slice _ _ none _) (Value.ref _) (Value.ref _)) _ _ _); k_dflt (refine' kmk_slice_ints ?hzF ?hzN ?hzl ?hzp ?hzq ?hzi ?hzm ?hzc ?_ ?hzs ?hzt ?hzz; (case hzF => k_asm); (case hzN => k_asm); (case hzl => is_list); (case hzp => first | exact IsPart.none | exact IsPart.int _ _); (case hzq => first | exact IsPart.none | exact IsPart.int _ _); (case hzi => with_reducible assumption); (case hzm => first | exact kmk_upto (by with_reducible assumption) (by omega) | exact kmk_from (by with_reducible assumption) (by omega)); (case hzc => exact rfl); (case hzs => with_unfolding_all rfl); (case hzt => (intro _; rfl)); (case hzz => with_reducible assumption)); intro _ _ _ _ _ _ _ _ _; (try dsimp only); (try k_fold)))) | (with_reducible ((with_reducible show wpAny _ _ (binaryOp Operator.Mult (Value.int _ _) (Value.int _ _)) _ _ _); (k_dflt (refine' mul_small ?hzk1 ?hzk2 ?_; (case hzk1 => omega); (case hzk2 => omega); k_whole; intro _ _; (try dsimp only); (try k_fold))))) | (with_reducible ((with_reducible show wpAny _ _ (subscriptTail (PySem.Expr.Name _ _) (PySem.Expr.Constant _ _ _) _ _) _ _ _); ((with_reducible show wpAny _ _ (subscriptTail _ _ (Value.ref _) (Value.int _ _)) _ _ _); k_dflt (refine' item_l ?hzk1 ?hzk2 ?hzk3 ?hzk4 ?_ ?hzk6; (case hzk1 => is_list); (case hzk4 => with_reducible assumption); (case hzk2 => omega); (case hzk3 => omega); (case hzk6 => with_unfolding_all rfl); k_whole)))) | (with_reducible ((with_reducible show wpAny _ _ (subscriptTail (PySem.Expr.Name _ _) (PySem.Expr.BinOp _ _ _ _) _ _) _ _ _); ((with_reducible show wpAny _ _ (subscriptTail _ _ (Value.ref _) (Value.int _ _)) _ _ _); k_dflt (refine' item_l ?hzk1 ?hzk2 ?hzk3 ?hzk4 ?_ ?hzk6; (case hzk1 => is_list); (case hzk4 => with_reducible assumption); (case hzk2 => omega); (case hzk3 => omega); (case hzk6 => with_unfolding_all rfl); k_whole)))) | (with_reducible ((with_reducible show wpAny _ _ (subscriptTail (PySem.Expr.Name _ _) (PySem.Expr.Name _ _) _ _) _ _ _); ((with_reducible show wpAny _ _ (subscriptTail _ _ (Value.ref _) (Value.int _ _)) _ _ _); k_dflt (refine' item_l ?hzk1 ?hzk2 ?hzk3 ?hzk4 ?_ ?hzk6; (case hzk1 => is_list); (case hzk4 => with_reducible assumption); (case hzk2 => omega); (case hzk3 => omega); (case hzk6 => with_unfolding_all rfl); k_whole)))) | (with_reducible ((with_reducible show wpAny _ _ (call (Value.type "range") _) _ _ _); (k_dflt (refine' range2_rows ?hzk1 ?hzk2 ?_; (case hzk1 => k_asm); (case hzk2 => k_asm); k_whole; intro _ _ _ _ _ _ _ _ _; (try dsimp only); (try k_fold))))) | (with_reducible ((with_reducible show wpAny _ _ (inplaceOp Operator.Add (Value.str _ _) (Value.str (Str.mk #[_]) _)) _ _ _); refine iadd1 (by with_reducible assumption) ?_; intro _ _)) | (with_reducible ((with_reducible show wpAny _ _ (PySem.truthy (Value.str _ _)) _ _ _); refine truthy_yes (by with_reducible assumption) (by with_reducible assumption) ?_)) | (with_reducible ((with_reducible show wpAny _ _ (execs _ _) _ _ _); (first | k_gentoks | ((with_reducible refine execs_one ?_); try dsimp only)))) | (with_reducible (with_reducible refine wpAny_If ?_)) | (with_reducible (first | (refine ite_isFalse (by with_reducible assumption) ?_) | (refine ite_pos (by with_reducible assumption) ?_) | (refine ite_neg (by with_reducible assumption) ?_))) | walk1 | dsimp only | (dsimp only; walk1) | (leave1; (try dsimp only)) | fail "no step")
      rename Fr g1 L1 _ _ => F10
      rename News g1 L1 _ _ => N10
      refine mul_led F10 N10 (N10 _ (.head _)).1 (by omega) (by omega) ?_
      intro MA h11 F11 N11 lMA
      clear F10 N10
      (try dsimp only)
      (try k_fold)
      repeat' ((fail_if_success (with_reducible show QQ1 _ _)); (fail_if_success (with_reducible show wpAny _ _ (inplaceOp Operator.Add (Value.ref _) (Value.ref _)) _ _ _)); first | (k_unfold; (try dsimp only)) | (k_end; wrow_close) | (with_reducible ((with_reducible show wpAny _ _ (subscriptTail (PySem.Expr.Name _ _) (PySem.Expr.Slice _ _ _ _) _ _) _ _ _); ((with_reducible show wpAny _ _ (subscriptTail _ (PySem.Expr.Slice _ _ none _) (Value.ref _) (Value.ref _)) _ _ _); k_dflt (refine' kmk_slice_ints ?hzF ?hzN ?hzl ?hzp ?hzq ?hzi ?hzm ?hzc ?_ ?hzs ?hzt ?hzz; (case hzF => k_asm); (case hzN => k_asm); (case hzl => is_list); (case hzp => first | exact IsPart.none | exact IsPart.int _ _); (case hzq => first | exact IsPart.none | exact IsPart.int _ _); (case hzi => with_reducible assumption); (case hzm => first | exact kmk_upto (by with_reducible assumption) (by omega) | exact kmk_from (by with_reducible assumption) (by omega)); (case hzc => exact rfl); (case hzs => with_unfolding_all rfl); (case hzt => (intro _; rfl)); (case hzz => with_reducible assumption)); intro _ _ _ _ _ _ _ _ _; (try dsimp only); (try k_fold)))) | (with_reducible ((with_reducible show wpAny _ _ (binaryOp Operator.Mult (Value.int _ _) (Value.int _ _)) _ _ _); (k_dflt (refine' mul_small ?hzk1 ?hzk2 ?_; (case hzk1 => omega); (case hzk2 => omega); k_whole; intro _ _; (try dsimp only); (try k_fold))))) | (with_reducible ((with_reducible show wpAny _ _ (subscriptTail (PySem.Expr.Name _ _) (PySem.Expr.Constant _ _ _) _ _) _ _ _); ((with_reducible show wpAny _ _ (subscriptTail _ _ (Value.ref _) (Value.int _ _)) _ _ _); k_dflt (refine' item_l ?hzk1 ?hzk2 ?hzk3 ?hzk4 ?_ ?hzk6; (case hzk1 => is_list); (case hzk4 => with_reducible assumption); (case hzk2 => omega); (case hzk3 => omega); (case hzk6 => with_unfolding_all rfl); k_whole)))) | (with_reducible ((with_reducible show wpAny _ _ (subscriptTail (PySem.Expr.Name _ _) (PySem.Expr.BinOp _ _ _ _) _ _) _ _ _); ((with_reducible show wpAny _ _ (subscriptTail _ _ (Value.ref _) (Value.int _ _)) _ _ _); k_dflt (refine' item_l ?hzk1 ?hzk2 ?hzk3 ?hzk4 ?_ ?hzk6; (case hzk1 => is_list); (case hzk4 => with_reducible assumption); (case hzk2 => omega); (case hzk3 => omega); (case hzk6 => with_unfolding_all rfl); k_whole)))) | (with_reducible ((with_reducible show wpAny _ _ (subscriptTail (PySem.Expr.Name _ _) (PySem.Expr.Name _ _) _ _) _ _ _); ((with_reducible show wpAny _ _ (subscriptTail _ _ (Value.ref _) (Value.int _ _)) _ _ _); k_dflt (refine' item_l ?hzk1 ?hzk2 ?hzk3 ?hzk4 ?_ ?hzk6; (case hzk1 => is_list); (case hzk4 => with_reducible assumption); (case hzk2 => omega); (case hzk3 => omega); (case hzk6 => with_unfolding_all rfl); k_whole)))) | (with_reducible ((with_reducible show wpAny _ _ (call (Value.type "range") _) _ _ _); (k_dflt (refine' range2_rows ?hzk1 ?hzk2 ?_; (case hzk1 => k_asm); (case hzk2 => k_asm); k_whole; intro _ _ _ _ _ _ _ _ _; (try dsimp only); (try k_fold))))) | (with_reducible ((with_reducible show wpAny _ _ (inplaceOp Operator.Add (Value.str _ _) (Value.str (Str.mk #[_]) _)) _ _ _); refine iadd1 (by with_reducible assumption) ?_; intro _ _)) | (with_reducible ((with_reducible show wpAny _ _ (PySem.truthy (Value.str _ _)) _ _ _); refine truthy_yes (by with_reducible assumption) (by with_reducible assumption) ?_)) | (with_reducible ((with_reducible show wpAny _ _ (execs _ _) _ _ _); (first | k_gentoks | ((with_reducible refine execs_one ?_); try dsimp only)))) | (with_reducible (with_reducible refine wpAny_If ?_)) | (with_reducible (first | (refine ite_isFalse (by with_reducible assumption) ?_) | (refine ite_pos (by with_reducible assumption) ?_) | (refine ite_neg (by with_reducible assumption) ?_))) | walk1 | dsimp only | (dsimp only; walk1) | (leave1; (try dsimp only)) | fail "no step")
      rename Fr g1 L1 _ _ => F12
      rename News g1 L1 _ _ => N12
      obtain ⟨fl1, fl2⟩ := facsUp_ok (k := k) hsz (by omega) i (by omega) (by omega)
      have hlF := IntsAre.length hFV
      have mFA : FA ≠ MA := Nat.ne_of_lt (lMA (FA, listOf (List.toArray FV) cF) (by first | exact me2 | exact me1 | exact me3))
      have N13 := news_p4 N12
      refine iadd_led F12 N13 (.head _) ?ne (by omega) (by rw [List.length_replicate]; omega) ?_
      case ne => exact ne_c mFA.symm (ne_c iFA.symm (ne_c fcell (ne_c fS fW)))
      intro cF' h14 F14 N14
      clear F12 N12 N13
      (try dsimp only)
      (try k_fold)
      repeat' ((fail_if_success (with_reducible show QQ1 _ _)); first | (k_unfold; (try dsimp only)) | (k_end; wrow_close) | (with_reducible ((with_reducible show wpAny _ _ (subscriptTail (PySem.Expr.Name _ _) (PySem.Expr.Slice _ _ _ _) _ _) _ _ _); ((with_reducible show wpAny _ _ (subscriptTail _ (PySem.Expr.Slice _ _ none _) (Value.ref _) (Value.ref _)) _ _ _); k_dflt (refine' kmk_slice_ints ?hzF ?hzN ?hzl ?hzp ?hzq ?hzi ?hzm ?hzc ?_ ?hzs ?hzt ?hzz; (case hzF => k_asm); (case hzN => k_asm); (case hzl => is_list); (case hzp => first | exact IsPart.none | exact IsPart.int _ _); (case hzq => first | exact IsPart.none | exact IsPart.int _ _); (case hzi => with_reducible assumption); (case hzm => first | exact kmk_upto (by with_reducible assumption) (by omega) | exact kmk_from (by with_reducible assumption) (by omega)); (case hzc => exact rfl); (case hzs => with_unfolding_all rfl); (case hzt => (intro _; rfl)); (case hzz => with_reducible assumption)); intro _ _ _ _ _ _ _ _ _; (try dsimp only); (try k_fold)))) | (with_reducible ((with_reducible show wpAny _ _ (binaryOp Operator.Mult (Value.int _ _) (Value.int _ _)) _ _ _); (k_dflt (refine' mul_small ?hzk1 ?hzk2 ?_; (case hzk1 => omega); (case hzk2 => omega); k_whole; intro _ _; (try dsimp only); (try k_fold))))) | (with_reducible ((with_reducible show wpAny _ _ (subscriptTail (PySem.Expr.Name _ _) (PySem.Expr.Constant _ _ _) _ _) _ _ _); ((with_reducible show wpAny _ _ (subscriptTail _ _ (Value.ref _) (Value.int _ _)) _ _ _); k_dflt (refine' item_l ?hzk1 ?hzk2 ?hzk3 ?hzk4 ?_ ?hzk6; (case hzk1 => is_list); (case hzk4 => with_reducible assumption); (case hzk2 => omega); (case hzk3 => omega); (case hzk6 => with_unfolding_all rfl); k_whole)))) | (with_reducible ((with_reducible show wpAny _ _ (subscriptTail (PySem.Expr.Name _ _) (PySem.Expr.BinOp _ _ _ _) _ _) _ _ _); ((with_reducible show wpAny _ _ (subscriptTail _ _ (Value.ref _) (Value.int _ _)) _ _ _); k_dflt (refine' item_l ?hzk1 ?hzk2 ?hzk3 ?hzk4 ?_ ?hzk6; (case hzk1 => is_list); (case hzk4 => with_reducible assumption); (case hzk2 => omega); (case hzk3 => omega); (case hzk6 => with_unfolding_all rfl); k_whole)))) | (with_reducible ((with_reducible show wpAny _ _ (subscriptTail (PySem.Expr.Name _ _) (PySem.Expr.Name _ _) _ _) _ _ _); ((with_reducible show wpAny _ _ (subscriptTail _ _ (Value.ref _) (Value.int _ _)) _ _ _); k_dflt (refine' item_l ?hzk1 ?hzk2 ?hzk3 ?hzk4 ?_ ?hzk6; (case hzk1 => is_list); (case hzk4 => with_reducible assumption); (case hzk2 => omega); (case hzk3 => omega); (case hzk6 => with_unfolding_all rfl); k_whole)))) | (with_reducible ((with_reducible show wpAny _ _ (call (Value.type "range") _) _ _ _); (k_dflt (refine' range2_rows ?hzk1 ?hzk2 ?_; (case hzk1 => k_asm); (case hzk2 => k_asm); k_whole; intro _ _ _ _ _ _ _ _ _; (try dsimp only); (try k_fold))))) | (with_reducible ((with_reducible show wpAny _ _ (inplaceOp Operator.Add (Value.str _ _) (Value.str (Str.mk #[_]) _)) _ _ _); refine iadd1 (by with_reducible assumption) ?_; intro _ _)) | (with_reducible ((with_reducible show wpAny _ _ (PySem.truthy (Value.str _ _)) _ _ _); refine truthy_yes (by with_reducible assumption) (by with_reducible assumption) ?_)) | (with_reducible ((with_reducible show wpAny _ _ (execs _ _) _ _ _); (first | k_gentoks | ((with_reducible refine execs_one ?_); try dsimp only)))) | (with_reducible (with_reducible refine wpAny_If ?_)) | (with_reducible (first | (refine ite_isFalse (by with_reducible assumption) ?_) | (refine ite_pos (by with_reducible assumption) ?_) | (refine ite_neg (by with_reducible assumption) ?_))) | walk1 | dsimp only | (dsimp only; walk1) | (leave1; (try dsimp only)) | fail "no step")
      rename Fr g1 L1 _ _ => F15
      rename News g1 L1 _ _ => N15
      have e2 : ((n + 1 : Nat) : Int) - 1 = (n : Int) := by omega
      have e1 : (i : Int) + 1 = ((i + 1 : Nat) : Int) := by omega
      rw [e2, e1] at N15
      refine hnx1 _ (less' n (by omega) ⟨i + 1, _, _, _, cF', _, by omega, rfl, Fr.re F15 (loc_at [("factors", .ref FA), ("b", .int b t3), ("a", .int a t2), ("k", .int (k : Int) t1), ("sizes", .ref SA)] (.cons rfl (.cons rfl (.cons rfl (.cons rfl (.cons rfl .nil)))))), ints_app hFV (ints_rep _ _ _), news_c3 N15⟩)
end
section
section
variable {prog : Program} {w : World} {A : Around} {R : GenEnd} {Y : Protocol} {n : Nat} {s₀ : Shared} {c : Code} {fs : List Frame} {s : Shared} {env : Env}
  {K : Flow → Sem Fin} {H : Value → Sem Fin} {gd : Bool → Bool} {lv : List Value → List Value}
theorem seg_plain {α : Type} {m : Sem α} {K : α → Sem Fin} {H : Value → Sem Fin} (h : wpAny (model prog w) (A.over c fs) m (fun a s' => Seg (model prog w) A R Y n s₀ c (K a) fs s') (fun _ _ => False) s) :
    Seg (model prog w) A R Y n s₀ c (m.wrap K H gd lv) fs s := seg_wrap (wpAny_mono h (fun _ _ x => x) (fun _ _ x => x.elim))
theorem seg_If {test : Expr} {body orelse : List Stmt} {pos : Pos}
    (h : wpAny (model prog w) (A.over c fs) (isTrue test env (eval test env)) (fun b s' => Seg (model prog w) A R Y n s₀ c ((execs (if b = true then body else orelse) env).wrap K H gd lv) fs s') (fun _ _ => False) s) :
    Seg (model prog w) A R Y n s₀ c ((exec (.If test body orelse pos) env).wrap K H gd lv) fs s := by
  rw [exec_If]
  show Seg _ A R Y n s₀ c (.at pos fun _ => (isTrue test env (eval test env) >>= fun b => if b = true then execs body env else execs orelse env).wrap K H gd lv) fs s
  refine seg_at ?_
  rw [Sem.bind_eq_wrap', Sem.wrap_wrap]
  refine seg_plain (wpAny_mono h (fun b s' hb => ?_) fun _ _ x => x)
  cases b with
  | true => exact hb
  | false => exact hb
/-- the frame that a loop leaves behind -/
noncomputable abbrev loopFrame (env : Env) (K : Flow → Sem Fin) (H : Value → Sem Fin) (gd : Bool → Bool) (lv : List Value → List Value) (c : Code) (p : Pos) : Frame :=
  .ret (fun r => ((match r with | .ok f => (.pure f : Sem Flow) | .error e => .raise e).onRaise fun (x : Value) => do
        if (← field x 1) == Value.none then unsupported "frame.own-activation:exception-without-traceback"
        setFlight x env.frame).wrap K H gd lv) none (gd false) (lv []) c p []
theorem seg_For {target iter : Expr} {body orelse : List Stmt} {pos : Pos} (hs : ∀ x, foldedSetIterable iter env x = pure x)
    (h : wpAny (model prog w) (A.over c fs) (eval iter env) (fun x s₁ => wpAny (model prog w) (A.over c fs) (pyIter x) (fun it s₂ =>
      ∀ p, Seg (model prog w) A R Y n s₀ (.forLoop target it body orelse env) ((model prog w).den (.forLoop target it body orelse env)) (loopFrame env K H gd lv c p :: fs) s₂) (fun _ _ => False) s₁) (fun _ _ => False) s) :
    Seg (model prog w) A R Y n s₀ c ((exec (.For target iter body orelse pos) env).wrap K H gd lv) fs s := by
  rw [exec_For]
  show Seg _ A R Y n s₀ c (.at pos fun _ => (eval iter env >>= fun x => foldedSetIterable iter env x >>= fun x => standAt iter.pos >>= fun _ => holding [x] (pyIter x) >>= fun it => runOwn (.forLoop target it body orelse env) env).wrap K H gd lv) fs s
  refine seg_at ?_
  rw [Sem.bind_eq_wrap', Sem.wrap_wrap]
  refine seg_plain (wpAny_mono h (fun x s₁ h₁ => ?_) fun _ _ x => x)
  rw [hs x, Sem.bind_eq_wrap', Sem.wrap_wrap]
  refine seg_plain (wpAny_pure ?_)
  rw [Sem.bind_eq_wrap', Sem.wrap_wrap]
  refine seg_plain (wpAny_standAt ?_)
  rw [Sem.bind_eq_wrap', Sem.wrap_wrap]
  refine seg_plain (wpAny_holding (wpAny_mono h₁ (fun it s₂ h₂ => ?_) fun _ _ x => x))
  exact seg_call h₂
theorem seg_forLoop {target : Expr} {it : Value} {body : List Stmt} (ht : ∀ v, letOwnedTupleGo target it v = pure ())
    (h : wpAny (model prog w) (A.over (.forLoop target it body [] env) fs) (pyNext it) (fun r s₁ => match r with
      | none => Seg (model prog w) A R Y n s₀ (.block [] env) ((model prog w).den (.block [] env)) fs s₁
      | some v => wpAny (model prog w) (A.over (.forLoop target it body [] env) fs) (assign target env v) (fun _ s₂ =>
          Seg (model prog w) A R Y n s₀ (.forLoop target it body [] env) ((execs body env).wrap (fun f => match f with
            | .next | .cont => .pure (.again (.forLoop target it body [] env))
            | .brk => .pure (.done .next)
            | .ret v => .pure (.done (.ret v))) (fun e => (do noteFrame e env; theTreesLotGoes e : Sem Unit).wrap (fun _ => .raise e) .raise id id) id id) fs s₂) (fun _ _ => False) s₁) (fun _ _ => False) s) :
    Seg (model prog w) A R Y n s₀ (.forLoop target it body [] env) ((model prog w).den (.forLoop target it body [] env)) fs s := by
  show Seg _ A R Y n s₀ _ ((forTurn target it body [] env).onRaise (fun x => do noteFrame x env; theTreesLotGoes x)) fs s
  unfold forTurn
  rw [Sem.onRaise_eq_wrap, Sem.bind_eq_wrap', Sem.wrap_wrap]
  refine seg_plain (wpAny_standAt ?_)
  rw [Sem.bind_eq_wrap', Sem.wrap_wrap]
  refine seg_plain (wpAny_onRaise (wpAny_mono h (fun r s₁ h₁ => ?_) fun _ _ x => x.elim))
  cases r with
  | none => exact seg_again rfl h₁
  | some v =>
    dsimp only
    rw [ht v, Sem.bind_eq_wrap', Sem.wrap_wrap]
    refine seg_plain (wpAny_pure ?_)
    rw [Sem.bind_eq_wrap', Sem.wrap_wrap]
    refine seg_plain (wpAny_mono h₁ (fun _ s₂ h₂ => ?_) fun _ _ x => x.elim)
    rw [Sem.bind_eq_wrap', Sem.wrap_wrap]
    rw [Sem.wrap_congr (execs body env) _ _ (K' := fun f => match f with
            | .next | .cont => .pure (.again (.forLoop target it body [] env))
            | .brk => .pure (.done .next)
            | .ret v => .pure (.done (.ret v))) (H' := (fun e => (do noteFrame e env; theTreesLotGoes e : Sem Unit).wrap (fun _ => .raise e) .raise id id))
        (fun f => by cases f <;> rfl)
        (fun e => by first | exact Sem.bind_eq_wrap _ _ | (show (do noteFrame e env; theTreesLotGoes e : Sem Unit).bind (fun _ => .raise e) = _; rw [Sem.bind_eq_wrap]))]
    exact h₂
theorem seg_blockNil (h : Seg (model prog w) A R Y n s₀ (.block [] env) (.pure (.done .next)) fs s) : Seg (model prog w) A R Y n s₀ (.block [] env) ((model prog w).den (.block [] env)) fs s := h
/-- a loop has gone through -/
theorem seg_pop {p : Pos} {c' : Code} {f : Flow} (h : Seg (model prog w) A R Y n s₀ c (K f) fs s) : Seg (model prog w) A R Y n s₀ c' (.pure (.done f)) (loopFrame env K H gd lv c p :: fs) s :=
  seg_leaf (.ok f) h
end
section
variable {prog : Program} {w : World} {A : Around} {E : Value → Shared → Prop} {s : Shared}
theorem pyNext_fun {a : Addr} {g n : Nat} {gs : GenState} {P : Nat → Shared → Shared → Prop} {Y : Protocol} {Q : Option Value → Shared → Prop} (hh : A.handled = none)
    (hl : s.heap.NoLimit) (hroom : A.depth < recursionLimit)
    (hg : s.heap.IsGen a g) (hgs : s.gens[g]? = some gs)
    (hgo : gs.Goes (model prog w) A.in1 (fun n s₀ r s₁ => r = .ok (.ret .none) ∧ P n s₀ s₁) Y n (.send .none) (s.setGen g .running))
    (hY : ∀ v s₁ gs', gs'.bare = true → Y (n - 1) (s.setGen g .running) v s₁ (fun r' s'' => match n with
        | 0 => False
        | m + 1 => gs'.Goes (model prog w) A.in1 (fun n s₀ r s₁ => r = .ok (.ret .none) ∧ P n s₀ s₁) Y m r' s'') → Q (some v) (s₁.setGen g gs'))
    (hP : ∀ s₁, P n (s.setGen g .running) s₁ → ∀ h', (∀ b o, s₁.heap.get? b = some o → h'.get? b = some o) → Q none { s₁.setGen g .finished with heap := h' }) :
    wpAny (model prog w) A (pyNext (.ref a)) Q E s := by
  unfold pyNext
  refine wpAny_bind (wpAny_attempt (wpAny_callSpecial?_slot (name := Str.ofString "__next__") hg.typeIs slot_gen_next
    (wpAny_call_entry slot_gen_next hg.typeIs entry_gen_next ?_ (args_gen_next _))))
  show wpAny _ A.in1 (Builtin.Generator.genWake (.ref a) (.send .none)) _ _ s
  unfold Builtin.Generator.genWake
  refine wpAny_bind (wpAny_holding (wpAny_genNumber hg (wpAny_bind (wpAny_genState hgs ?_))))
  cases gs with
  | running => exact hgo.elim
  | finished => exact hgo.elim
  | _ =>
    refine wpAny_bind (wpAny_roomToWake hl hroom ?_)
    show wpAny _ A.in1 (.resume g (.send .none) [] _) _ _ s
    refine wpAny_resumeQ hgs hgo (fun x s₁ hx => ?_) (fun v s₁ gs' hb hv => ?_)
    · obtain ⟨rfl, hp⟩ := hx
      show wpAny _ A.in1 (newExc (.type "StopIteration") [] >>= _) _ _ _
      refine wpAny_bind ?_
      simp only [newExc, newTuple]
      refine wpAny_bind (wpAny_newObj_type ?_ (by size_fits))
      refine wpAny_bind (m := firstArgMember _ _) (wpAny_of_eq (a := Value.none) (by first | rfl | (simp only [firstArgMember]; rfl)) ?_)
      refine wpAny_newObj_type ?_ (by size_fits)
      simp only [raiseNew]
      refine wpAny_bind (wpAny_bind (wpAny_handled ?_))
      first | rw [show A.in1.handled = none from hh] | rw [hh]
      refine wpAny_throw ?_
      refine wpAny_bind (wpAny_isInstance (T := "StopIteration") (b := true) ⟨_, Heap.get?_push_size _ rfl, rfl⟩ isSubtype_stop ?_)
      exact wpAny_pure (hP s₁ hp _ fun b o hb => Heap.get?_push_of_some _ (Heap.get?_push_of_some _ hb))
    · exact wpAny_pure ⟨v, rfl, wpAny_pure (hY v s₁ gs' hb hv)⟩
end
end
section
/-- only C and IT have moved -/
noncomputable def Since (C IT : Addr) (s₀ s : Shared) : Prop := ∃ h tk, s = { s₀ with heap := h, toks := tk } ∧ ∀ b o, b ≠ C → b ≠ IT → s₀.heap.get? b = some o → h.get? b = some o
theorem Since.refl {C IT : Addr} {s : Shared} : Since C IT s s := ⟨s.heap, s.toks, rfl, fun _ _ _ _ e => e⟩
theorem Since.step {C IT : Addr} {s₀ s : Shared} {h : Heap} {tk : Nat} (S : Since C IT s₀ s) (k : ∀ b o, b ≠ C → b ≠ IT → s.heap.get? b = some o → h.get? b = some o) : Since C IT s₀ { s with heap := h, toks := tk } := by
  obtain ⟨h1, tk1, rfl, k1⟩ := S
  exact ⟨h, tk, rfl, fun b o e1 e2 e3 => k b o e1 e2 (k1 b o e1 e2 e3)⟩
noncomputable def Yg (h₀ : Heap) (C IT GL : Addr) (oL : Obj) (ys : List Int) (fin : Bool) : Protocol := fun k s₀ v s₁ kap =>
  ∃ t oC oI, v = .int (ys.getD (3 - k) 0) t ∧ (k = 0 → fin = false) ∧ Since C IT s₀ s₁ ∧ s₁.heap.get? C = some oC ∧ s₁.heap.get? IT = some oI ∧
    (k ≠ 0 → ∀ s'', s''.heap.get? C = some oC → s''.heap.get? IT = some oI → s''.heap.get? GL = some oL → (∀ b o, h₀.get? b = some o → s''.heap.get? b = some o) → kap (.send .none) s'')
noncomputable def Pg (C IT : Addr) (fin : Bool) : Nat → Shared → Shared → Prop := fun n s₀ s₁ => n = 1 ∧ fin = true ∧ Since C IT s₀ s₁
noncomputable abbrev Rg (C IT : Addr) (fin : Bool) : GenEnd := fun n s₀ r s₁ => r = .ok (.ret .none) ∧ Pg C IT fin n s₀ s₁
theorem cmax39 (P : Params) : ((heap P).lookup 3).map (fun o => match nsOf o "CHAR_MAX" with | some (.int n _) => n == 127 | _ => false) = some true := by kernel_rfl
theorem cmax_at {w : World} {h : Heap} {mg : Str → Option Value} (X : (heap w.params).In h) (G : h.Ns mainGlobals mg) : ∃ t, mg "CHAR_MAX" = some (.int 127 t) := by
  obtain ⟨o3, h3, e3⟩ := Option.map_eq_some_iff.mp (cmax39 w.params)
  have hk := X _ _ h3
  obtain ⟨o, es, ep, ho, hd, _, hf⟩ := G
  have : o = o3 := Option.some.inj (ho.symm.trans hk)
  subst this
  dsimp only [nsOf] at e3
  rw [hd] at e3
  dsimp only at e3
  rw [hf] at e3
  split at e3
  · rename_i n t e
    have : n = 127 := by simpa using e3
    exact ⟨t, by rw [e, this]⟩
  · cases e3

set_option maxHeartbeats 4000000 in
theorem turn_item {w : World} {A : Around} {mean : ExcName → Option Value} {mg mb : Str → Option Value} {h₀ : Heap} {C IT GL : Addr} {ys : List Int} {fin : Bool} {n : Nat} {s₀ s : Shared} {fs : List Frame} {sc : Scope} {fa : Addr} {fcd : Value} {m : Str → Option Value} {oI : Obj} {vs : List Value} {cG j : Nat} {p1 p2 p3 p4 p5 p6 p7 p8 p9 p10 p11 p12 p13 p14 p15 p16 p17 p18 p19 p20 p21 p22 p23 p24 pt : Pos} {rs : List Stmt}
    (hsc : sc.kind = .function) (hk2 : (envOf "_grouping_intervals" sc C fa fcd).kindOf "last_interval" = some .local) (hk3 : (envOf "_grouping_intervals" sc C fa fcd).kindOf "interval" = some .local) (hk4 : (envOf "_grouping_intervals" sc C fa fcd).kindOf "CHAR_MAX" = some .globalImplicit) (hco : sc.isCoroutine = false)
    (X : (heap w.params).In h₀) (T : Top VW LO mean mg mb h₀) (hf1 : splitAtGen fs = none) (hf2 : fs.any Frame.guarded = false) (hf3 : (marksOver fs (A.handled, A.handled)).1 = none)
    (F : Fr h₀ C s.heap m) (N : News h₀ C s.heap [(IT, oI), (GL, listOf vs.toArray cG)]) (hIG : GL ≠ IT) (hI : LitAt oI GL j) (S : Since C IT s₀ s) {x : Int} {t : Tok} (hv : vs[j]? = some (.int x t)) (h1 : 1 ≤ x) (h2 : x ≤ 4) (hy : ys.getD (3 - n) 0 = x) (hfin : n = 0 → fin = false)
    (next : n ≠ 0 → ∀ s₀ s m oI, Fr h₀ C s.heap m → News h₀ C s.heap [(IT, oI), (GL, listOf vs.toArray cG)] → LitAt oI GL (j + 1) → m "last_interval" = some (.int x t) → Since C IT s₀ s → Seg (model PRG w) A (Rg C IT fin) (Yg h₀ C IT GL (listOf vs.toArray cG) ys fin) n s₀ (.forLoop (.Name "interval" pt) (.ref IT) [.If (.Compare (.Name "interval" p1) [.Eq] [.Name "CHAR_MAX" p2] p3) [.Return none p4] [] p5, .If (.Compare (.Name "interval" p6) [.Eq] [.Constant (.int 0) 0 p7] p8) [.If (.Compare (.Name "last_interval" p9) [.Is] [.Constant .none 0 p10] p11) rs [] p12, .While (.Constant (.bool true) 0 p13) [.Expr (.Yield (some (.Name "last_interval" p14)) p15) p16] [] p17] [] p18, .Expr (.Yield (some (.Name "interval" p19)) p20) p21, .Assign [.Name "last_interval" p22] (.Name "interval" p23) p24] [] (envOf "_grouping_intervals" sc C fa fcd)) ((model PRG w).den (.forLoop (.Name "interval" pt) (.ref IT) [.If (.Compare (.Name "interval" p1) [.Eq] [.Name "CHAR_MAX" p2] p3) [.Return none p4] [] p5, .If (.Compare (.Name "interval" p6) [.Eq] [.Constant (.int 0) 0 p7] p8) [.If (.Compare (.Name "last_interval" p9) [.Is] [.Constant .none 0 p10] p11) rs [] p12, .While (.Constant (.bool true) 0 p13) [.Expr (.Yield (some (.Name "last_interval" p14)) p15) p16] [] p17] [] p18, .Expr (.Yield (some (.Name "interval" p19)) p20) p21, .Assign [.Name "last_interval" p22] (.Name "interval" p23) p24] [] (envOf "_grouping_intervals" sc C fa fcd))) fs s) :
    Seg (model PRG w) A (Rg C IT fin) (Yg h₀ C IT GL (listOf vs.toArray cG) ys fin) (n + 1) s₀ (.forLoop (.Name "interval" pt) (.ref IT) [.If (.Compare (.Name "interval" p1) [.Eq] [.Name "CHAR_MAX" p2] p3) [.Return none p4] [] p5, .If (.Compare (.Name "interval" p6) [.Eq] [.Constant (.int 0) 0 p7] p8) [.If (.Compare (.Name "last_interval" p9) [.Is] [.Constant .none 0 p10] p11) rs [] p12, .While (.Constant (.bool true) 0 p13) [.Expr (.Yield (some (.Name "last_interval" p14)) p15) p16] [] p17] [] p18, .Expr (.Yield (some (.Name "interval" p19)) p20) p21, .Assign [.Name "last_interval" p22] (.Name "interval" p23) p24] [] (envOf "_grouping_intervals" sc C fa fcd)) ((model PRG w).den (.forLoop (.Name "interval" pt) (.ref IT) [.If (.Compare (.Name "interval" p1) [.Eq] [.Name "CHAR_MAX" p2] p3) [.Return none p4] [] p5, .If (.Compare (.Name "interval" p6) [.Eq] [.Constant (.int 0) 0 p7] p8) [.If (.Compare (.Name "last_interval" p9) [.Is] [.Constant .none 0 p10] p11) rs [] p12, .While (.Constant (.bool true) 0 p13) [.Expr (.Yield (some (.Name "last_interval" p14)) p15) p16] [] p17] [] p18, .Expr (.Yield (some (.Name "interval" p19)) p20) p21, .Assign [.Name "last_interval" p22] (.Name "interval" p23) p24] [] (envOf "_grouping_intervals" sc C fa fcd))) fs s := by
  have hip : ((envOf "_grouping_intervals" sc C fa fcd).scope.kind == .class || ((envOf "_grouping_intervals" sc C fa fcd).scope.kind == .module && (envOf "_grouping_intervals" sc C fa fcd).locals != (envOf "_grouping_intervals" sc C fa fcd).globals)) = false := by
    show (sc.kind == .class || (sc.kind == .module && C != mainGlobals)) = false
    rw [hsc]; rfl
  have hia : interactive (envOf "_grouping_intervals" sc C fa fcd) = false := by
    show (sc.kind == _ && _) = false
    rw [hsc]; rfl
  refine seg_forLoop (fun _ => rfl) ?_
  have i1 := (N _ (.head _)).1
  have i2 := (N _ (.head _)).2.1
  have i3 := (N _ (.head _)).2.2
  have g1 := (N _ (.tail _ (.head _))).1
  have g2 := (N _ (.tail _ (.head _))).2.1
  have g3 := (N _ (.tail _ (.head _))).2.2
  refine wpAny_pyNext_list_item (l := GL) (i := j) ⟨oI, i1, hI.1, hI.2⟩ (news_isList N (.tail _ (.head _))) (by simpa using hv) fun h3 hit s3 => ?_
  obtain ⟨o3, e3, c1, c2⟩ := hit
  have F3 := fr_but F i3 i2 s3.extBut
  refine wpAny_assign_Name (wpAny_storeName_local hk3 F3.ns (fun h4 n4 s4 => ?_) hip)
  have F4 := F3.set n4 s4
  have e4 : h4.get? IT = some o3 := s4.extBut _ _ i2 e3
  have g4 : h4.get? GL = some (listOf vs.toArray cG) := s4.extBut _ _ g2 (s3.extBut _ _ hIG g1)
  have K4 : ∀ b o, b ≠ C → b ≠ IT → s.heap.get? b = some o → h4.get? b = some o := fun b o b1 b2 e => s4.extBut b o b1 (s3.extBut b o b2 e)
  refine seg_execs_cons (seg_If (wpAny_isTrue_Compare1 ?_))
  refine ld (v := .int x t) F4 rfl ?_ hsc hk3
  obtain ⟨tm, hm⟩ := cmax_at X T.g
  refine Name_function_global hsc hk4 (loadGlobal_global (env := (envOf "_grouping_intervals" sc C fa fcd)) (T.keeps F4.keep).g hm ?_) (by decide)
  refine P.eq_int (wpAny_truthy_bool ?_)
  rw [if_neg (by simp; omega)]
  refine seg_execs_nil ?_
  dsimp only
  refine seg_execs_cons (seg_If (wpAny_isTrue_Compare1 ?_))
  refine ld (v := .int x t) F4 rfl ?_ hsc hk3
  refine wpAny_Constant_int ?_
  refine P.eq_int (wpAny_truthy_bool ?_)
  rw [if_neg (by simp; omega)]
  refine seg_execs_nil ?_
  dsimp only
  refine seg_execs_cons (seg_Expr_Yield hf1 rfl hf2 ?_ hco hia)
  refine ld (v := .int x t) F4 rfl ?_ hsc hk3
  intro kap hkap
  obtain ⟨oC, es, ep, hoC, rC⟩ := F4.ns
  refine ⟨t, oC, o3, by rw [hy], hfin, S.step K4, hoC, e4, fun hn s'' q1 q2 q3 q4 => hkap _ _ ?_⟩
  have F5 : Fr h₀ C s''.heap (fun y => if y = "interval" then some (.int x t) else m y) := ⟨⟨oC, es, ep, q1, rC⟩, q4, F.above⟩
  refine seg_execs_cons (seg_plain ?_)
  refine wpAny_Assign_Name ?_
  refine ld (v := .int x t) F5 rfl ?_ hsc hk3
  refine wpAny_storeName_local hk2 F5.ns (fun h6 n6 s6 => ?_) hip
  dsimp only
  refine seg_execs_nil ?_
  dsimp only
  refine seg_again rfl ?_
  refine next hn s'' { s'' with heap := h6, toks := s''.toks + 1 } _ o3 (F5.set n6 s6) ?_ ⟨c1, c2⟩ rfl (Since.refl.step fun b o b1 b2 e => s6.extBut b o b1 e)
  intro p hp
  simp only [List.mem_cons, List.not_mem_nil, or_false] at hp
  rcases hp with rfl | rfl
  · exact ⟨s6.extBut _ _ i2 q2, i2, i3⟩
  · exact ⟨s6.extBut _ _ g2 q3, g2, g3⟩

set_option maxHeartbeats 4000000 in
theorem turn_stop {w : World} {A : Around} {mean : ExcName → Option Value} {mg mb : Str → Option Value} {h₀ : Heap} {C IT GL : Addr} {ys : List Int} {fin : Bool} {n : Nat} {s₀ s : Shared} {fs : List Frame} {sc : Scope} {fa : Addr} {fcd : Value} {m : Str → Option Value} {oI : Obj} {vs : List Value} {cG j : Nat} {p1 p2 p3 p4 p5 p6 p7 p8 p9 p10 p11 p12 p13 p14 p15 p16 p17 p18 p19 p20 p21 p22 p23 p24 pt : Pos} {rs : List Stmt}
    (hsc : sc.kind = .function) (hk2 : (envOf "_grouping_intervals" sc C fa fcd).kindOf "last_interval" = some .local) (hk3 : (envOf "_grouping_intervals" sc C fa fcd).kindOf "interval" = some .local) (hk4 : (envOf "_grouping_intervals" sc C fa fcd).kindOf "CHAR_MAX" = some .globalImplicit) (hco : sc.isCoroutine = false)
    (X : (heap w.params).In h₀) (T : Top VW LO mean mg mb h₀) (hf1 : splitAtGen fs = none) (hf2 : fs.any Frame.guarded = false) (hf3 : (marksOver fs (A.handled, A.handled)).1 = none)
    (F : Fr h₀ C s.heap m) (N : News h₀ C s.heap [(IT, oI), (GL, listOf vs.toArray cG)]) (hIG : GL ≠ IT) (hI : LitAt oI GL j) (S : Since C IT s₀ s) (hv : vs[j]? = none) (out : ∀ c' s', Since C IT s₀ s' → Seg (model PRG w) A (Rg C IT fin) (Yg h₀ C IT GL (listOf vs.toArray cG) ys fin) n s₀ c' (.pure (.done .next)) fs s') :
    Seg (model PRG w) A (Rg C IT fin) (Yg h₀ C IT GL (listOf vs.toArray cG) ys fin) n s₀ (.forLoop (.Name "interval" pt) (.ref IT) [.If (.Compare (.Name "interval" p1) [.Eq] [.Name "CHAR_MAX" p2] p3) [.Return none p4] [] p5, .If (.Compare (.Name "interval" p6) [.Eq] [.Constant (.int 0) 0 p7] p8) [.If (.Compare (.Name "last_interval" p9) [.Is] [.Constant .none 0 p10] p11) rs [] p12, .While (.Constant (.bool true) 0 p13) [.Expr (.Yield (some (.Name "last_interval" p14)) p15) p16] [] p17] [] p18, .Expr (.Yield (some (.Name "interval" p19)) p20) p21, .Assign [.Name "last_interval" p22] (.Name "interval" p23) p24] [] (envOf "_grouping_intervals" sc C fa fcd)) ((model PRG w).den (.forLoop (.Name "interval" pt) (.ref IT) [.If (.Compare (.Name "interval" p1) [.Eq] [.Name "CHAR_MAX" p2] p3) [.Return none p4] [] p5, .If (.Compare (.Name "interval" p6) [.Eq] [.Constant (.int 0) 0 p7] p8) [.If (.Compare (.Name "last_interval" p9) [.Is] [.Constant .none 0 p10] p11) rs [] p12, .While (.Constant (.bool true) 0 p13) [.Expr (.Yield (some (.Name "last_interval" p14)) p15) p16] [] p17] [] p18, .Expr (.Yield (some (.Name "interval" p19)) p20) p21, .Assign [.Name "last_interval" p22] (.Name "interval" p23) p24] [] (envOf "_grouping_intervals" sc C fa fcd))) fs s := by
  have hip : ((envOf "_grouping_intervals" sc C fa fcd).scope.kind == .class || ((envOf "_grouping_intervals" sc C fa fcd).scope.kind == .module && (envOf "_grouping_intervals" sc C fa fcd).locals != (envOf "_grouping_intervals" sc C fa fcd).globals)) = false := by
    show (sc.kind == .class || (sc.kind == .module && C != mainGlobals)) = false
    rw [hsc]; rfl
  have hia : interactive (envOf "_grouping_intervals" sc C fa fcd) = false := by
    show (sc.kind == _ && _) = false
    rw [hsc]; rfl
  refine seg_forLoop (fun _ => rfl) ?_
  have i1 := (N _ (.head _)).1
  have i2 := (N _ (.head _)).2.1
  have i3 := (N _ (.head _)).2.2
  have g1 := (N _ (.tail _ (.head _))).1
  have g2 := (N _ (.tail _ (.head _))).2.1
  have g3 := (N _ (.tail _ (.head _))).2.2
  refine wpAny_pyNext_list_end (l := GL) (i := j) hf3 ⟨oI, i1, hI.1, hI.2⟩ (news_isList N (.tail _ (.head _))) (by simpa using hv) fun h3 s3 => ?_
  exact seg_blockNil (out _ _ (S.step (tk := s.toks) fun b o b1 b2 e => s3 b o b2 e))
set_option maxHeartbeats 4000000 in
theorem turn_char {w : World} {A : Around} {mean : ExcName → Option Value} {mg mb : Str → Option Value} {h₀ : Heap} {C IT GL : Addr} {ys : List Int} {fin : Bool} {n : Nat} {s₀ s : Shared} {fs : List Frame} {sc : Scope} {fa : Addr} {fcd : Value} {m : Str → Option Value} {oI : Obj} {vs : List Value} {cG j : Nat} {p1 p2 p3 p4 p5 p6 p7 p8 p9 p10 p11 p12 p13 p14 p15 p16 p17 p18 p19 p20 p21 p22 p23 p24 pt : Pos} {rs : List Stmt}
    (hsc : sc.kind = .function) (hk2 : (envOf "_grouping_intervals" sc C fa fcd).kindOf "last_interval" = some .local) (hk3 : (envOf "_grouping_intervals" sc C fa fcd).kindOf "interval" = some .local) (hk4 : (envOf "_grouping_intervals" sc C fa fcd).kindOf "CHAR_MAX" = some .globalImplicit) (hco : sc.isCoroutine = false)
    (X : (heap w.params).In h₀) (T : Top VW LO mean mg mb h₀) (hf1 : splitAtGen fs = none) (hf2 : fs.any Frame.guarded = false) (hf3 : (marksOver fs (A.handled, A.handled)).1 = none)
    (F : Fr h₀ C s.heap m) (N : News h₀ C s.heap [(IT, oI), (GL, listOf vs.toArray cG)]) (hIG : GL ≠ IT) (hI : LitAt oI GL j) (S : Since C IT s₀ s) {x : Int} {t : Tok} (hv : vs[j]? = some (.int x t)) (hx : x = 127) (out : ∀ c' s', Since C IT s₀ s' → Seg (model PRG w) A (Rg C IT fin) (Yg h₀ C IT GL (listOf vs.toArray cG) ys fin) n s₀ c' (.pure (.done (.ret .none))) fs s') :
    Seg (model PRG w) A (Rg C IT fin) (Yg h₀ C IT GL (listOf vs.toArray cG) ys fin) n s₀ (.forLoop (.Name "interval" pt) (.ref IT) [.If (.Compare (.Name "interval" p1) [.Eq] [.Name "CHAR_MAX" p2] p3) [.Return none p4] [] p5, .If (.Compare (.Name "interval" p6) [.Eq] [.Constant (.int 0) 0 p7] p8) [.If (.Compare (.Name "last_interval" p9) [.Is] [.Constant .none 0 p10] p11) rs [] p12, .While (.Constant (.bool true) 0 p13) [.Expr (.Yield (some (.Name "last_interval" p14)) p15) p16] [] p17] [] p18, .Expr (.Yield (some (.Name "interval" p19)) p20) p21, .Assign [.Name "last_interval" p22] (.Name "interval" p23) p24] [] (envOf "_grouping_intervals" sc C fa fcd)) ((model PRG w).den (.forLoop (.Name "interval" pt) (.ref IT) [.If (.Compare (.Name "interval" p1) [.Eq] [.Name "CHAR_MAX" p2] p3) [.Return none p4] [] p5, .If (.Compare (.Name "interval" p6) [.Eq] [.Constant (.int 0) 0 p7] p8) [.If (.Compare (.Name "last_interval" p9) [.Is] [.Constant .none 0 p10] p11) rs [] p12, .While (.Constant (.bool true) 0 p13) [.Expr (.Yield (some (.Name "last_interval" p14)) p15) p16] [] p17] [] p18, .Expr (.Yield (some (.Name "interval" p19)) p20) p21, .Assign [.Name "last_interval" p22] (.Name "interval" p23) p24] [] (envOf "_grouping_intervals" sc C fa fcd))) fs s := by
  have hip : ((envOf "_grouping_intervals" sc C fa fcd).scope.kind == .class || ((envOf "_grouping_intervals" sc C fa fcd).scope.kind == .module && (envOf "_grouping_intervals" sc C fa fcd).locals != (envOf "_grouping_intervals" sc C fa fcd).globals)) = false := by
    show (sc.kind == .class || (sc.kind == .module && C != mainGlobals)) = false
    rw [hsc]; rfl
  have hia : interactive (envOf "_grouping_intervals" sc C fa fcd) = false := by
    show (sc.kind == _ && _) = false
    rw [hsc]; rfl
  refine seg_forLoop (fun _ => rfl) ?_
  have i1 := (N _ (.head _)).1
  have i2 := (N _ (.head _)).2.1
  have i3 := (N _ (.head _)).2.2
  have g1 := (N _ (.tail _ (.head _))).1
  have g2 := (N _ (.tail _ (.head _))).2.1
  have g3 := (N _ (.tail _ (.head _))).2.2
  refine wpAny_pyNext_list_item (l := GL) (i := j) ⟨oI, i1, hI.1, hI.2⟩ (news_isList N (.tail _ (.head _))) (by simpa using hv) fun h3 hit s3 => ?_
  obtain ⟨o3, e3, c1, c2⟩ := hit
  have F3 := fr_but F i3 i2 s3.extBut
  refine wpAny_assign_Name (wpAny_storeName_local hk3 F3.ns (fun h4 n4 s4 => ?_) hip)
  have F4 := F3.set n4 s4
  have e4 : h4.get? IT = some o3 := s4.extBut _ _ i2 e3
  have g4 : h4.get? GL = some (listOf vs.toArray cG) := s4.extBut _ _ g2 (s3.extBut _ _ hIG g1)
  have K4 : ∀ b o, b ≠ C → b ≠ IT → s.heap.get? b = some o → h4.get? b = some o := fun b o b1 b2 e => s4.extBut b o b1 (s3.extBut b o b2 e)
  refine seg_execs_cons (seg_If (wpAny_isTrue_Compare1 ?_))
  refine ld (v := .int x t) F4 rfl ?_ hsc hk3
  obtain ⟨tm, hm⟩ := cmax_at X T.g
  refine Name_function_global hsc hk4 (loadGlobal_global (env := (envOf "_grouping_intervals" sc C fa fcd)) (T.keeps F4.keep).g hm ?_) (by decide)
  refine P.eq_int (wpAny_truthy_bool ?_)
  rw [if_pos (by rw [hx]; rfl)]
  refine seg_execs_cons (seg_plain ?_)
  show wpAny _ _ (do standAt p4; pure (Flow.ret .none)) _ _ _
  refine wpAny_bind (wpAny_standAt (wpAny_pure ?_))
  exact out _ _ (S.step K4)
set_option maxHeartbeats 4000000 in
theorem turn_zero {w : World} {A : Around} {mean : ExcName → Option Value} {mg mb : Str → Option Value} {h₀ : Heap} {C IT GL : Addr} {ys : List Int} {fin : Bool} {n : Nat} {s₀ s : Shared} {fs : List Frame} {sc : Scope} {fa : Addr} {fcd : Value} {m : Str → Option Value} {oI : Obj} {vs : List Value} {cG j : Nat} {p1 p2 p3 p4 p5 p6 p7 p8 p9 p10 p11 p12 p13 p14 p15 p16 p17 p18 p19 p20 p21 p22 p23 p24 pt : Pos} {rs : List Stmt}
    (hsc : sc.kind = .function) (hk2 : (envOf "_grouping_intervals" sc C fa fcd).kindOf "last_interval" = some .local) (hk3 : (envOf "_grouping_intervals" sc C fa fcd).kindOf "interval" = some .local) (hk4 : (envOf "_grouping_intervals" sc C fa fcd).kindOf "CHAR_MAX" = some .globalImplicit) (hco : sc.isCoroutine = false)
    (X : (heap w.params).In h₀) (T : Top VW LO mean mg mb h₀) (hf1 : splitAtGen fs = none) (hf2 : fs.any Frame.guarded = false) (hf3 : (marksOver fs (A.handled, A.handled)).1 = none)
    (F : Fr h₀ C s.heap m) (N : News h₀ C s.heap [(IT, oI), (GL, listOf vs.toArray cG)]) (hIG : GL ≠ IT) (hI : LitAt oI GL j) (S : Since C IT s₀ s) {x y : Int} {t ty : Tok} (hv : vs[j]? = some (.int x t)) (hx : x = 0) (hlast : m "last_interval" = some (.int y ty)) (hy : ys.getD 3 0 = y) (hfin : fin = false) :
    Seg (model PRG w) A (Rg C IT fin) (Yg h₀ C IT GL (listOf vs.toArray cG) ys fin) 1 s₀ (.forLoop (.Name "interval" pt) (.ref IT) [.If (.Compare (.Name "interval" p1) [.Eq] [.Name "CHAR_MAX" p2] p3) [.Return none p4] [] p5, .If (.Compare (.Name "interval" p6) [.Eq] [.Constant (.int 0) 0 p7] p8) [.If (.Compare (.Name "last_interval" p9) [.Is] [.Constant .none 0 p10] p11) rs [] p12, .While (.Constant (.bool true) 0 p13) [.Expr (.Yield (some (.Name "last_interval" p14)) p15) p16] [] p17] [] p18, .Expr (.Yield (some (.Name "interval" p19)) p20) p21, .Assign [.Name "last_interval" p22] (.Name "interval" p23) p24] [] (envOf "_grouping_intervals" sc C fa fcd)) ((model PRG w).den (.forLoop (.Name "interval" pt) (.ref IT) [.If (.Compare (.Name "interval" p1) [.Eq] [.Name "CHAR_MAX" p2] p3) [.Return none p4] [] p5, .If (.Compare (.Name "interval" p6) [.Eq] [.Constant (.int 0) 0 p7] p8) [.If (.Compare (.Name "last_interval" p9) [.Is] [.Constant .none 0 p10] p11) rs [] p12, .While (.Constant (.bool true) 0 p13) [.Expr (.Yield (some (.Name "last_interval" p14)) p15) p16] [] p17] [] p18, .Expr (.Yield (some (.Name "interval" p19)) p20) p21, .Assign [.Name "last_interval" p22] (.Name "interval" p23) p24] [] (envOf "_grouping_intervals" sc C fa fcd))) fs s := by
  have hip : ((envOf "_grouping_intervals" sc C fa fcd).scope.kind == .class || ((envOf "_grouping_intervals" sc C fa fcd).scope.kind == .module && (envOf "_grouping_intervals" sc C fa fcd).locals != (envOf "_grouping_intervals" sc C fa fcd).globals)) = false := by
    show (sc.kind == .class || (sc.kind == .module && C != mainGlobals)) = false
    rw [hsc]; rfl
  have hia : interactive (envOf "_grouping_intervals" sc C fa fcd) = false := by
    show (sc.kind == _ && _) = false
    rw [hsc]; rfl
  refine seg_forLoop (fun _ => rfl) ?_
  have i1 := (N _ (.head _)).1
  have i2 := (N _ (.head _)).2.1
  have i3 := (N _ (.head _)).2.2
  have g1 := (N _ (.tail _ (.head _))).1
  have g2 := (N _ (.tail _ (.head _))).2.1
  have g3 := (N _ (.tail _ (.head _))).2.2
  refine wpAny_pyNext_list_item (l := GL) (i := j) ⟨oI, i1, hI.1, hI.2⟩ (news_isList N (.tail _ (.head _))) (by simpa using hv) fun h3 hit s3 => ?_
  obtain ⟨o3, e3, c1, c2⟩ := hit
  have F3 := fr_but F i3 i2 s3.extBut
  refine wpAny_assign_Name (wpAny_storeName_local hk3 F3.ns (fun h4 n4 s4 => ?_) hip)
  have F4 := F3.set n4 s4
  have e4 : h4.get? IT = some o3 := s4.extBut _ _ i2 e3
  have g4 : h4.get? GL = some (listOf vs.toArray cG) := s4.extBut _ _ g2 (s3.extBut _ _ hIG g1)
  have K4 : ∀ b o, b ≠ C → b ≠ IT → s.heap.get? b = some o → h4.get? b = some o := fun b o b1 b2 e => s4.extBut b o b1 (s3.extBut b o b2 e)
  refine seg_execs_cons (seg_If (wpAny_isTrue_Compare1 ?_))
  refine ld (v := .int x t) F4 rfl ?_ hsc hk3
  obtain ⟨tm, hm⟩ := cmax_at X T.g
  refine Name_function_global hsc hk4 (loadGlobal_global (env := (envOf "_grouping_intervals" sc C fa fcd)) (T.keeps F4.keep).g hm ?_) (by decide)
  refine P.eq_int (wpAny_truthy_bool ?_)
  rw [if_neg (by simp; omega)]
  refine seg_execs_nil ?_
  dsimp only
  refine seg_execs_cons (seg_If (wpAny_isTrue_Compare1 ?_))
  refine ld (v := .int x t) F4 rfl ?_ hsc hk3
  refine wpAny_Constant_int ?_
  refine P.eq_int (wpAny_truthy_bool ?_)
  rw [if_pos (by rw [hx]; rfl)]
  refine seg_execs_cons (seg_If (wpAny_isTrue_Compare1 ?_))
  refine ld (v := .int y ty) F4 hlast ?_ hsc hk2
  refine wpAny_Constant_none ?_
  refine wpAny_is_other rfl (by intro q; cases q) (wpAny_truthy_bool ?_)
  rw [if_neg (by decide)]
  refine seg_execs_nil ?_
  dsimp only
  refine seg_execs_cons (seg_While fun p => seg_whileLoop ?_)
  refine isTrue_plain (wpAny_Constant_bool (wpAny_truthy_bool ?_))
  rw [if_pos rfl]
  refine seg_execs_cons (seg_Expr_Yield (by simp [splitAtGen, hf1]) rfl (by simpa [Frame.guarded] using hf2) ?_ hco hia)
  refine ld (v := .int y ty) F4 hlast ?_ hsc hk2
  intro kap hkap
  obtain ⟨oC, es, ep, hoC, rC⟩ := F4.ns
  exact ⟨ty, oC, o3, by rw [hy], fun _ => hfin, S.step K4, hoC, e4, fun hn => absurd rfl hn⟩
end
section
noncomputable abbrev genObj (g : Nat) (nm qn : Value) : Obj := { cls := .type "generator", data := .fields #[.int g 0, nm, qn] }
section
variable {prog : Program} {w : World} {A : Around} {s : Shared} {K : Frag} {p : Program} {loose : List Str} {mean : ExcName → Option Value} {mg mb : Str → Option Value}
  {R : Result → Shared → Prop} {name qual : Str} {params : Arguments} {body : List Stmt} {scope : Scope} {dV kV doc pm cdv ct oc : Value} {an od : Option Addr} {osl : Array (Option Value)} {f : Addr} {args : Args} {binds : List (Str × Value)}
/-- a generator made -/
theorem code_gen (X : K.In s.heap) (T : Top p loose mean mg mb s.heap)
    (ho : K.lookup f = some ⟨oc, od, .func (fnOf name qual params body scope dV kV doc pm an cdv ct), osl⟩) (hcd : codeIn K cdv qual = true) (hroom : A.depth < recursionLimit)
    (hbind : BindsTo s (fnOf name qual params body scope dV kV doc pm an cdv ct) args binds) (hloc : ∀ y ∈ binds, scope.names.lookup y.1 = some .local)
    (h : ∀ C h₁ tk, Fr s.heap C h₁ (fun y => binds.reverse.lookup y) → h₁.objs.size = C + 1 →
      R (.ok (.ret (.ref h₁.objs.size))) { s with heap := h₁.push (genObj s.gens.size (.str name tk) (.str qual (tk + 1))), toks := tk + 1 + 1, gens := s.gens.push (.fresh (.func body (envOf qual scope C f cdv))) })
    (hco : scope.isCoroutine = false) (hgen : scope.isGenerator = true) (hk : scope.kind = .function)
    (hcell : ∀ x ∈ scope.names, x.2 ≠ .cell) : codeAny (model prog w) A (.call (.ref f) args) R s := by
  refine codeAny_call_generator (fd := fnOf name qual params body scope dV kV doc pm an cdv ct) (body := body) hroom (X _ _ ho) rfl hco hgen rfl (codeRec_of X hcd) (hbind _ _ _ _ ?_)
  refine wpAny_newFunctionEnv hcell hloc (fun h₁ hns hsb => ?_) hk
  refine ⟨T.nolimit.fresh _ hsb, ?_⟩
  refine h s.heap.objs.size h₁ _ ⟨hns, fun b o e => hsb.extBut b o (Nat.ne_of_lt (Heap.lt_size e)) (Heap.get?_push_of_some _ e), Nat.le_refl _⟩ ?_
  rw [hsb.1, Heap.size_push]
end
/-- what the generator tells -/
noncomputable def Told (gl ys : List Int) (fin : Bool) : Prop := ∃ x0 x1 x2 e, gl = x0 :: x1 :: x2 :: e ∧ (1 ≤ x0 ∧ x0 ≤ 4) ∧ (1 ≤ x1 ∧ x1 ≤ 4) ∧ (1 ≤ x2 ∧ x2 ≤ 4) ∧
  ((fin = true ∧ ys = [x0, x1, x2] ∧ (e = [] ∨ ∃ r, e = 127 :: r)) ∨ (fin = false ∧ ys = [x0, x1, x2, x2] ∧ ∃ r, e = 0 :: r))

set_option maxHeartbeats 4000000 in
theorem grp_call {w : World} {A : Around} {mean : ExcName → Option Value} {mg mb : Str → Option Value} {h₀ : Heap} {L GL : Addr} {m : Str → Option Value} {s : Shared} {news : List (Addr × Obj)} {vs : List Value} {cG : Nat} {gl ys : List Int} {fin : Bool} {E : Value → Shared → Prop} {Q : Value → Shared → Prop}
    (hh : A.handled = none) (hroom : A.depth < recursionLimit) (X : (heap w.params).In h₀) (T : Top VW LO mean mg mb h₀) (F : Fr h₀ L s.heap m) (N : News h₀ L s.heap ((GL, listOf vs.toArray cG) :: news)) (hvs : IntsAre vs gl) (hT : Told gl ys fin)
    (hQ : ∀ a C oC h' tk' gs nm qn, gs.bare = true → Fr h₀ L h' m → News h₀ L h' ((a, genObj s.gens.size nm qn) :: (C, oC) :: (GL, listOf vs.toArray cG) :: news) → a ≠ C → (∀ p ∈ (GL, listOf vs.toArray cG) :: news, p.1 ≠ a ∧ p.1 ≠ C) → 
      (∀ s'' : Shared, s''.heap.get? C = some oC → s''.heap.get? GL = some (listOf vs.toArray cG) → (∀ b o, h₀.get? b = some o → s''.heap.get? b = some o) →
        gs.Goes (model PRG w) A.in1 (Rg C s''.heap.objs.size fin) (Yg h₀ C s''.heap.objs.size GL (listOf vs.toArray cG) ys fin) 4 (.send .none) s'') →
      Q (.ref a) { s with heap := h', toks := tk', gens := s.gens.push gs }) :
    wpAny (model PRG w) A (call (.ref 51) [.ref GL]) Q E s := by
  refine wpAny_call ?_
  k_dflt (refine' code_gen (X.keeps F.keep) (T.keeps F.keep) ?k6 ?k7 ?k8 ?k9 ?kB ?_ ?c2 ?c3 ?c4 ?c5; (case k6 => k_is); (case k7 => k_is); (case k8 => assumption); (case k9 => exact BindsTo.of_eq rfl); (case c5 => decide); (case kB => exact locs rfl); (case c2 => exact rfl); (case c3 => exact rfl); (case c4 => exact rfl); k_whole)
  intro C h1 tk F1 hsz
  have F1' := Fr.re (m' := fun y => if y = "grouping" then some (.ref GL) else none) F1 (fun y => look_chain [(("grouping" : Str), (.ref GL : Value))] y)
  obtain ⟨oC, es, ep, hoC, rC⟩ := F1'.ns
  have up : ∀ b o, s.heap.get? b = some o → (h1.push (genObj s.gens.size (.str "_grouping_intervals" tk) (.str "_grouping_intervals" (tk + 1)))).get? b = some o := fun b o e => Heap.get?_push_of_some _ (F1.keep b o e)
  have aC : @LE.le Nat _ s.heap.objs.size C := F1.above
  have lL : @LT.lt Nat _ L s.heap.objs.size := by
    obtain ⟨o, _, _, ho, _⟩ := F.ns
    exact Heap.lt_size ho
  have l0 : @LE.le Nat _ h₀.objs.size L := F.above
  have gone : ∀ b : Addr, @LE.le Nat _ s.heap.objs.size b → b ≠ L ∧ h₀.get? b = none := fun b hb => by
    constructor
    · show @Ne Nat _ _
      omega
    · cases q : h₀.get? b with
      | none => rfl
      | some o =>
        have : @LT.lt Nat _ b s.heap.objs.size := Heap.lt_size (F.keep _ _ q)
        exact absurd this (Nat.not_lt.mpr hb)
  clear F1
  dsimp only
  refine hQ h1.objs.size C oC _ _ _ (.str "_grouping_intervals" tk) (.str "_grouping_intervals" (tk + 1)) rfl (F.keeps up) ?n ?ac ?ne ?go
  case ac => show @Ne Nat _ _; omega
  case ne =>
    intro p hp
    have : @LT.lt Nat _ p.1 s.heap.objs.size := Heap.lt_size (N p hp).1
    constructor <;> (show @Ne Nat _ _; omega)
  case n =>
    intro p hp
    rcases List.mem_cons.mp hp with rfl | hp
    · exact ⟨Heap.get?_push_size _ rfl, gone _ (by show @LE.le Nat _ _ _; omega)⟩
    rcases List.mem_cons.mp hp with rfl | hp
    · exact ⟨Heap.get?_push_of_some _ hoC, gone _ aC⟩
    · exact ⟨up _ _ (N p hp).1, (N p hp).2⟩
  case go =>
    intro s'' q1 q2 q3
    have F5 : Fr h₀ C s''.heap (fun y => if y = "grouping" then some (.ref GL) else none) := ⟨⟨oC, es, ep, q1, rC⟩, q3, by show @LE.le Nat _ _ _; omega⟩
    have gC := (gone C aC).2
    obtain ⟨x0, x1, x2, e, rfl, hx0, hx1, hx2, hend⟩ := hT
    obtain ⟨t0, v0⟩ := IntsAre.at hvs (i := 0) (by simp)
    obtain ⟨t1, v1⟩ := IntsAre.at hvs (i := 1) (by simp)
    obtain ⟨t2, v2⟩ := IntsAre.at hvs (i := 2) (by simp)
    have gGL : GL ≠ C := by
      have : @LT.lt Nat _ GL s.heap.objs.size := Heap.lt_size (N _ (.head _)).1
      show @Ne Nat _ _
      omega
    refine ⟨rfl, seg_func ?_⟩
    refine seg_execs_cons (seg_plain (wpAny_Assign_Name (wpAny_Constant_none (wpAny_storeName_local rfl F5.ns (fun h2 n2 s2 => ?_) rfl))))
    dsimp only
    have F6 := F5.set n2 s2
    have g2 : h2.get? GL = some (listOf vs.toArray cG) := s2.extBut _ _ gGL q2
    have z2 : h2.objs.size = s''.heap.objs.size := s2.1
    refine seg_execs_cons (seg_For (fun _ => rfl) ?_)
    refine ld (v := .ref GL) F6 rfl ?_
    refine wpAny_pyIter_list ⟨_, g2, rfl, _, rfl⟩ ?_
    intro p
    dsimp only
    rw [z2]
    have iC : s''.heap.objs.size ≠ C := fun z => by
      have := Heap.lt_size q1
      rw [z] at this
      exact Nat.lt_irrefl _ this
    have i0 : h₀.get? s''.heap.objs.size = none := by
      cases q : h₀.get? s''.heap.objs.size with
      | none => rfl
      | some o => exact absurd (Heap.lt_size (q3 _ _ q)) (Nat.lt_irrefl _)
    have gI : GL ≠ s''.heap.objs.size := fun z => by
      have := Heap.lt_size q2
      rw [z] at this
      exact Nat.lt_irrefl _ this
    have F7 := F6.push { cls := .type "list_iterator", data := .fields #[.ref GL, .int 0 0] }
    have N7 : News h₀ C (h2.push { cls := .type "list_iterator", data := .fields #[.ref GL, .int 0 0] }) [(s''.heap.objs.size, { cls := .type "list_iterator", data := .fields #[.ref GL, .int 0 0] }), (GL, listOf vs.toArray cG)] := by
      intro p hp
      simp only [List.mem_cons, List.not_mem_nil, or_false] at hp
      rcases hp with rfl | rfl
      · exact ⟨by rw [← z2]; exact Heap.get?_push_size _ rfl, iC, i0⟩
      · exact ⟨Heap.get?_push_of_some _ g2, gGL, (N _ (.head _)).2.2⟩
    have S7 : ∀ tk, Since C s''.heap.objs.size s'' { s'' with heap := h2.push { cls := .type "list_iterator", data := .fields #[.ref GL, .int 0 0] }, toks := tk } := fun tk => Since.refl.step fun b o b1 b2 e => Heap.get?_push_of_some _ (s2.extBut b o b1 e)
    have hy0 : ys.getD 0 0 = x0 := by rcases hend with ⟨_, rfl, _⟩ | ⟨_, rfl, _⟩ <;> rfl
    have hy1 : ys.getD 1 0 = x1 := by rcases hend with ⟨_, rfl, _⟩ | ⟨_, rfl, _⟩ <;> rfl
    have hy2 : ys.getD 2 0 = x2 := by rcases hend with ⟨_, rfl, _⟩ | ⟨_, rfl, _⟩ <;> rfl
    refine turn_item (n := 3) (x := x0) (t := t0) rfl rfl rfl rfl rfl X T rfl rfl hh F7 N7 gI ⟨rfl, rfl⟩ (S7 _) v0 hx0.1 hx0.2 hy0 (fun z => by cases z) ?_
    intro _ sA sB mB oB FB NB IB lB SB
    refine turn_item (n := 2) (x := x1) (t := t1) rfl rfl rfl rfl rfl X T rfl rfl hh FB NB gI IB SB v1 hx1.1 hx1.2 hy1 (fun z => by cases z) ?_
    clear FB NB IB lB SB
    intro _ sA sB mB oB FB NB IB lB SB
    refine turn_item (n := 1) (x := x2) (t := t2) rfl rfl rfl rfl rfl X T rfl rfl hh FB NB gI IB SB v2 hx2.1 hx2.2 hy2 (fun z => by cases z) ?_
    clear FB NB IB lB SB
    intro _ sA sB mB oB FB NB IB lB SB
    rcases hend with ⟨hfin, hys, rfl | ⟨r, rfl⟩⟩ | ⟨hfin, hys, r, rfl⟩
    · have v3 : vs[3]? = none := by
        rw [List.getElem?_eq_none_iff, IntsAre.length hvs]
        simp
      refine turn_stop rfl rfl rfl rfl rfl X T rfl rfl hh FB NB gI IB SB v3 fun c' s' S' => ?_
      refine seg_pop (seg_execs_nil ?_)
      exact seg_end (.ok (.ret .none)) ⟨rfl, rfl, hfin, S'⟩
    · obtain ⟨t3, v3⟩ := IntsAre.at hvs (i := 3) (by simp)
      refine turn_char rfl rfl rfl rfl rfl X T rfl rfl hh FB NB gI IB SB v3 rfl fun c' s' S' => ?_
      refine seg_pop ?_
      exact seg_end (.ok (.ret .none)) ⟨rfl, rfl, hfin, S'⟩
    · obtain ⟨t3, v3⟩ := IntsAre.at hvs (i := 3) (by simp)
      exact turn_zero (n := 0) rfl rfl rfl rfl rfl X T rfl rfl hh FB NB gI IB SB v3 rfl lB (by rw [hys]; rfl) hfin
end
section
noncomputable def GenSt (w : World) (A : Around) (h₀ : Heap) (C IT GL : Addr) (oL : Obj) (ys : List Int) (fin : Bool) (n g : Nat) (oC oI : Obj) (gens : Array GenState) : Prop :=
  ∃ gs, gens[g]? = some gs ∧ ∀ s'' : Shared, s''.heap.get? C = some oC → s''.heap.get? IT = some oI → s''.heap.get? GL = some oL → (∀ b o, h₀.get? b = some o → s''.heap.get? b = some o) →
    gs.Goes (model PRG w) A.in1 (Rg C IT fin) (Yg h₀ C IT GL oL ys fin) n (.send .none) s''
section
variable {w : World} {A : Around} {s : Shared} {E : Value → Shared → Prop} {mean : ExcName → Option Value} {mg mb : Str → Option Value} {h₀ : Heap} {L a C IT GL : Addr} {m : Str → Option Value} {news : List (Addr × Obj)} {oC oI oL : Obj} {ys : List Int} {fin : Bool} {n g : Nat} {nm qn : Value} {Q : Option Value → Shared → Prop}
theorem grp_wake {gs : GenState} (hh : A.handled = none) (hroom : A.depth < recursionLimit) (T : Top VW LO mean mg mb h₀) (F : Fr h₀ L s.heap m) (G : AllBare s.gens) (hgs : s.gens[g]? = some gs)
    (ha : s.heap.get? a = some (genObj g nm qn))
    (hgo : gs.Goes (model PRG w) A.in1 (Rg C IT fin) (Yg h₀ C IT GL oL ys fin) (n + 1) (.send .none) (s.setGen g .running))
    (hitem : ∀ t oC' oI' h' tk' gens', (n = 0 → fin = false) → AllBare gens' → (∀ b o, b ≠ C → b ≠ IT → s.heap.get? b = some o → h'.get? b = some o) → h'.get? C = some oC' → h'.get? IT = some oI' → (n ≠ 0 → GenSt w A h₀ C IT GL oL ys fin n g oC' oI' gens') →
      Q (some (.int (ys.getD (3 - n) 0) t)) { s with heap := h', toks := tk', gens := gens' })
    (hend : n = 0 → fin = true → ∀ h' tk' gens', AllBare gens' → (∀ b o, b ≠ C → b ≠ IT → s.heap.get? b = some o → h'.get? b = some o) → Q none { s with heap := h', toks := tk', gens := gens' }) :
    wpAny (model PRG w) A (pyNext (.ref a)) Q E s := by
  refine pyNext_fun (P := Pg C IT fin) (n := n + 1) hh (T.nolimit.keeps F.keep) hroom ⟨_, _, _, ha, rfl, rfl, rfl⟩ hgs hgo (fun v s₁ gs' hb hY => ?_) (fun s₁ hP h' hk => ?_)
  · obtain ⟨t, oC', oI', rfl, hf, ⟨h₁, tk₁, rfl, hk₁⟩, e1, e2, hkap⟩ := hY
    have hs : ((({ s.setGen g .running with heap := h₁, toks := tk₁ } : Shared).setGen g gs')).gens[g]? = some gs' := setGen_self (gs := .running) (setGen_self hgs)
    refine hitem t oC' oI' h₁ tk₁ _ hf ((GenOnlyQ.of ((GenOnly.setGen s g .running).trans (GenOnly.setGen _ g gs')) hs hb).bare G) hk₁ e1 e2 (fun hn => ⟨gs', hs, fun s'' x1 x2 x3 x4 => ?_⟩)
    exact hkap hn s'' x1 x2 x3 x4
  · obtain ⟨hn, hf, h₁, tk₁, rfl, hk₁⟩ := hP
    have hs : ((({ s.setGen g .running with heap := h₁, toks := tk₁ } : Shared).setGen g .finished)).gens[g]? = some .finished := setGen_self (gs := .running) (setGen_self hgs)
    exact hend (by omega) hf h' tk₁ _ ((GenOnlyQ.of ((GenOnly.setGen s g .running).trans (GenOnly.setGen _ g .finished)) hs rfl).bare G) fun b o b1 b2 e => hk _ _ (hk₁ b o b1 b2 e)
theorem two_but {h h' : Heap} (F : Fr h₀ L h m) (c0 : h₀.get? C = none) (i0 : h₀.get? IT = none) (cL : C ≠ L) (iL : IT ≠ L) (hk : ∀ b o, b ≠ C → b ≠ IT → h.get? b = some o → h'.get? b = some o) : Fr h₀ L h' m := by
  obtain ⟨o, a1, a2, ho, r⟩ := F.ns
  refine ⟨⟨o, a1, a2, hk _ _ cL.symm iL.symm ho, r⟩, fun b o e => hk b o (fun z => ?_) (fun z => ?_) (F.keep b o e), F.above⟩
  · rw [z, c0] at e; cases e
  · rw [z, i0] at e; cases e
theorem grp_next (hh : A.handled = none) (hroom : A.depth < recursionLimit) (T : Top VW LO mean mg mb h₀) (F : Fr h₀ L s.heap m) (N : News h₀ L s.heap ((a, genObj g nm qn) :: (C, oC) :: (IT, oI) :: (GL, oL) :: news)) (G : AllBare s.gens)
    (hne : ∀ p ∈ (a, genObj g nm qn) :: (GL, oL) :: news, p.1 ≠ C ∧ p.1 ≠ IT) (J : GenSt w A h₀ C IT GL oL ys fin (n + 1) g oC oI s.gens)
    (hitem : ∀ t oC' oI' h' tk' gens', (n = 0 → fin = false) → AllBare gens' → Fr h₀ L h' m → News h₀ L h' ((a, genObj g nm qn) :: (C, oC') :: (IT, oI') :: (GL, oL) :: news) → (n ≠ 0 → GenSt w A h₀ C IT GL oL ys fin n g oC' oI' gens') →
      Q (some (.int (ys.getD (3 - n) 0) t)) { s with heap := h', toks := tk', gens := gens' })
    (hend : n = 0 → fin = true → ∀ h' tk' gens', AllBare gens' → Fr h₀ L h' m → News h₀ L h' news → Q none { s with heap := h', toks := tk', gens := gens' }) :
    wpAny (model PRG w) A (pyNext (.ref a)) Q E s := by
  obtain ⟨gs, hgs, hgo⟩ := J
  have Na := N _ (.head _)
  have NC := N _ (.tail _ (.head _))
  have NI := N _ (.tail _ (.tail _ (.head _)))
  have NG := N _ (.tail _ (.tail _ (.tail _ (.head _))))
  refine grp_wake hh hroom T F G hgs Na.1 (hgo _ NC.1 NI.1 NG.1 F.keep) (fun t oC' oI' h' tk' gens' hf hG hk e1 e2 hJ => ?_) (fun hn hf h' tk' gens' hG hk => ?_)
  · refine hitem t oC' oI' h' tk' gens' hf hG (two_but F NC.2.2 NI.2.2 NC.2.1 NI.2.1 hk) (fun p hp => ?_) hJ
    rcases List.mem_cons.mp hp with rfl | hp
    · exact ⟨hk _ _ (hne _ (.head _)).1 (hne _ (.head _)).2 Na.1, Na.2⟩
    rcases List.mem_cons.mp hp with rfl | hp
    · exact ⟨e1, NC.2⟩
    rcases List.mem_cons.mp hp with rfl | hp
    · exact ⟨e2, NI.2⟩
    · have q := N p (.tail _ (.tail _ (.tail _ hp)))
      exact ⟨hk _ _ (hne p (.tail _ hp)).1 (hne p (.tail _ hp)).2 q.1, q.2⟩
  · refine hend hn hf h' tk' gens' hG (two_but F NC.2.2 NI.2.2 NC.2.1 NI.2.1 hk) (fun p hp => ?_)
    have q := N p (.tail _ (.tail _ (.tail _ (.tail _ hp))))
    exact ⟨hk _ _ (hne p (.tail _ (.tail _ hp))).1 (hne p (.tail _ (.tail _ hp))).2 q.1, q.2⟩
theorem grp_first {gs : GenState} (hh : A.handled = none) (hroom : A.depth < recursionLimit) (T : Top VW LO mean mg mb h₀) (F : Fr h₀ L s.heap m) (N : News h₀ L s.heap ((a, genObj g nm qn) :: (C, oC) :: (GL, oL) :: news)) (G : AllBare s.gens) (hgs : s.gens[g]? = some gs)
    (hne : ∀ p ∈ (a, genObj g nm qn) :: (GL, oL) :: news, p.1 ≠ C)
    (hgo : ∀ s'' : Shared, s''.heap.get? C = some oC → s''.heap.get? GL = some oL → (∀ b o, h₀.get? b = some o → s''.heap.get? b = some o) →
        gs.Goes (model PRG w) A.in1 (Rg C s''.heap.objs.size fin) (Yg h₀ C s''.heap.objs.size GL oL ys fin) 4 (.send .none) s'')
    (hitem : ∀ t IT oC' oI' h' tk' gens', AllBare gens' → Fr h₀ L h' m → News h₀ L h' ((a, genObj g nm qn) :: (C, oC') :: (IT, oI') :: (GL, oL) :: news) → (∀ p ∈ (a, genObj g nm qn) :: (C, oC) :: (GL, oL) :: news, p.1 ≠ IT) → GenSt w A h₀ C IT GL oL ys fin 3 g oC' oI' gens' →
      Q (some (.int (ys.getD 0 0) t)) { s with heap := h', toks := tk', gens := gens' }) :
    wpAny (model PRG w) A (pyNext (.ref a)) Q E s := by
  have Na := N _ (.head _)
  have NC := N _ (.tail _ (.head _))
  have NG := N _ (.tail _ (.tail _ (.head _)))
  have nI : ∀ {x o}, s.heap.get? x = some o → x ≠ s.heap.objs.size := fun {x o} e z => by
    have := Heap.lt_size e
    rw [z] at this
    exact Nat.lt_irrefl _ this
  have i0 : h₀.get? s.heap.objs.size = none := by
    cases q : h₀.get? s.heap.objs.size with
    | none => rfl
    | some o => exact absurd rfl (nI (F.keep _ _ q))
  have iL : s.heap.objs.size ≠ L := by
    obtain ⟨o, _, _, ho, _⟩ := F.ns
    exact (nI ho).symm
  refine grp_wake (n := 3) (C := C) (IT := s.heap.objs.size) (GL := GL) (oL := oL) (ys := ys) (fin := fin) hh hroom T F G hgs Na.1 (hgo _ NC.1 NG.1 F.keep) (fun t oC' oI' h' tk' gens' hf hG hk e1 e2 hJ => ?_) (fun hn => by cases hn)
  refine hitem t s.heap.objs.size oC' oI' h' tk' gens' hG (two_but F NC.2.2 i0 NC.2.1 iL hk) (fun p hp => ?_) (fun p hp => nI (N p hp).1) (hJ (by decide))
  rcases List.mem_cons.mp hp with rfl | hp
  · exact ⟨hk _ _ (hne _ (.head _)) (nI Na.1) Na.1, Na.2⟩
  rcases List.mem_cons.mp hp with rfl | hp
  · exact ⟨e1, NC.2⟩
  rcases List.mem_cons.mp hp with rfl | hp
  · exact ⟨e2, iL, i0⟩
  · have q := N p (.tail _ (.tail _ hp))
    exact ⟨hk _ _ (hne p (.tail _ hp)) (nI q.1) q.1, q.2⟩
end
end
section
theorem of_hide1 {h : Heap} {P b : Addr} {o : Obj} (e : (h.hide P).get? b = some o) : b ≠ P ∧ h.get? b = some o := by
  by_cases hb : b = P
  · rw [hb, Heap.hide_self] at e; cases e
  · exact ⟨hb, (Heap.hide_ne h hb).symm.trans e⟩
theorem hide_fr {h₁ h : Heap} {L P : Addr} {m : Str → Option Value} (F : Fr h₁ L h m) : Fr (h₁.hide P) L h m := ⟨F.ns, fun b o e => F.keep b o (of_hide1 e).2, Nat.le_trans (Nat.le_of_eq (Heap.hide_size _ _)) F.above⟩
theorem hide_news {h₁ h : Heap} {L P : Addr} {m : Str → Option Value} {o : Obj} {news : List (Addr × Obj)} (F : Fr h₁ L h m) (N : News h₁ L h news) (hP : h₁.get? P = some o) : News (h₁.hide P) L h ((P, o) :: news) := fun p hp => by
  rcases List.mem_cons.mp hp with rfl | hp
  · exact ⟨F.keep _ _ hP, Nat.ne_of_lt (Nat.lt_of_lt_of_le (Heap.lt_size hP) F.above), Heap.hide_self _ _⟩
  · refine ⟨(N p hp).1, (N p hp).2.1, ?_⟩
    cases q : (h₁.hide P).get? p.1 with
    | none => rfl
    | some o => have := (of_hide1 q).2; rw [(N p hp).2.2] at this; cases this
theorem hide_in {h : Heap} {P : Addr} {K : Frag} (X : K.In h) (hP : K.lookup P = none) : K.In (h.hide P) := fun a o e => (Heap.hide_ne h (fun z => by rw [z, hP] at e; cases e)).trans (X a o e)
theorem hide_list {h : Heap} {P a : Addr} {its ps : Array Value} (x : h.IsList a its) (hP : h.get? P = some (tabObj ps)) : (h.hide P).IsList a its := by
  obtain ⟨o, e, hc, r⟩ := x
  refine ⟨o, (Heap.hide_ne h (fun z => ?_)).trans e, hc, r⟩
  rw [z, hP] at e
  cases e
  cases hc
theorem heap753 (P : Params) : (heap P).lookup 753 = none := by kernel_rfl
/-- the law's statements and scope, taken out of its def -/
noncomputable def stOf (o : Obj) (i : Nat) : Option Stmt := match o.data with
  | .func fd => (match fd.body with
    | .stmts b => nthS b i
    | _ => none)
  | _ => none
noncomputable def scOf (o : Obj) : Option Scope := match o.data with
  | .func fd => some fd.scope
  | _ => none
noncomputable def lawScope : Scope := (⟨_, rfl⟩ : { x : Scope // scOf o781 = some x }).1
noncomputable def ls0 : Stmt := (⟨_, rfl⟩ : { x : Stmt // stOf o781 0 = some x }).1
noncomputable def ls1 : Stmt := (⟨_, rfl⟩ : { x : Stmt // stOf o781 1 = some x }).1
noncomputable def ls2 : Stmt := (⟨_, rfl⟩ : { x : Stmt // stOf o781 2 = some x }).1
noncomputable def ls3 : Stmt := (⟨_, rfl⟩ : { x : Stmt // stOf o781 3 = some x }).1
noncomputable def ls4 : Stmt := (⟨_, rfl⟩ : { x : Stmt // stOf o781 4 = some x }).1
noncomputable def ls5 : Stmt := (⟨_, rfl⟩ : { x : Stmt // stOf o781 5 = some x }).1
noncomputable def ls6 : Stmt := (⟨_, rfl⟩ : { x : Stmt // stOf o781 6 = some x }).1
noncomputable def ls7 : Stmt := (⟨_, rfl⟩ : { x : Stmt // stOf o781 7 = some x }).1
noncomputable def ls8 : Stmt := (⟨_, rfl⟩ : { x : Stmt // stOf o781 8 = some x }).1
noncomputable def ls9 : Stmt := (⟨_, rfl⟩ : { x : Stmt // stOf o781 9 = some x }).1
noncomputable def ls10 : Stmt := (⟨_, rfl⟩ : { x : Stmt // stOf o781 10 = some x }).1
noncomputable def ls11 : Stmt := (⟨_, rfl⟩ : { x : Stmt // stOf o781 11 = some x }).1
noncomputable abbrev lawE (L : Addr) : Env := envOfC "law" lawScope L 781 (.ref 780)
noncomputable abbrev lawA (L : Addr) : Around := callerA.deeper (lawE L)
theorem law_body : stOf o781 12 = none ∧ ∀ L, (match o781.data with | .func fd => (match fd.body with | .stmts b => execs b (lawE L) | _ => pure .next) | _ => pure .next) = execs [ls0, ls1, ls2, ls3, ls4, ls5, ls6, ls7, ls8, ls9, ls10, ls11] (lawE L) := ⟨rfl, fun _ => rfl⟩
end
section


theorem news_sub {h₀ h : Heap} {L : Addr} {l l' : List (Addr × Obj)} (N : News h₀ L h l) (e : ∀ p, p ∈ l' → p ∈ l) : News h₀ L h l' := fun p hp => N p (e p hp)
noncomputable def num4 (ns : List Int) : List Int := ns.take 4 ++ [2, 0, 1001, 101].drop (ns.take 4).length
theorem num4_len (ns : List Int) : (num4 ns).length = 4 := by
  unfold num4
  simp only [List.length_append, List.length_take, List.length_drop, List.length_cons, List.length_nil]
  omega
set_option maxHeartbeats 8000000 in
theorem ls0_ok {w : World} {mean : ExcName → Option Value} {mg mb : Str → Option Value} {H0 : Heap} {L S : Addr} {SV : List Value} {ns : List Int} {s : Shared} {Q : Flow → Shared → Prop} {E : Value → Shared → Prop} {news : List (Addr × Obj)}
    (X : (heap w.params).In H0) (T : Top VW LO mean mg mb H0) (F : Fr H0 L s.heap (fun y => if y = "script" then some (.ref S) else none)) (N : News H0 L s.heap news) (hS : H0.IsList S SV.toArray) (hI : IntsAre SV ns) (hlen : ns.length ≤ 63)
    (hQ : ∀ D nv c h' tk', IntsAre nv (num4 ns) → Fr H0 L h' (fun y => if y = "numbers" then some (.ref D) else if y = "script" then some (.ref S) else none) → News H0 L h' ((D, listOf nv.toArray c) :: news) → (∀ p ∈ news, p.1 < D) → Q .next { s with heap := h', toks := tk' }) :
    wpAny (model PRG w) (lawA L) (exec ls0 (lawE L)) Q E s := by
  have hSl := IntsAre.length hI
  have hSz : SV.toArray.size ≤ sizeLine := by rw [List.size_toArray, sizeLine_eq]; omega
  unfold ls0 lawA lawE lawScope
  dsimp only
  repeat' (first | (k_unfold; (try dsimp only)) | (k_end; wrow_close) | ((with_reducible show wpAny _ _ (binaryOp Operator.Add (Value.ref _) (Value.ref _)) _ _ _); walk1; (try dsimp only)) | (with_reducible ((with_reducible show wpAny _ _ (subscriptTail (PySem.Expr.List _ _) (PySem.Expr.Slice _ _ _ _) _ _) _ _ _); ((with_reducible show wpAny _ _ (subscriptTail _ (PySem.Expr.Slice _ _ none _) (Value.ref _) (Value.ref _)) _ _ _); k_dflt (refine' kmk_slice_ints ?hzF ?hzN ?hzl ?hzp ?hzq ?hzi ?hzm ?hzc ?_ ?hzs ?hzt ?hzz; (case hzF => k_asm); (case hzN => k_asm); (case hzl => is_list); (case hzp => first | exact IsPart.none | exact IsPart.int _ _); (case hzq => first | exact IsPart.none | exact IsPart.int _ _); (case hzi => l_ints); (case hzm => first | exact kmk_upto (by l_ints) (by omega) | exact kmk_from (by l_ints) (by omega)); (case hzc => exact rfl); (case hzs => with_unfolding_all rfl); (case hzt => (intro _; rfl)); (case hzz => size_fits)); intro _ _ _ _ _ _ _ _ _; (try dsimp only); (try k_fold)))) | (with_reducible ((with_reducible show wpAny _ _ (subscriptTail (PySem.Expr.Name _ _) (PySem.Expr.Slice _ _ _ _) _ _) _ _ _); ((with_reducible show wpAny _ _ (subscriptTail _ (PySem.Expr.Slice _ _ none _) (Value.ref _) (Value.ref _)) _ _ _); k_dflt (refine' kmk_slice_ints ?hzF ?hzN ?hzl ?hzp ?hzq ?hzi ?hzm ?hzc ?_ ?hzs ?hzt ?hzz; (case hzF => k_asm); (case hzN => k_asm); (case hzl => is_list); (case hzp => first | exact IsPart.none | exact IsPart.int _ _); (case hzq => first | exact IsPart.none | exact IsPart.int _ _); (case hzi => l_ints); (case hzm => first | exact kmk_upto (by l_ints) (by omega) | exact kmk_from (by l_ints) (by omega)); (case hzc => exact rfl); (case hzs => with_unfolding_all rfl); (case hzt => (intro _; rfl)); (case hzz => size_fits)); intro _ _ _ _ _ _ _ _ _; (try dsimp only); (try k_fold)))) | (with_reducible ((with_reducible show wpAny _ _ (inplaceOp Operator.Add (Value.str _ _) (Value.str (Str.mk #[_]) _)) _ _ _); refine iadd1 (by with_reducible assumption) ?_; intro _ _)) | (with_reducible ((with_reducible show wpAny _ _ (PySem.truthy (Value.str _ _)) _ _ _); refine truthy_yes (by with_reducible assumption) (by with_reducible assumption) ?_)) | (with_reducible ((with_reducible show wpAny _ _ (execs _ _) _ _ _); (first | k_gentoks | ((with_reducible refine execs_one ?_); try dsimp only)))) | (with_reducible (with_reducible refine wpAny_If ?_)) | (with_reducible (first | (refine ite_isFalse (by with_reducible assumption) ?_) | (refine ite_pos (by with_reducible assumption) ?_) | (refine ite_neg (by with_reducible assumption) ?_))) | walk1 | dsimp only | (dsimp only; walk1) | (leave1; (try dsimp only)) | fail "no step")
  rename IntsAre _ (_ ++ _) => hv
  rename Fr H0 L _ _ => F2
  rename News H0 L _ _ => N2
  rename (_ ∧ _) => l2
  exact hQ _ _ _ _ _ hv F2 (news_sub N2 (by
    rintro p (h | ⟨_, h⟩)
    · exact .head _
    · exact .tail _ (.tail _ (.tail _ (.tail _ (.tail _ h)))))) (fun p hp => allLt_lt l2.2.2.2.2 hp)
end
section
set_option maxHeartbeats 8000000 in
theorem ls1_ok {w : World} {mean : ExcName → Option Value} {mg mb : Str → Option Value} {H0 : Heap} {L S D : Addr} {n0 n1 n2 n3 : Int} {t0 t1 t2 t3 : Tok} {c : Nat} {oA oB oC op : Obj} {s : Shared} {Q : Flow → Shared → Prop} {E : Value → Shared → Prop} 
    (X : (heap w.params).In H0) (T : Top VW LO mean mg mb H0) (F : Fr H0 L s.heap (fun y => if y = "numbers" then some (.ref D) else if y = "script" then some (.ref S) else none)) (N : News H0 L s.heap [(D, listOf #[.int n0 t0, .int n1 t1, .int n2 t2, .int n3 t3] c), (753, op), (L + 1 + 1 + 1, oC), (L + 1 + 1, oB), (L + 1, oA)]) (dA : oA.data = .cell none) (hl : ∀ p ∈ [((753 : Addr), op), (L + 1 + 1 + 1, oC), (L + 1 + 1, oB), (L + 1, oA)], p.1 < D) (l753 : (753 : Nat) < L)
    (hQ : ∀ SA t oA' h' tk' c', oA'.data = .cell (some (.ref SA)) → Fr H0 L h' (fun y => if y = "numbers" then some (.ref D) else if y = "script" then some (.ref S) else none) → News H0 L h' [(SA, listOf #[.int (1 + Int.fmod n0 4) t] c'), (D, listOf #[.int n0 t0, .int n1 t1, .int n2 t2, .int n3 t3] c), (753, op), (L + 1 + 1 + 1, oC), (L + 1 + 1, oB), (L + 1, oA')] → D < SA → Q .next { s with heap := h', toks := tk' }) :
    wpAny (model PRG w) (lawA L) (exec ls1 (lawE L)) Q E s := by
  have hl1 := allLt_of hl
  dsimp only [AllLt] at hl1
  unfold ls1 lawA lawE lawScope
  dsimp only
  repeat' (first | (k_unfold; (try dsimp only)) | (k_end; wrow_close) | (with_reducible ((with_reducible show wpAny _ _ (inplaceOp Operator.Add (Value.str _ _) (Value.str (Str.mk #[_]) _)) _ _ _); refine iadd1 (by with_reducible assumption) ?_; intro _ _)) | (with_reducible ((with_reducible show wpAny _ _ (PySem.truthy (Value.str _ _)) _ _ _); refine truthy_yes (by with_reducible assumption) (by with_reducible assumption) ?_)) | (with_reducible ((with_reducible show wpAny _ _ (execs _ _) _ _ _); (first | k_gentoks | ((with_reducible refine execs_one ?_); try dsimp only)))) | (with_reducible (with_reducible refine wpAny_If ?_)) | (with_reducible (first | (refine ite_isFalse (by with_reducible assumption) ?_) | (refine ite_pos (by with_reducible assumption) ?_) | (refine ite_neg (by with_reducible assumption) ?_))) | walk1 | dsimp only | (dsimp only; walk1) | (leave1; (try dsimp only)) | fail "no step")
  rename Fr H0 L _ _ => F2
  rename News H0 L _ _ => N2
  rename (Obj.data _ = Data.cell (some _)) => d2
  rename (_ ∧ _) => l2
  exact hQ _ _ _ _ _ _ d2 F2 N2 l2.1
end
section
set_option maxHeartbeats 8000000 in
theorem ls2_ok {w : World} {mean : ExcName → Option Value} {mg mb : Str → Option Value} {H0 : Heap} {L S D SA : Addr} {s0 n0 n1 n2 n3 : Int} {t0 t1 t2 t3 u0 : Tok} {c c2 : Nat} {oA oB oC op : Obj} {s : Shared} {Q : Flow → Shared → Prop} {E : Value → Shared → Prop} 
    (X : (heap w.params).In H0) (T : Top VW LO mean mg mb H0) (F : Fr H0 L s.heap (fun y => if y = "numbers" then some (.ref D) else if y = "script" then some (.ref S) else none)) (N : News H0 L s.heap [(SA, listOf #[.int s0 u0] c2), (D, listOf #[.int n0 t0, .int n1 t1, .int n2 t2, .int n3 t3] c), (753, op), (L + 1 + 1 + 1, oC), (L + 1 + 1, oB), (L + 1, oA)]) (dA : oA.data = .cell (some (.ref SA))) (hl : ∀ p ∈ [((753 : Addr), op), (L + 1 + 1 + 1, oC), (L + 1 + 1, oB), (L + 1, oA)], p.1 < D) (lS : D < SA) (l753 : (753 : Nat) < L) (hs0 : 1 ≤ s0 ∧ s0 ≤ 4)
    (hQ : ∀ s1 u1 h' tk' c2', s1 = min 4 (s0 + Int.fmod n1 3) → Fr H0 L h' (fun y => if y = "numbers" then some (.ref D) else if y = "script" then some (.ref S) else none) → News H0 L h' [(SA, listOf #[.int s0 u0, .int s1 u1] c2'), (D, listOf #[.int n0 t0, .int n1 t1, .int n2 t2, .int n3 t3] c), (753, op), (L + 1 + 1 + 1, oC), (L + 1 + 1, oB), (L + 1, oA)] → Q .next { s with heap := h', toks := tk' }) :
    wpAny (model PRG w) (lawA L) (exec ls2 (lawE L)) Q E s := by
  have hl1 := allLt_of hl
  dsimp only [AllLt] at hl1
  have lS' : @LT.lt Nat _ D SA := lS
  unfold ls2 lawA lawE lawScope
  dsimp only
  repeat' (first | (k_unfold; (try dsimp only)) | (k_end; wrow_close) | (with_reducible ((with_reducible show wpAny _ _ (inplaceOp Operator.Add (Value.str _ _) (Value.str (Str.mk #[_]) _)) _ _ _); refine iadd1 (by with_reducible assumption) ?_; intro _ _)) | (with_reducible ((with_reducible show wpAny _ _ (PySem.truthy (Value.str _ _)) _ _ _); refine truthy_yes (by with_reducible assumption) (by with_reducible assumption) ?_)) | (with_reducible ((with_reducible show wpAny _ _ (execs _ _) _ _ _); (first | k_gentoks | ((with_reducible refine execs_one ?_); try dsimp only)))) | (with_reducible (with_reducible refine wpAny_If ?_)) | (with_reducible (first | (refine ite_isFalse (by with_reducible assumption) ?_) | (refine ite_pos (by with_reducible assumption) ?_) | (refine ite_neg (by with_reducible assumption) ?_))) | walk1 | dsimp only | (dsimp only; walk1) | (leave1; (try dsimp only)) | fail "no step")
  rename Fr H0 L _ _ => F2
  rename News H0 L _ _ => N2
  have e1 : (if s0 + Int.fmod n1 3 < 4 then s0 + Int.fmod n1 3 else 4) = min 4 (s0 + Int.fmod n1 3) := by split <;> omega
  exact hQ _ _ _ _ _ e1 F2 N2
end
section
set_option maxHeartbeats 8000000 in
theorem ls3_ok {w : World} {mean : ExcName → Option Value} {mg mb : Str → Option Value} {H0 : Heap} {L S D SA : Addr} {s0 s1 n0 n1 n2 n3 : Int} {t0 t1 t2 t3 u0 u1 : Tok} {c c2 : Nat} {oA oB oC op : Obj} {s : Shared} {Q : Flow → Shared → Prop} {E : Value → Shared → Prop} 
    (X : (heap w.params).In H0) (T : Top VW LO mean mg mb H0) (F : Fr H0 L s.heap (fun y => if y = "numbers" then some (.ref D) else if y = "script" then some (.ref S) else none)) (N : News H0 L s.heap [(SA, listOf #[.int s0 u0, .int s1 u1] c2), (D, listOf #[.int n0 t0, .int n1 t1, .int n2 t2, .int n3 t3] c), (753, op), (L + 1 + 1 + 1, oC), (L + 1 + 1, oB), (L + 1, oA)]) (dA : oA.data = .cell (some (.ref SA))) (hl : ∀ p ∈ [((753 : Addr), op), (L + 1 + 1 + 1, oC), (L + 1 + 1, oB), (L + 1, oA)], p.1 < D) (lS : D < SA) (l753 : (753 : Nat) < L) (hs1 : 1 ≤ s1 ∧ s1 ≤ 4)
    (hQ : ∀ s2 u2 h' tk' c2', s2 = min 4 (s1 + Int.fmod (Int.fdiv n1 3) 3) → Fr H0 L h' (fun y => if y = "numbers" then some (.ref D) else if y = "script" then some (.ref S) else none) → News H0 L h' [(SA, listOf #[.int s0 u0, .int s1 u1, .int s2 u2] c2'), (D, listOf #[.int n0 t0, .int n1 t1, .int n2 t2, .int n3 t3] c), (753, op), (L + 1 + 1 + 1, oC), (L + 1 + 1, oB), (L + 1, oA)] → Q .next { s with heap := h', toks := tk' }) :
    wpAny (model PRG w) (lawA L) (exec ls3 (lawE L)) Q E s := by
  have hl1 := allLt_of hl
  dsimp only [AllLt] at hl1
  have lS' : @LT.lt Nat _ D SA := lS
  unfold ls3 lawA lawE lawScope
  dsimp only
  repeat' (first | (k_unfold; (try dsimp only)) | (k_end; wrow_close) | (with_reducible ((with_reducible show wpAny _ _ (inplaceOp Operator.Add (Value.str _ _) (Value.str (Str.mk #[_]) _)) _ _ _); refine iadd1 (by with_reducible assumption) ?_; intro _ _)) | (with_reducible ((with_reducible show wpAny _ _ (PySem.truthy (Value.str _ _)) _ _ _); refine truthy_yes (by with_reducible assumption) (by with_reducible assumption) ?_)) | (with_reducible ((with_reducible show wpAny _ _ (execs _ _) _ _ _); (first | k_gentoks | ((with_reducible refine execs_one ?_); try dsimp only)))) | (with_reducible (with_reducible refine wpAny_If ?_)) | (with_reducible (first | (refine ite_isFalse (by with_reducible assumption) ?_) | (refine ite_pos (by with_reducible assumption) ?_) | (refine ite_neg (by with_reducible assumption) ?_))) | walk1 | dsimp only | (dsimp only; walk1) | (leave1; (try dsimp only)) | fail "no step")
  rename Fr H0 L _ _ => F2
  rename News H0 L _ _ => N2
  have e1 : (if s1 + Int.fmod (Int.fdiv n1 3) 3 < 4 then s1 + Int.fmod (Int.fdiv n1 3) 3 else 4) = min 4 (s1 + Int.fmod (Int.fdiv n1 3) 3) := by split <;> omega
  exact hQ _ _ _ _ _ e1 F2 N2
end
section
theorem four_get {a b c d : Value} {k : Int} (h0 : 0 ≤ k) (h4 : k < 4) : ([a, b, c, d] : List Value)[k.toNat]? = some (if k = 0 then a else if k = 1 then b else if k = 2 then c else d) := by
  have : k = 0 ∨ k = 1 ∨ k = 2 ∨ k = 3 := by omega
  rcases this with rfl | rfl | rfl | rfl <;> rfl

noncomputable def endsOf (k : Int) : List Int := if k = 0 then [0] else if k = 1 then [] else if k = 2 then [127, 1] else [0, 3]
set_option maxHeartbeats 8000000 in
theorem ls4_ok {w : World} {mean : ExcName → Option Value} {mg mb : Str → Option Value} {H0 : Heap} {L S D : Addr} {n0 n1 n2 n3 : Int} {t0 t1 t2 t3 : Tok} {c : Nat} {s : Shared} {Q : Flow → Shared → Prop} {E : Value → Shared → Prop} {news : List (Addr × Obj)}
    (X : (heap w.params).In H0) (T : Top VW LO mean mg mb H0) (F : Fr H0 L s.heap (fun y => if y = "numbers" then some (.ref D) else if y = "script" then some (.ref S) else none)) (N : News H0 L s.heap ((D, listOf #[.int n0 t0, .int n1 t1, .int n2 t2, .int n3 t3] c) :: news)) 
    (hQ : ∀ EA ev c' h' tk', IntsAre ev (endsOf (Int.fmod (Int.fdiv n0 4) 4)) → Fr H0 L h' (fun y => if y = "ending" then some (.ref EA) else if y = "numbers" then some (.ref D) else if y = "script" then some (.ref S) else none) → News H0 L h' ((EA, listOf ev.toArray c') :: (D, listOf #[.int n0 t0, .int n1 t1, .int n2 t2, .int n3 t3] c) :: news) → (∀ p ∈ (D, listOf #[.int n0 t0, .int n1 t1, .int n2 t2, .int n3 t3] c) :: news, p.1 < EA) → Q .next { s with heap := h', toks := tk' }) :
    wpAny (model PRG w) (lawA L) (exec ls4 (lawE L)) Q E s := by
  have hr : 0 ≤ Int.fmod (Int.fdiv ([n0, n1, n2, n3].getD (Int.toNat 0) 0) 4) 4 ∧ Int.fmod (Int.fdiv ([n0, n1, n2, n3].getD (Int.toNat 0) 0) 4) 4 < 4 := ⟨Int.fmod_nonneg_of_pos _ (by decide), Int.fmod_lt_of_pos _ (by decide)⟩
  unfold ls4 lawA lawE lawScope
  dsimp only
  repeat' (first | (k_unfold; (try dsimp only)) | (k_end; wrow_close) | (with_reducible ((with_reducible show wpAny _ _ (subscriptTail (PySem.Expr.Name _ _) (PySem.Expr.BinOp _ _ _ _) _ _) _ _ _); ((with_reducible show wpAny _ _ (subscriptTail _ _ (Value.ref _) (Value.int _ _)) _ _ _); k_dflt (refine' item_l ?hzk1 ?hzk2 ?hzk3 ?hzk4 ?_ ?hzk6; (case hzk1 => is_list); (case hzk4 => exact four_get (by omega) (by omega)); (case hzk2 => omega); (case hzk3 => omega); (case hzk6 => with_unfolding_all rfl); k_whole)))) | (with_reducible ((with_reducible show wpAny _ _ (inplaceOp Operator.Add (Value.str _ _) (Value.str (Str.mk #[_]) _)) _ _ _); refine iadd1 (by with_reducible assumption) ?_; intro _ _)) | (with_reducible ((with_reducible show wpAny _ _ (PySem.truthy (Value.str _ _)) _ _ _); refine truthy_yes (by with_reducible assumption) (by with_reducible assumption) ?_)) | (with_reducible ((with_reducible show wpAny _ _ (execs _ _) _ _ _); (first | k_gentoks | ((with_reducible refine execs_one ?_); try dsimp only)))) | (with_reducible (with_reducible refine wpAny_If ?_)) | (with_reducible (first | (refine ite_isFalse (by with_reducible assumption) ?_) | (refine ite_pos (by with_reducible assumption) ?_) | (refine ite_neg (by with_reducible assumption) ?_))) | walk1 | dsimp only | (dsimp only; walk1) | (leave1; (try dsimp only)) | fail "no step")
  rename_i a4 g4 q4 a3 g3 q3 a2 g2 q2 a1 g1 q1 a0 g0 q0 t9 g F2 N2
  replace hr : 0 ≤ Int.fmod (Int.fdiv n0 4) 4 ∧ Int.fmod (Int.fdiv n0 4) 4 < 4 := hr
  replace F2 : Fr H0 L g (fun y => if y = "ending" then some (if Int.fmod (Int.fdiv n0 4) 4 = 0 then .ref a4 else if Int.fmod (Int.fdiv n0 4) 4 = 1 then .ref a3 else if Int.fmod (Int.fdiv n0 4) 4 = 2 then .ref a2 else .ref a1) else if y = "numbers" then some (.ref D) else if y = "script" then some (.ref S) else none) := F2
  generalize Int.fmod (Int.fdiv n0 4) 4 = k at *
  have lt : ∀ {e : Addr}, D < e → AllLt e news → ∀ p ∈ (D, listOf #[.int n0 t0, .int n1 t1, .int n2 t2, .int n3 t3] c) :: news, p.1 < e := fun {e} h1 h2 p hp => by
    rcases List.mem_cons.mp hp with rfl | hp
    · exact h1
    · exact allLt_lt h2 hp
  have hk : k = 0 ∨ k = 1 ∨ k = 2 ∨ k = 3 := by omega
  rcases hk with rfl | rfl | rfl | rfl
  · exact hQ a4 [.int 0 s.toks] 0 g _ (.cons _ _ .nil) F2 (news_sub N2 fun p hp => .tail _ (.tail _ (.tail _ (.tail _ hp)))) (lt q4.1 q4.2)
  · exact hQ a3 [] 0 g _ .nil F2 (news_sub N2 fun p hp => .tail _ (.tail _ (.tail _ (by
      rcases List.mem_cons.mp hp with rfl | hp
      · exact .head _
      · exact .tail _ (.tail _ hp))))) (lt q3.2.1 q3.2.2)
  · exact hQ a2 [.int 127 (s.toks + 1), .int 1 (s.toks + 1 + 1)] 0 g _ (.cons _ _ (.cons _ _ .nil)) F2 (news_sub N2 fun p hp => .tail _ (.tail _ (by
      rcases List.mem_cons.mp hp with rfl | hp
      · exact .head _
      · exact .tail _ (.tail _ (.tail _ hp))))) (lt q2.2.2.1 q2.2.2.2)
  · exact hQ a1 [.int 0 (s.toks + 1 + 1 + 1), .int 3 (s.toks + 1 + 1 + 1 + 1)] 0 g _ (.cons _ _ (.cons _ _ .nil)) F2 (news_sub N2 fun p hp => .tail _ (by
      rcases List.mem_cons.mp hp with rfl | hp
      · exact .head _
      · exact .tail _ (.tail _ (.tail _ (.tail _ hp))))) (lt q1.2.2.2.1 q1.2.2.2.2)
end
section
noncomputable def forB : Stmt → Option (List Stmt)
  | .For _ _ b _ _ => some b
  | _ => none
noncomputable def ls6B : List Stmt := (⟨_, rfl⟩ : { x : List Stmt // forB ls6 = some x }).1
noncomputable def forT : Stmt → Option PySem.Expr
  | .For t _ _ _ _ => some t
  | _ => none
noncomputable def ls6T : PySem.Expr := (⟨_, rfl⟩ : { x : PySem.Expr // forT ls6 = some x }).1
set_option maxHeartbeats 8000000 in
theorem ls5_ok {w : World} {mean : ExcName → Option Value} {mg mb : Str → Option Value} {H0 : Heap} {L S D EA : Addr} {s : Shared} {Q : Flow → Shared → Prop} {E : Value → Shared → Prop} {news : List (Addr × Obj)}
    (X : (heap w.params).In H0) (T : Top VW LO mean mg mb H0) (F : Fr H0 L s.heap (fun y => if y = "ending" then some (.ref EA) else if y = "numbers" then some (.ref D) else if y = "script" then some (.ref S) else none)) (N : News H0 L s.heap news) 
    (hQ : ∀ TA c' h' tk', Fr H0 L h' (fun y => if y = "told" then some (.ref TA) else if y = "ending" then some (.ref EA) else if y = "numbers" then some (.ref D) else if y = "script" then some (.ref S) else none) → News H0 L h' ((TA, listOf #[] c') :: news) → (∀ p ∈ news, p.1 < TA) → Q .next { s with heap := h', toks := tk' }) :
    wpAny (model PRG w) (lawA L) (exec ls5 (lawE L)) Q E s := by
  unfold ls5 lawA lawE lawScope
  dsimp only
  repeat' (first | (k_unfold; (try dsimp only)) | (k_end; wrow_close) | (with_reducible ((with_reducible show wpAny _ _ (inplaceOp Operator.Add (Value.str _ _) (Value.str (Str.mk #[_]) _)) _ _ _); refine iadd1 (by with_reducible assumption) ?_; intro _ _)) | (with_reducible ((with_reducible show wpAny _ _ (PySem.truthy (Value.str _ _)) _ _ _); refine truthy_yes (by with_reducible assumption) (by with_reducible assumption) ?_)) | (with_reducible ((with_reducible show wpAny _ _ (execs _ _) _ _ _); (first | k_gentoks | ((with_reducible refine execs_one ?_); try dsimp only)))) | (with_reducible (with_reducible refine wpAny_If ?_)) | (with_reducible (first | (refine ite_isFalse (by with_reducible assumption) ?_) | (refine ite_pos (by with_reducible assumption) ?_) | (refine ite_neg (by with_reducible assumption) ?_))) | walk1 | dsimp only | (dsimp only; walk1) | (leave1; (try dsimp only)) | fail "no step")
  rename_i a4 g4 q4 g F2 N2
  exact hQ a4 0 g _ F2 N2 q4

set_option maxHeartbeats 8000000 in
theorem ls6_turn {w : World} {mean : ExcName → Option Value} {mg mb : Str → Option Value} {H0 : Heap} {L S D EA TA : Addr} {j : Option Value} {s : Shared} {Q : Flow → Shared → Prop} {news : List (Addr × Obj)} {tv : List Value} {cT : Nat} {x : Int} {t : Tok}
    (X : (heap w.params).In H0) (T : Top VW LO mean mg mb H0) (F : Fr H0 L s.heap (fun y => if y = "size" then j else if y = "told" then some (.ref TA) else if y = "ending" then some (.ref EA) else if y = "numbers" then some (.ref D) else if y = "script" then some (.ref S) else none)) (N : News H0 L s.heap ((TA, listOf tv.toArray cT) :: news)) (hne : ∀ p ∈ news, p.1 ≠ TA) (hl : tv.length ≤ 3)
    (hnx : tv.length + 1 ≠ 4 → ∀ c' h' tk', Fr H0 L h' (fun y => if y = "size" then some (.int x t) else if y = "told" then some (.ref TA) else if y = "ending" then some (.ref EA) else if y = "numbers" then some (.ref D) else if y = "script" then some (.ref S) else none) → News H0 L h' ((TA, listOf (List.toArray (tv ++ [Value.int x t])) c') :: news) → Q .next { s with heap := h', toks := tk' })
    (hbk : tv.length + 1 = 4 → ∀ c' h' tk', Fr H0 L h' (fun y => if y = "size" then some (.int x t) else if y = "told" then some (.ref TA) else if y = "ending" then some (.ref EA) else if y = "numbers" then some (.ref D) else if y = "script" then some (.ref S) else none) → News H0 L h' ((TA, listOf (List.toArray (tv ++ [Value.int x t])) c') :: news) → Q .brk { s with heap := h', toks := tk' }) :
    wpAny (model PRG w) (lawA L) (assign ls6T (lawE L) (.int x t)) (fun _ s₂ => wpAny (model PRG w) (lawA L) (execs ls6B (lawE L)) Q (fun _ _ => False) s₂) (fun _ _ => False) s := by
  have hl4 : (tv ++ [Value.int x t]).length = tv.length + 1 := by simp
  have hl5 : ((List.toArray (tv ++ [Value.int x t])).size : Int) < 2 ^ 63 := by rw [List.size_toArray, hl4]; omega
  unfold ls6T ls6B lawA lawE lawScope
  dsimp only
  repeat' (first | (k_unfold; (try dsimp only)) | (k_end; wrow_close) | (with_reducible ((with_reducible show wpAny _ _ (call (Value.builtin "len") [Value.ref _]) _ _ _); k_dflt (refine' len_list ?hzk1 ?hzk2 ?_; (case hzk1 => exact (news_isList (by k_asm) (.head _))); (case hzk2 => with_reducible assumption); k_whole))) | (with_reducible ((with_reducible show wpAny _ _ (inplaceOp Operator.Add (Value.str _ _) (Value.str (Str.mk #[_]) _)) _ _ _); refine iadd1 (by with_reducible assumption) ?_; intro _ _)) | (with_reducible ((with_reducible show wpAny _ _ (PySem.truthy (Value.str _ _)) _ _ _); refine truthy_yes (by with_reducible assumption) (by with_reducible assumption) ?_)) | (with_reducible ((with_reducible show wpAny _ _ (execs _ _) _ _ _); (first | k_gentoks | ((with_reducible refine execs_one ?_); try dsimp only)))) | (with_reducible (with_reducible refine wpAny_If ?_)) | (with_reducible (first | (refine ite_isFalse (by with_reducible assumption) ?_) | (refine ite_pos (by with_reducible assumption) ?_) | (refine ite_neg (by with_reducible assumption) ?_))) | walk1 | dsimp only | (dsimp only; walk1) | (leave1; (try dsimp only)) | fail "no step")
  all_goals (rename Fr H0 L _ _ => F2)
  all_goals (rename News H0 L _ _ => N2)
  · rename (_ = (4 : Int)) => e4
    exact hbk (by rw [List.size_toArray, hl4] at e4; omega) _ _ _ (Fr.re F2 loc_upd) N2
  · rename (_ ≠ (4 : Int)) => e4
    exact hnx (fun e => e4 (by rw [List.size_toArray, hl4, e]; rfl)) _ _ _ (Fr.re F2 loc_upd) N2
end
section
theorem mem5_to {α : Type} {p a b c d t : α} {r : List α} (h : p ∈ t :: a :: b :: c :: d :: r) : p ∈ a :: b :: c :: d :: t :: r :=
  (fa_c me4 (fa_c me0 (fa_c me1 (fa_c me2 (fa_c me3 (fun _ h => mt5 h))))) : ∀ u9 ∈ t :: a :: b :: c :: d :: r, u9 ∈ a :: b :: c :: d :: t :: r) p h
theorem mem5_from {α : Type} {p a b c d t : α} {r : List α} (h : p ∈ a :: b :: c :: d :: t :: r) : p ∈ t :: a :: b :: c :: d :: r :=
  (fa_c me1 (fa_c me2 (fa_c me3 (fa_c me4 (fa_c me0 (fun _ h => mt5 h))))) : ∀ u9 ∈ a :: b :: c :: d :: t :: r, u9 ∈ t :: a :: b :: c :: d :: r) p h
theorem mem5_cut {α : Type} {p a b c d t : α} {r : List α} (h : p ∈ t :: r) : p ∈ t :: a :: b :: c :: d :: r :=
  (fa_c me0 (fun _ h => mt5 h) : ∀ u9 ∈ t :: r, u9 ∈ t :: a :: b :: c :: d :: r) p h
theorem mem4_in {α : Type} {p a c t : α} {r : List α} (h : p ∈ c :: t :: r) : p ∈ a :: c :: t :: r := List.mem_cons_of_mem _ h
inductive SGi (s : Shared) (w : World) (H0 : Heap) (L S D EA TA SA a C GL : Addr) (oC oL oA : Obj) (gs : GenState) (ys : List Int) (fin : Bool) (nm qn : Value) (ev : List Value) (cE cS : Nat) (s0 s1 s2 : Int) (u0 u1 u2 : Tok) (news : List (Addr × Obj)) (n : Nat) (s' : Shared) : Prop
  | mk (k : Nat) (h' : Heap) (tk' : Nat) (gens' : Array GenState) (tv : List Value) (cT' : Nat) (j : Option Value) (_ : n + k = 4) (_ : k ≤ 3) (_ : s' = { s with heap := h', toks := tk', gens := gens' }) (_ : AllBare gens') (_ : Fr H0 L h' (fun y => if y = "size" then j else if y = "told" then some (.ref TA) else if y = "ending" then some (.ref EA) else if y = "numbers" then some (.ref D) else if y = "script" then some (.ref S) else none)) (_ : IntsAre tv (ys.take k)) (_ : ((k = 0 ∧ News H0 L h' ((a, genObj s.gens.size nm qn) :: (C, oC) :: (GL, oL) :: (TA, listOf (List.toArray tv) cT') :: (EA, listOf ev.toArray cE) :: (SA, listOf #[.int s0 u0, .int s1 u1, .int s2 u2] cS) :: (L + 1, oA) :: news) ∧ gens'[s.gens.size]? = some gs) ∨ (∃ IT oC' oI', 1 ≤ k ∧ News H0 L h' ((a, genObj s.gens.size nm qn) :: (C, oC') :: (IT, oI') :: (GL, oL) :: (TA, listOf (List.toArray tv) cT') :: (EA, listOf ev.toArray cE) :: (SA, listOf #[.int s0 u0, .int s1 u1, .int s2 u2] cS) :: (L + 1, oA) :: news) ∧ (∀ p ∈ (a, genObj s.gens.size nm qn) :: (GL, oL) :: (TA, listOf (List.toArray tv) cT') :: (EA, listOf ev.toArray cE) :: (SA, listOf #[.int s0 u0, .int s1 u1, .int s2 u2] cS) :: (L + 1, oA) :: news, p.1 ≠ C ∧ p.1 ≠ IT) ∧ GenSt w (lawA L) H0 C IT GL oL ys fin (4 - k) s.gens.size oC' oI' gens')))
inductive SGj (s : Shared) (w : World) (H0 : Heap) (L S D EA TA SA a C GL : Addr) (oC oL oA : Obj) (gs : GenState) (ys : List Int) (fin : Bool) (nm qn : Value) (ev : List Value) (cE cS : Nat) (s0 s1 s2 : Int) (u0 u1 u2 : Tok) (news : List (Addr × Obj)) (s' : Shared) : Prop
  | mk (h' : Heap) (tk' : Nat) (gens' : Array GenState) (tv : List Value) (cT' : Nat) (j : Option Value) (_ : s' = { s with heap := h', toks := tk', gens := gens' }) (_ : IntsAre tv ys) (_ : AllBare gens') (_ : Fr H0 L h' (fun y => if y = "size" then j else if y = "told" then some (.ref TA) else if y = "ending" then some (.ref EA) else if y = "numbers" then some (.ref D) else if y = "script" then some (.ref S) else none)) (_ : News H0 L h' ((TA, listOf (List.toArray tv) cT') :: (EA, listOf ev.toArray cE) :: (SA, listOf #[.int s0 u0, .int s1 u1, .int s2 u2] cS) :: (L + 1, oA) :: news))
set_option maxHeartbeats 8000000 in
theorem ls6_ok {w : World} {mean : ExcName → Option Value} {mg mb : Str → Option Value} {H0 : Heap} {L S D EA TA SA : Addr} {s : Shared} {Q : Flow → Shared → Prop} {E : Value → Shared → Prop} {news : List (Addr × Obj)} {ev : List Value} {e ys : List Int} {fin : Bool} {s0 s1 s2 : Int} {u0 u1 u2 : Tok} {cT cE cS : Nat} {oA : Obj}
    (X : (heap w.params).In H0) (T : Top VW LO mean mg mb H0) (F : Fr H0 L s.heap (fun y => if y = "told" then some (.ref TA) else if y = "ending" then some (.ref EA) else if y = "numbers" then some (.ref D) else if y = "script" then some (.ref S) else none)) (N : News H0 L s.heap ((TA, listOf #[] cT) :: (EA, listOf ev.toArray cE) :: (SA, listOf #[.int s0 u0, .int s1 u1, .int s2 u2] cS) :: (L + 1, oA) :: news)) (dA : oA.data = .cell (some (.ref SA))) (hE : IntsAre ev e) (hEl : e.length ≤ 2) (G : AllBare s.gens) (hT : Told ([s0, s1, s2] ++ e) ys fin)
    (hne : ∀ p ∈ (EA, listOf ev.toArray cE) :: (SA, listOf #[.int s0 u0, .int s1 u1, .int s2 u2] cS) :: (L + 1, oA) :: news, p.1 < TA)
    (hQ : ∀ tv cT' j h' tk' gens', IntsAre tv ys → AllBare gens' → Fr H0 L h' (fun y => if y = "size" then j else if y = "told" then some (.ref TA) else if y = "ending" then some (.ref EA) else if y = "numbers" then some (.ref D) else if y = "script" then some (.ref S) else none) → News H0 L h' ((TA, listOf tv.toArray cT') :: (EA, listOf ev.toArray cE) :: (SA, listOf #[.int s0 u0, .int s1 u1, .int s2 u2] cS) :: (L + 1, oA) :: news) → Q .next { s with heap := h', toks := tk', gens := gens' }) :
    wpAny (model PRG w) (lawA L) (exec ls6 (lawE L)) Q E s := by
  have hEv := IntsAre.length hE
  have hne' := allLt_of hne
  dsimp only [AllLt] at hne'
  have hsz : ev.toArray.size ≤ sizeLine := by rw [List.size_toArray, sizeLine_eq]; omega
  unfold ls6
  unfold lawA lawE lawScope
  dsimp only
  refine wpAny_For ?_
  repeat' ((fail_if_success (with_reducible show wpAny _ _ (call (Value.ref 51) _) _ _ _)); first | (k_unfold; (try dsimp only)) | (k_end; wrow_close) | ((with_reducible show wpAny _ _ (binaryOp Operator.Add (Value.ref _) (Value.ref _)) _ _ _); walk1; (try dsimp only)) | (with_reducible ((with_reducible show wpAny _ _ (inplaceOp Operator.Add (Value.str _ _) (Value.str (Str.mk #[_]) _)) _ _ _); refine iadd1 (by with_reducible assumption) ?_; intro _ _)) | (with_reducible ((with_reducible show wpAny _ _ (PySem.truthy (Value.str _ _)) _ _ _); refine truthy_yes (by with_reducible assumption) (by with_reducible assumption) ?_)) | (with_reducible ((with_reducible show wpAny _ _ (execs _ _) _ _ _); (first | k_gentoks | ((with_reducible refine execs_one ?_); try dsimp only)))) | (with_reducible (with_reducible refine wpAny_If ?_)) | (with_reducible (first | (refine ite_isFalse (by with_reducible assumption) ?_) | (refine ite_pos (by with_reducible assumption) ?_) | (refine ite_neg (by with_reducible assumption) ?_))) | walk1 | dsimp only | (dsimp only; walk1) | (leave1; (try dsimp only)) | fail "no step")
  rename_i GL gv g1 F1 N1 hv l1
  obtain ⟨lG1, lG2, lG3, lG4, lG5⟩ := l1
  have hys : ys.length = (if fin = true then 3 else 4) := by
    obtain ⟨x0, x1, x2, r, _, _, _, _, ⟨e1, e2, _⟩ | ⟨e1, e2, _⟩⟩ := hT
    · rw [e1, e2]; rfl
    · rw [e1, e2]; rfl
  have hys3 : 3 ≤ ys.length := by rw [hys]; split <;> omega
  refine grp_call (fin := fin) (ys := ys) rfl (by ktr_room) X T F1 N1 hv hT ?_
  intro a C oC h2 tk2 gs nm qn hb F2 N2 hac hne2 hgo
  dsimp only at hgo N2 ⊢
  refine wpAny_pyIter_gen (g := s.gens.size) ⟨_, _, _, (N2 _ (.head _)).1, rfl, rfl, rfl⟩ ?_
  generalize hgo' : (listOf gv.toArray 0) = oL at *
  clear hgo'
  have cont : ∀ (n k : Nat) (I : Nat → Shared → Prop) (J : Shared → Prop) (IT : Addr) (oC' oI' : Obj) (t : Tok) (h' : Heap) (tk' : Nat) (gens' : Array GenState) (tv : List Value) (cT' : Nat) (j : Option Value), n + k = 4 → k ≤ 3 → IntsAre tv (ys.take k) → AllBare gens' →
      Fr H0 L h' (fun y => if y = "size" then j else if y = "told" then some (.ref TA) else if y = "ending" then some (.ref EA) else if y = "numbers" then some (.ref D) else if y = "script" then some (.ref S) else none) → News H0 L h' ((a, genObj s.gens.size nm qn) :: (C, oC') :: (IT, oI') :: (GL, oL) :: (TA, listOf tv.toArray cT') :: (EA, listOf ev.toArray cE) :: (SA, listOf #[.int s0 u0, .int s1 u1, .int s2 u2] cS) :: (L + 1, oA) :: news) → IT ≠ TA →
      (3 - k ≠ 0 → GenSt w (lawA L) H0 C IT GL oL ys fin (3 - k) s.gens.size oC' oI' gens') → (3 - k = 0 → fin = false) →
      (∀ h' tk' tv cT' j, k + 1 ≤ 3 → IntsAre tv (ys.take (k + 1)) → Fr H0 L h' (fun y => if y = "size" then j else if y = "told" then some (.ref TA) else if y = "ending" then some (.ref EA) else if y = "numbers" then some (.ref D) else if y = "script" then some (.ref S) else none) → News H0 L h' ((a, genObj s.gens.size nm qn) :: (C, oC') :: (IT, oI') :: (GL, oL) :: (TA, listOf (List.toArray tv) cT') :: (EA, listOf ev.toArray cE) :: (SA, listOf #[.int s0 u0, .int s1 u1, .int s2 u2] cS) :: (L + 1, oA) :: news) → Less I n { s with heap := h', toks := tk', gens := gens' }) →
      (∀ h' tk' tv cT' j, IntsAre tv ys → Fr H0 L h' (fun y => if y = "size" then j else if y = "told" then some (.ref TA) else if y = "ending" then some (.ref EA) else if y = "numbers" then some (.ref D) else if y = "script" then some (.ref S) else none) → News H0 L h' ((TA, listOf (List.toArray tv) cT') :: (EA, listOf ev.toArray cE) :: (SA, listOf #[.int s0 u0, .int s1 u1, .int s2 u2] cS) :: (L + 1, oA) :: news) → Held J { s with heap := h', toks := tk', gens := gens' }) →
      wpAny (model PRG w) (lawA L) (assign ls6T (lawE L) (.int (ys.getD k 0) t)) (fun _ s₂ => wpAny (model PRG w) (lawA L) (execs ls6B (lawE L)) (fun f s₃ => match f with | .next => Less I n s₃ | .cont => Less I n s₃ | .brk => Held J s₃ | .ret _ => False) (fun _ _ => False) s₂) (fun _ _ => False) { s with heap := h', toks := tk', gens := gens' } := by
    intro n k I J IT oC' oI' t h' tk' gens' tv cT' j hn hk hv' hG F' N' nIT hJ hf hnx hbk
    have hvl := IntsAre.length hv'
    rw [List.length_take, Nat.min_eq_left (by omega)] at hvl
    have nT : ∀ p ∈ (EA, listOf ev.toArray cE) :: (SA, listOf #[.int s0 u0, .int s1 u1, .int s2 u2] cS) :: (L + 1, oA) :: news, p.1 ≠ TA := fun p hp => Nat.ne_of_lt (hne p hp)
    have nC : C ≠ TA := fun q => (hne2 _ (.tail _ (.head _))).2 q.symm
    have nA : a ≠ TA := fun q => (hne2 _ (.tail _ (.head _))).1 q.symm
    have nG : GL ≠ TA := (Nat.ne_of_lt lG1).symm
    refine ls6_turn (tv := tv) (cT := cT') (news := (a, genObj s.gens.size nm qn) :: (C, oC') :: (IT, oI') :: (GL, oL) :: (EA, listOf ev.toArray cE) :: (SA, listOf #[.int s0 u0, .int s1 u1, .int s2 u2] cS) :: (L + 1, oA) :: news) X T F' (news_sub N' fun p hp => mem5_to hp) (fun p hp => by
      rcases List.mem_cons.mp hp with rfl | hp
      · exact nA
      rcases List.mem_cons.mp hp with rfl | hp
      · exact nC
      rcases List.mem_cons.mp hp with rfl | hp
      · exact nIT
      rcases List.mem_cons.mp hp with rfl | hp
      · exact nG
      exact nT p hp) (by omega) (fun h4 c' h'' tk'' F'' N'' => ?_) (fun h4 c' h'' tk'' F'' N'' => ?_)
    · refine hnx h'' tk'' _ c' _ (by omega) ?_ F'' (news_sub N'' fun p hp => mem5_from hp)
      rw [take_snoc (by omega)]
      exact ints_snoc hv'
    · have hk3 : k = 3 := by omega
      subst hk3
      have hff := hf rfl
      rw [hff] at hys
      refine hbk h'' tk'' _ c' _ ?_ F'' (news_sub N'' fun p hp => mem5_cut hp)
      have e3 : ys.take 3 ++ [ys.getD 3 0] = ys := by
        rw [← take_snoc (by rw [hys]; decide), List.take_of_length_le (by rw [hys]; decide)]
      have := ints_snoc (x := ys.getD 3 0) (t := t) hv'
      rw [e3] at this
      exact this
  refine for_inv (SGi s w H0 L S D EA TA SA a C GL oC oL oA gs ys fin nm qn ev cE cS s0 s1 s2 u0 u1 u2 news) (SGj s w H0 L S D EA TA SA a C GL oC oL oA gs ys fin nm qn ev cE cS s0 s1 s2 u0 u1 u2 news) 4 ?hinit ?turn ?post (by intro _; rfl)
  case hinit =>
    refine ⟨0, _, _, _, [], cT, none, rfl, by omega, rfl, G.push hb, Fr.re F2 (fun y => ?_), .nil, .inl ⟨rfl, N2, Array.getElem?_push_size⟩⟩
    by_cases h1 : y = "size"
    · subst h1; rfl
    · rw [if_neg h1]
  case post =>
    rintro s' ⟨h', tk', gens', tv, cT', j, rfl, hv', hG, F', N'⟩
    exact hQ tv cT' j h' tk' gens' hv' hG F' N'
  case turn =>
    rintro n s' ⟨k, h', tk', gens', tv, cT', j, hn, hk, rfl, hG, F', hv', ⟨rfl, N', hgs⟩ | ⟨IT, oC', oI', hk1, N', hap, hJ⟩⟩
    · have nC : ∀ p ∈ (a, genObj s.gens.size nm qn) :: (GL, oL) :: (TA, listOf (List.toArray tv) cT') :: (EA, listOf ev.toArray cE) :: (SA, listOf #[.int s0 u0, .int s1 u1, .int s2 u2] cS) :: (L + 1, oA) :: news, p.1 ≠ C := fun p hp => by
        rcases List.mem_cons.mp hp with rfl | hp
        · exact hac
        rcases List.mem_cons.mp hp with rfl | hp
        · exact (hne2 _ (.head _)).2
        rcases List.mem_cons.mp hp with rfl | hp
        · exact (hne2 _ (.tail _ (.head _))).2
        · exact (hne2 p (.tail _ (.tail _ hp))).2
      refine grp_first rfl (by ktr_room) T F' N' hG hgs nC hgo (fun t IT oC' oI' h'' tk'' gens'' hG'' F'' N'' hIT hJ => ?_)
      refine cont n 0 _ _ IT oC' oI' t h'' tk'' gens'' tv cT' j hn hk hv' hG'' F'' N'' (hIT _ (.tail _ (.tail _ (.tail _ (.head _))))).symm (fun _ => hJ) (fun h => by omega) (fun h₃ tk₃ tv₃ c₃ j₃ hk₃ hv₃ F₃ N₃ => ?_) (fun h₃ tk₃ tv₃ c₃ j₃ hv₃ F₃ N₃ => held ⟨h₃, tk₃, gens'', tv₃, c₃, j₃, rfl, hv₃, hG'', F₃, N₃⟩)
      refine less (n - 1) (by omega) ⟨1, h₃, tk₃, gens'', tv₃, c₃, j₃, by omega, by omega, rfl, hG'', F₃, hv₃, .inr ⟨IT, oC', oI', Nat.le_refl _, N₃, fun p hp => ⟨?_, ?_⟩, hJ⟩⟩
      · rcases List.mem_cons.mp hp with rfl | hp
        · exact hac
        rcases List.mem_cons.mp hp with rfl | hp
        · exact (hne2 _ (.head _)).2
        rcases List.mem_cons.mp hp with rfl | hp
        · exact (hne2 _ (.tail _ (.head _))).2
        · exact (hne2 p (.tail _ (.tail _ hp))).2
      · rcases List.mem_cons.mp hp with rfl | hp
        · exact hIT _ (.head _)
        rcases List.mem_cons.mp hp with rfl | hp
        · exact hIT _ (.tail _ (.tail _ (.head _)))
        rcases List.mem_cons.mp hp with rfl | hp
        · exact hIT (TA, listOf (List.toArray tv) cT') (.tail _ (.tail _ (.tail _ (.head _))))
        · exact hIT p (.tail _ (.tail _ (.tail _ (.tail _ hp))))
    · have e4 : 4 - k = (3 - k) + 1 := by omega
      rw [e4] at hJ
      refine grp_next rfl (by ktr_room) T F' N' hG hap hJ (fun t oC'' oI'' h'' tk'' gens'' hf hG'' F'' N'' hJ'' => ?_) (fun hn0 hff h'' tk'' gens'' hG'' F'' N'' => ?_)
      · rw [show 3 - (3 - k) = k by omega]
        refine cont n k _ _ IT oC'' oI'' t h'' tk'' gens'' tv cT' j hn hk hv' hG'' F'' N'' (hap _ (.tail _ (.tail _ (.head _)))).2.symm hJ'' hf (fun h₃ tk₃ tv₃ c₃ j₃ hk₃ hv₃ F₃ N₃ => ?_) (fun h₃ tk₃ tv₃ c₃ j₃ hv₃ F₃ N₃ => held ⟨h₃, tk₃, gens'', tv₃, c₃, j₃, rfl, hv₃, hG'', F₃, N₃⟩)
        refine less (n - 1) (by omega) ⟨k + 1, h₃, tk₃, gens'', tv₃, c₃, j₃, by omega, by omega, rfl, hG'', F₃, hv₃, .inr ⟨IT, oC'', oI'', by omega, N₃, fun p hp => ?_, ?_⟩⟩
        · rcases List.mem_cons.mp hp with rfl | hp
          · exact hap _ (.head _)
          rcases List.mem_cons.mp hp with rfl | hp
          · exact hap _ (.tail _ (.head _))
          rcases List.mem_cons.mp hp with rfl | hp
          · exact hap (TA, listOf (List.toArray tv) cT') (.tail _ (.tail _ (.head _)))
          · exact hap p (.tail _ (.tail _ (.tail _ hp)))
        · rw [show 4 - (k + 1) = 3 - k by omega]
          exact hJ'' (by omega)
      · have hk3 : k = 3 := by omega
        subst hk3
        rw [hff] at hys
        rw [List.take_of_length_le (by rw [hys]; decide)] at hv'
        exact ⟨h'', tk'', gens'', tv, cT', j, rfl, hv', hG'', F'', N''⟩
end
section


set_option maxHeartbeats 8000000 in
theorem ls7_ok {w : World} {mean : ExcName → Option Value} {mg mb : Str → Option Value} {H0 : Heap} {L S D EA TA SA : Addr} {s : Shared} {Q : Flow → Shared → Prop} {E : Value → Shared → Prop} {news : List (Addr × Obj)} {ev : List Value} {e : List Int} {s0 s1 s2 : Int} {u0 u1 u2 : Tok} {cE cS : Nat} {oA : Obj} {j : Option Value}
    (X : (heap w.params).In H0) (T : Top VW LO mean mg mb H0) (F : Fr H0 L s.heap (fun y => if y = "size" then j else if y = "told" then some (.ref TA) else if y = "ending" then some (.ref EA) else if y = "numbers" then some (.ref D) else if y = "script" then some (.ref S) else none)) (N : News H0 L s.heap ((SA, listOf #[.int s0 u0, .int s1 u1, .int s2 u2] cS) :: (EA, listOf ev.toArray cE) :: (L + 1, oA) :: news)) (dA : oA.data = .cell (some (.ref SA))) (hE : IntsAre ev e) (hEl : e.length ≤ 2)
    (hne : ∀ p ∈ (EA, listOf ev.toArray cE) :: (L + 1, oA) :: news, p.1 ≠ SA)
    (hno : e.take 1 ≠ [0] → ∀ h' tk', Fr H0 L h' (fun y => if y = "size" then j else if y = "told" then some (.ref TA) else if y = "ending" then some (.ref EA) else if y = "numbers" then some (.ref D) else if y = "script" then some (.ref S) else none) → News H0 L h' ((SA, listOf #[.int s0 u0, .int s1 u1, .int s2 u2] cS) :: (EA, listOf ev.toArray cE) :: (L + 1, oA) :: news) → Q .next { s with heap := h', toks := tk' })
    (hyes : e.take 1 = [0] → ∀ u3 c' h' tk', Fr H0 L h' (fun y => if y = "size" then j else if y = "told" then some (.ref TA) else if y = "ending" then some (.ref EA) else if y = "numbers" then some (.ref D) else if y = "script" then some (.ref S) else none) → News H0 L h' ((SA, listOf #[.int s0 u0, .int s1 u1, .int s2 u2, .int s2 u3] c') :: (EA, listOf ev.toArray cE) :: (L + 1, oA) :: news) → Q .next { s with heap := h', toks := tk' }) :
    wpAny (model PRG w) (lawA L) (exec ls7 (lawE L)) Q E s := by
  have hEv := IntsAre.length hE
  have hsz : ev.toArray.size ≤ sizeLine := by rw [List.size_toArray, sizeLine_eq]; omega
  unfold ls7 lawA lawE lawScope
  dsimp only
  repeat' (first | (k_unfold; (try dsimp only)) | (k_end; wrow_close) | (with_reducible ((with_reducible show wpAny _ _ (subscriptTail (PySem.Expr.List _ _) (PySem.Expr.Slice _ _ _ _) _ _) _ _ _); ((with_reducible show wpAny _ _ (subscriptTail _ (PySem.Expr.Slice _ _ none _) (Value.ref _) (Value.ref _)) _ _ _); k_dflt (refine' kmk_slice_ints ?hzF ?hzN ?hzl ?hzp ?hzq ?hzi ?hzm ?hzc ?_ ?hzs ?hzt ?hzz; (case hzF => k_asm); (case hzN => k_asm); (case hzl => is_list); (case hzp => first | exact IsPart.none | exact IsPart.int _ _); (case hzq => first | exact IsPart.none | exact IsPart.int _ _); (case hzi => l_ints); (case hzm => first | exact kmk_upto (by l_ints) (by omega) | exact kmk_from (by l_ints) (by omega)); (case hzc => exact rfl); (case hzs => with_unfolding_all rfl); (case hzt => (intro _; rfl)); (case hzz => size_fits)); intro _ _ _ _ _ l9 _ _ _; (try k_lt l9); (try dsimp only); (try k_fold)))) | (with_reducible ((with_reducible show wpAny _ _ (subscriptTail (PySem.Expr.Name _ _) (PySem.Expr.Slice _ _ _ _) _ _) _ _ _); ((with_reducible show wpAny _ _ (subscriptTail _ (PySem.Expr.Slice _ _ none _) (Value.ref _) (Value.ref _)) _ _ _); k_dflt (refine' kmk_slice_ints ?hzF ?hzN ?hzl ?hzp ?hzq ?hzi ?hzm ?hzc ?_ ?hzs ?hzt ?hzz; (case hzF => k_asm); (case hzN => k_asm); (case hzl => is_list); (case hzp => first | exact IsPart.none | exact IsPart.int _ _); (case hzq => first | exact IsPart.none | exact IsPart.int _ _); (case hzi => l_ints); (case hzm => first | exact kmk_upto (by l_ints) (by omega) | exact kmk_from (by l_ints) (by omega)); (case hzc => exact rfl); (case hzs => with_unfolding_all rfl); (case hzt => (intro _; rfl)); (case hzz => size_fits)); intro _ _ _ _ _ l9 _ _ _; (try k_lt l9); (try dsimp only); (try k_fold)))) | (with_reducible ((with_reducible show wpAny _ _ (inplaceOp Operator.Add (Value.str _ _) (Value.str (Str.mk #[_]) _)) _ _ _); refine iadd1 (by with_reducible assumption) ?_; intro _ _)) | (with_reducible ((with_reducible show wpAny _ _ (PySem.truthy (Value.str _ _)) _ _ _); refine truthy_yes (by with_reducible assumption) (by with_reducible assumption) ?_)) | (with_reducible ((with_reducible show wpAny _ _ (execs _ _) _ _ _); (first | k_gentoks | ((with_reducible refine execs_one ?_); try dsimp only)))) | (with_reducible (with_reducible refine wpAny_If ?_)) | (with_reducible (first | (refine ite_isFalse (by with_reducible assumption) ?_) | (refine ite_pos (by with_reducible assumption) ?_) | (refine ite_neg (by with_reducible assumption) ?_))) | walk1 | dsimp only | (dsimp only; walk1) | (leave1; (try dsimp only)) | fail "no step")
  · rename Fr H0 L _ _ => F2
    rename News H0 L _ _ => N2
    rename (List.take _ _ = _) => e1
    exact hyes e1 _ _ _ _ F2 (fun p hp => N2 p (.tail _ (.tail _ hp)))
  · rename Fr H0 L _ _ => F2
    rename News H0 L _ _ => N2
    rename (¬ List.take _ _ = _) => e1
    exact hno e1 _ _ F2 (news_sub N2 fun p hp => .tail _ (.tail _ hp))
end
section
set_option maxHeartbeats 8000000 in
theorem ls8_ok {w : World} {mean : ExcName → Option Value} {mg mb : Str → Option Value} {H0 : Heap} {L S D EA TA : Addr} {s : Shared} {Q : Flow → Shared → Prop} {E : Value → Shared → Prop} {news : List (Addr × Obj)} {n0 n1 n2 n3 : Int} {t0 t1 t2 t3 : Tok} {c : Nat} {oB : Obj} {j : Option Value}
    (X : (heap w.params).In H0) (T : Top VW LO mean mg mb H0) (F : Fr H0 L s.heap (fun y => if y = "size" then j else if y = "told" then some (.ref TA) else if y = "ending" then some (.ref EA) else if y = "numbers" then some (.ref D) else if y = "script" then some (.ref S) else none)) (N : News H0 L s.heap ((L + 1 + 1, oB) :: (D, listOf #[.int n0 t0, .int n1 t1, .int n2 t2, .int n3 t3] c) :: news)) (doB : oB.data = .cell none)
    (hne : ∀ p ∈ (D, listOf #[.int n0 t0, .int n1 t1, .int n2 t2, .int n3 t3] c) :: news, p.1 ≠ L + 1 + 1)
    (hQ : ∀ t o' h' tk', o'.data = .cell (some (.int (Int.fmod n2 2001 - 1000) t)) → Fr H0 L h' (fun y => if y = "size" then j else if y = "told" then some (.ref TA) else if y = "ending" then some (.ref EA) else if y = "numbers" then some (.ref D) else if y = "script" then some (.ref S) else none) → News H0 L h' ((L + 1 + 1, o') :: (D, listOf #[.int n0 t0, .int n1 t1, .int n2 t2, .int n3 t3] c) :: news) → Q .next { s with heap := h', toks := tk' }) :
    wpAny (model PRG w) (lawA L) (exec ls8 (lawE L)) Q E s := by
  have hb : 0 ≤ Int.fmod ([n0, n1, n2, n3].getD (Int.toNat 2) 0) 2001 ∧ Int.fmod ([n0, n1, n2, n3].getD (Int.toNat 2) 0) 2001 < 2001 := ⟨Int.fmod_nonneg_of_pos _ (by decide), Int.fmod_lt_of_pos _ (by decide)⟩
  unfold ls8 lawA lawE lawScope
  dsimp only
  repeat' (first | (k_unfold; (try dsimp only)) | (k_end; wrow_close) | (with_reducible ((with_reducible show wpAny _ _ (inplaceOp Operator.Add (Value.str _ _) (Value.str (Str.mk #[_]) _)) _ _ _); refine iadd1 (by with_reducible assumption) ?_; intro _ _)) | (with_reducible ((with_reducible show wpAny _ _ (PySem.truthy (Value.str _ _)) _ _ _); refine truthy_yes (by with_reducible assumption) (by with_reducible assumption) ?_)) | (with_reducible ((with_reducible show wpAny _ _ (execs _ _) _ _ _); (first | k_gentoks | ((with_reducible refine execs_one ?_); try dsimp only)))) | (with_reducible (with_reducible refine wpAny_If ?_)) | (with_reducible (first | (refine ite_isFalse (by with_reducible assumption) ?_) | (refine ite_pos (by with_reducible assumption) ?_) | (refine ite_neg (by with_reducible assumption) ?_))) | walk1 | dsimp only | (dsimp only; walk1) | (leave1; (try dsimp only)) | fail "no step")
  rename Fr H0 L _ _ => F2
  rename News H0 L _ _ => N2
  rename (Obj.data _ = Data.cell (some _)) => d2
  exact hQ _ _ _ _ d2 F2 N2
set_option maxHeartbeats 8000000 in
theorem ls9_ok {w : World} {mean : ExcName → Option Value} {mg mb : Str → Option Value} {H0 : Heap} {L S D EA TA : Addr} {s : Shared} {Q : Flow → Shared → Prop} {E : Value → Shared → Prop} {news : List (Addr × Obj)} {n0 n1 n2 n3 : Int} {t0 t1 t2 t3 : Tok} {c : Nat} {oC : Obj} {j : Option Value}
    (X : (heap w.params).In H0) (T : Top VW LO mean mg mb H0) (F : Fr H0 L s.heap (fun y => if y = "size" then j else if y = "told" then some (.ref TA) else if y = "ending" then some (.ref EA) else if y = "numbers" then some (.ref D) else if y = "script" then some (.ref S) else none)) (N : News H0 L s.heap ((L + 1 + 1 + 1, oC) :: (D, listOf #[.int n0 t0, .int n1 t1, .int n2 t2, .int n3 t3] c) :: news)) (doC : oC.data = .cell none)
    (hne : ∀ p ∈ (D, listOf #[.int n0 t0, .int n1 t1, .int n2 t2, .int n3 t3] c) :: news, p.1 ≠ L + 1 + 1 + 1)
    (hQ : ∀ t o' h' tk', o'.data = .cell (some (.int (Int.fmod n3 201 - 100) t)) → Fr H0 L h' (fun y => if y = "size" then j else if y = "told" then some (.ref TA) else if y = "ending" then some (.ref EA) else if y = "numbers" then some (.ref D) else if y = "script" then some (.ref S) else none) → News H0 L h' ((L + 1 + 1 + 1, o') :: (D, listOf #[.int n0 t0, .int n1 t1, .int n2 t2, .int n3 t3] c) :: news) → Q .next { s with heap := h', toks := tk' }) :
    wpAny (model PRG w) (lawA L) (exec ls9 (lawE L)) Q E s := by
  have hb : 0 ≤ Int.fmod ([n0, n1, n2, n3].getD (Int.toNat 3) 0) 201 ∧ Int.fmod ([n0, n1, n2, n3].getD (Int.toNat 3) 0) 201 < 201 := ⟨Int.fmod_nonneg_of_pos _ (by decide), Int.fmod_lt_of_pos _ (by decide)⟩
  unfold ls9 lawA lawE lawScope
  dsimp only
  repeat' (first | (k_unfold; (try dsimp only)) | (k_end; wrow_close) | (with_reducible ((with_reducible show wpAny _ _ (inplaceOp Operator.Add (Value.str _ _) (Value.str (Str.mk #[_]) _)) _ _ _); refine iadd1 (by with_reducible assumption) ?_; intro _ _)) | (with_reducible ((with_reducible show wpAny _ _ (PySem.truthy (Value.str _ _)) _ _ _); refine truthy_yes (by with_reducible assumption) (by with_reducible assumption) ?_)) | (with_reducible ((with_reducible show wpAny _ _ (execs _ _) _ _ _); (first | k_gentoks | ((with_reducible refine execs_one ?_); try dsimp only)))) | (with_reducible (with_reducible refine wpAny_If ?_)) | (with_reducible (first | (refine ite_isFalse (by with_reducible assumption) ?_) | (refine ite_pos (by with_reducible assumption) ?_) | (refine ite_neg (by with_reducible assumption) ?_))) | walk1 | dsimp only | (dsimp only; walk1) | (leave1; (try dsimp only)) | fail "no step")
  rename Fr H0 L _ _ => F2
  rename News H0 L _ _ => N2
  rename (Obj.data _ = Data.cell (some _)) => d2
  exact hQ _ _ _ _ d2 F2 N2
end
section
inductive RCi (s₁ : Shared) (h₀ : Heap) (L D C it : Addr) (m : Str → Option Value) (news : List (Addr × Obj)) (n : Int) (J : Nat → List Value → List (Addr × Obj) → Prop) (k : Nat) (s' : Shared) : Prop
  | mk (j : Nat) (ws : List Value) (ex : List (Addr × Obj)) (c : Nat) (h' : Heap) (tk' : Nat) (mC : Str → Option Value) (_ : (k : Int) + (j : Int) = n) (_ : s' = { s₁ with heap := h', toks := tk' }) (_ : Fr h₀ L h' m) (_ : J j ws ex) (_ : News h₀ L h' ((it, rgObj j (n - j) 1) :: (D, listOf (List.toArray ws) c) :: (ex ++ news))) (_ : h'.Ns C mC) (_ : (∀ p ∈ ex, p.1 ≠ D ∧ p.1 ≠ C ∧ p.1 ≠ it))
section
variable {w : World} {A : Around} {E : Value → Shared → Prop} {s : Shared} {h₀ : Heap} {L : Addr} {m : Str → Option Value}
/-- what one element of a comprehension over a range does, in ledger form -/
noncomputable def EltDoes (w : World) (A : Around) (h₀ : Heap) (L : Addr) (m : Str → Option Value) (elt : PySem.Expr) (cenv : Addr → Env) (x : Str) (n : Int) (news : List (Addr × Obj)) (J : Nat → List Value → List (Addr × Obj) → Prop) (s₁ : Shared) : Prop :=
  ∀ (j : Nat) (ws : List Value) (ex : List (Addr × Obj)) (D C it : Addr) (oD oC oI : Obj) (mC : Str → Option Value) (t : Tok) (h' : Heap) (tk' : Nat), (j : Int) < n → J j ws ex → mC x = some (.int j t) → h'.Ns C mC → Fr h₀ L h' m →
    News h₀ L h' ((D, oD) :: (C, oC) :: (it, oI) :: (ex ++ news)) → (∀ p ∈ ex ++ news, p.1 ≠ D ∧ p.1 ≠ C ∧ p.1 ≠ it) → D ≠ C → D ≠ it → C ≠ it →
    wpAny (model PRG w) A (eval elt (cenv C)) (fun y s₂ => ∃ ex' h'' tk'', s₂ = { s₁ with heap := h'', toks := tk'' } ∧ J (j + 1) (ws ++ [y]) ex' ∧ Fr h₀ L h'' m ∧ News h₀ L h'' ((D, oD) :: (C, oC) :: (it, oI) :: (ex' ++ news)) ∧ ∀ p ∈ ex', p.1 ≠ D ∧ p.1 ≠ C ∧ p.1 ≠ it) (fun _ _ => False) { s₁ with heap := h', toks := tk' }
set_option maxHeartbeats 4000000 in
theorem rng_comp {elt iter : PySem.Expr} {x : Str} {px pos : Pos} {sc : Scope} {cl : List (Str × Addr)} {env : Env} {Q : Value → Shared → Prop} (J : Nat → List Value → List (Addr × Obj) → Prop) (hJ0 : J 0 [] []) (hJl : ∀ j ws ex, J j ws ex → ws.length = j)
    (hh : A.handled = none) (hclos : closureFor sc env = pure cl) (hcell : ∀ y ∈ sc.names, y.2 ≠ .cell) (hkind : sc.kind = .function) (hnames : ∀ y ∈ sc.names, y.2 = .local → sc.names.lookup y.1 = some .local) (hx : sc.names.lookup x = some .local)
    (hs : ∀ y, foldedSetIterable iter env y = pure y)
    (h : wpAny (model PRG w) A (eval iter env) (fun xv s₁ => ∃ r n t u v news, xv = .ref r ∧ 0 ≤ n ∧ n < 100 ∧ Fr h₀ L s₁.heap m ∧ News h₀ L s₁.heap news ∧ IsRange s₁.heap r 0 n 1 t u v ∧
      EltDoes w A h₀ L m elt (fun C => compEnvC sc cl C env) x n news J s₁ ∧
      ∀ D c ws ex h' tk', J n.toNat ws ex → Fr h₀ L h' m → News h₀ L h' ((D, listOf (List.toArray ws) c) :: (ex ++ news)) → (∀ p ∈ ex ++ news, p.1 ≠ D) → Q (.ref D) { s₁ with heap := h', toks := tk' }) E s) :
    wpAny (model PRG w) A (eval (.ListComp elt [⟨.Name x px, iter, [], 0⟩] sc pos) env) Q E s := by
  rw [eval_ListComp]
  refine wpAny_comprehension_free (use := none) rfl hs hclos hkind hnames (wpAny_mono h (fun xv s₁ h₁ => ?_) fun _ _ e => e)
  obtain ⟨r, n, t, u, v, news, rfl, hn0, hn1, F₁, N₁, hr, helt, hQ⟩ := h₁
  refine rng_iter F₁ N₁ hr hn0 hn1 fun it h₂ F₂ N₂ hne₂ => ?_
  refine comp_block hcell hkind fun D C h₁ tk hD hC hDC _ _ eD nC keep => ?_
  dsimp only at hD hC keep
  have fresh : ∀ {b}, h₂.get? b = none → b ≠ L ∧ h₀.get? b = none ∧ ∀ p ∈ (it, rgObj 0 n 1) :: news, p.1 ≠ b := fun {b} e => by
    refine ⟨?_, ?_, ?_⟩
    · intro z
      obtain ⟨o, _, _, ho, _⟩ := F₂.ns
      rw [← z, e] at ho
      cases ho
    · cases q : h₀.get? b with
      | none => rfl
      | some o => rw [F₂.keep _ _ q] at e; cases e
    · intro p hp z
      have := (N₂ p hp).1
      rw [z, e] at this
      cases this
  have fD := fresh hD
  have fC := fresh hC
  have hItC : C ≠ it := fun e => fC.2.2 _ (.head _) e.symm
  have hItD : D ≠ it := fun e => fD.2.2 _ (.head _) e.symm
  refine ⟨RCi s₁ h₀ L D C it m news n J, n.toNat, ?_, ?_, ?_⟩
  · refine ⟨0, [], [], 0, h₁, tk, _, by omega, rfl, F₂.keeps keep, hJ0, ?_, nC, fun _ h => nomatch h⟩
    intro p hp
    rcases List.mem_cons.mp hp with rfl | hp
    · have := N₂ _ (.head _)
      refine ⟨?_, this.2⟩
      have e := keep _ _ this.1
      show h₁.get? it = some (rgObj ((0 : Nat) : Int) (n - ((0 : Nat) : Int)) 1)
      rw [show n - ((0 : Nat) : Int) = n by omega]
      exact e
    · rcases List.mem_cons.mp hp with rfl | hp
      · exact ⟨eD, fD.1, fD.2.1⟩
      · exact ⟨keep _ _ (N₂ p (.tail _ hp)).1, (N₂ p (.tail _ hp)).2⟩
  · exact wpAny_pyIter_rangeiter (keep _ _ (N₂ _ (.head _)).1) ⟨rfl, rfl⟩
  · rintro k s' ⟨j, ws, ex, c, h', tk', mC, hkj, rfl, F', hJ, N', nC', hex⟩
    have hneI : ∀ p ∈ (D, listOf (List.toArray ws) c) :: (ex ++ news), p.1 ≠ it := fun p hp => by
      rcases List.mem_cons.mp hp with rfl | hp
      · exact hItD
      · rcases List.mem_append.mp hp with hp | hp
        · exact (hex p hp).2.2
        · exact hne₂ p hp
    cases k with
    | zero =>
      have q := N' _ (.head _)
      refine wpAny_pyNext_range_end (x := j) (left := n - j) (step := 1) hh q.1 (by omega) fun h3 hs3 => ?_
      have F3 := fr_but F' q.2.2 q.2.1 hs3
      have N3 := news_but (fun p hp => N' p (.tail _ hp)) hneI hs3
      refine ⟨mC, ns_but nC' hItC hs3, fun h4 s4 => ?_⟩
      have e : j = n.toNat := by omega
      subst e
      refine hQ D c ws ex h4 _ hJ (fr_but F3 fC.2.1 fC.1 s4.extBut) (news_but N3 (fun p hp => ?_) s4.extBut) (fun p hp => ?_)
      · rcases List.mem_cons.mp hp with rfl | hp
        · exact hDC
        · rcases List.mem_append.mp hp with hp | hp
          · exact (hex p hp).2.1
          · exact fC.2.2 p (.tail _ hp)
      · rcases List.mem_append.mp hp with hp | hp
        · exact (hex p hp).1
        · exact fD.2.2 p (.tail _ hp)
    | succ k =>
      have q := N' _ (.head _)
      refine wpAny_pyNext_range_item (x := j) (left := n - j) (step := 1) q.1 (by omega) fun h3 hit hs3 => ?_
      have F3 := fr_but F' q.2.2 q.2.1 hs3.extBut
      have N3 := news_with (news' := news) (o' := rgObj 0 0 0) (news_but (fun p hp => N' p (.tail _ hp)) hneI hs3.extBut) hit q.2.1 q.2.2
      have nC3 := ns_but nC' hItC hs3.extBut
      refine wpAny_assign_Name (wpAny_storeName_local (env := compEnvC sc cl C env) (lookup_relabel_local hx) nC3 (fun h4 n4 s4 => ?_) (by simp [compEnvC, relabel, hkind]))
      have F4 := fr_but F3 fC.2.1 fC.1 s4.extBut
      have hneC : ∀ p ∈ (it, rgObj ((j : Int) + 1) (n - j - 1) 1) :: (D, listOf (List.toArray ws) c) :: (ex ++ news), p.1 ≠ C := fun p hp => by
        rcases List.mem_cons.mp hp with rfl | hp
        · exact hItC.symm
        · rcases List.mem_cons.mp hp with rfl | hp
          · exact hDC
          · rcases List.mem_append.mp hp with hp | hp
            · exact (hex p hp).2.1
            · exact fC.2.2 p (.tail _ hp)
      have N4 := news_but N3 hneC s4.extBut
      obtain ⟨oC, es, ep, hoC, rC⟩ := id n4
      have N5 : News h₀ L h4 ((D, listOf (List.toArray ws) c) :: (C, oC) :: (it, rgObj ((j : Int) + 1) (n - j - 1) 1) :: (ex ++ news)) := fun p hp => by
        rcases List.mem_cons.mp hp with rfl | hp
        · exact N4 _ (.tail _ (.head _))
        · rcases List.mem_cons.mp hp with rfl | hp
          · exact ⟨hoC, fC.1, fC.2.1⟩
          · rcases List.mem_cons.mp hp with rfl | hp
            · exact N4 _ (.head _)
            · exact N4 p (.tail _ (.tail _ hp))
      refine wpAny_mono (helt j ws ex D C it _ oC _ _ tk' h4 _ (by omega) hJ (if_pos rfl) n4 F4 N5 (fun p hp => ?_) hDC hItD hItC) (fun y s₂ hy => ?_) (fun _ _ e => e.elim)
      · rcases List.mem_append.mp hp with hp | hp
        · exact hex p hp
        · exact ⟨fD.2.2 p (.tail _ hp), fC.2.2 p (.tail _ hp), hne₂ p hp⟩
      · obtain ⟨ex', h5, tk5, rfl, hJ', F5, N6, hex'⟩ := hy
        have hl' := hJl _ _ _ hJ
        refine append_led (news := (C, oC) :: (it, rgObj ((j : Int) + 1) (n - j - 1) 1) :: (ex' ++ news)) F5 N6 (fun p hp => ?_) (by omega) fun c6 h6 s6 F6 N7 => ?_
        · rcases List.mem_cons.mp hp with rfl | hp
          · exact hDC.symm
          · rcases List.mem_cons.mp hp with rfl | hp
            · exact hItD.symm
            · rcases List.mem_append.mp hp with hp | hp
              · exact (hex' p hp).1
              · exact fD.2.2 p (.tail _ hp)
        refine less k (by omega) ⟨j + 1, _, ex', c6, h6, _, _, by omega, rfl, F6, hJ', ?_, ⟨oC, es, ep, (N7 _ (.tail _ (.head _))).1, rC⟩, hex'⟩
        intro p hp
        rcases List.mem_cons.mp hp with rfl | hp
        · have e := N7 _ (.tail _ (.tail _ (.head _)))
          rw [show (((j + 1 : Nat) : Nat) : Int) = (j : Int) + 1 by omega, show n - ((j : Int) + 1) = n - j - 1 by omega]
          exact e
        · rcases List.mem_cons.mp hp with rfl | hp
          · exact N7 _ (.head _)
          · exact N7 p (.tail _ (.tail _ (.tail _ hp)))
end
end
section

noncomputable def rowOf (a b : Int) (k : Nat) : List Int := (List.range k).map fun (i : Nat) => a + b * (i : Int)
theorem rowOf_len (a b : Int) (k : Nat) : (rowOf a b k).length = k := by simp [rowOf]
theorem rowOf_succ (a b : Int) (k : Nat) : rowOf a b (k + 1) = rowOf a b k ++ [a + b * (k : Int)] := by simp [rowOf, List.range_succ]
theorem mem_rot3 {α : Type} {p a b c : α} {r : List α} (h : p ∈ a :: b :: c :: r) : p ∈ c :: a :: b :: r := by
  simp only [List.mem_cons] at h ⊢
  rcases h with h | h | h | h <;> simp [h]
theorem sum_in : ∀ {ys : List Int}, (∀ x ∈ ys, 1 ≤ x ∧ x ≤ 4) → (ys.length : Int) ≤ ys.sum ∧ ys.sum ≤ 4 * (ys.length : Int)
  | [], _ => ⟨Int.le_refl _, Int.le_refl _⟩
  | x :: r, h => by
    have h1 := h x (.head _)
    have h2 := sum_in (ys := r) (fun y hy => h y (.tail _ hy))
    simp only [List.length_cons, List.sum_cons]
    omega
theorem need_sum : ∀ {ys : List Int}, (∀ x ∈ ys, 1 ≤ x ∧ x ≤ 4) → (needF 0 ys : Int) = ys.sum
  | [], _ => rfl
  | x :: r, h => by
    have h1 := h x (.head _)
    have h2 := need_sum (ys := r) (fun y hy => h y (.tail _ hy))
    simp only [needF, List.map_cons, List.sum_cons] at h2 ⊢
    omega
theorem row_ok {ys : List Int} {a b : Int} (hy : ∀ x ∈ ys, 1 ≤ x ∧ x ≤ 4) (hl : ys.length ≤ 4) (ha : a.natAbs ≤ 1000) (hb : b.natAbs ≤ 100) : RowOk 0 ys (rowOf a b ys.sum.toNat) (ys.map fun _ => []) := by
  have h1 := sum_in hy
  have h2 := need_sum hy
  refine ⟨by rw [rowOf_len]; omega, by simp, fun n hn => ?_, fun l hl' => ?_⟩
  · obtain ⟨i, hi, rfl⟩ := List.mem_map.mp hn
    have hi' := List.mem_range.mp hi
    have h3 : (b * (i : Int)).natAbs ≤ 100 * 16 := by
      rw [Int.natAbs_mul]
      exact Nat.mul_le_mul hb (by omega)
    omega
  · obtain ⟨_, _, rfl⟩ := List.mem_map.mp hl'
    exact Nat.zero_le _
set_option maxHeartbeats 8000000 in
theorem ls10_ok {w : World} {mean : ExcName → Option Value} {mg mb : Str → Option Value} {H0 : Heap} {L S D EA TA : Addr} {s : Shared} {Q : Flow → Shared → Prop} {E : Value → Shared → Prop} {news : List (Addr × Obj)} {tv : List Value} {ys : List Int} {cT : Nat} {oB oC op : Obj} {j : Option Value} {a b : Int} {ta tb : Tok}
    (X : (heap w.params).In H0) (T : Top VW LO mean mg mb H0) (F : Fr H0 L s.heap (fun y => if y = "size" then j else if y = "told" then some (.ref TA) else if y = "ending" then some (.ref EA) else if y = "numbers" then some (.ref D) else if y = "script" then some (.ref S) else none)) (N : News H0 L s.heap ((753, op) :: (TA, listOf tv.toArray cT) :: (L + 1 + 1, oB) :: (L + 1 + 1 + 1, oC) :: news)) (dB : oB.data = .cell (some (.int a ta))) (dC : oC.data = .cell (some (.int b tb))) (hT : IntsAre tv ys) (hys : ys.length = 3 ∨ ys.length = 4) (hy4 : ∀ x ∈ ys, 1 ≤ x ∧ x ≤ 4) (ha : a.natAbs ≤ 1000) (hb : b.natAbs ≤ 100) (hop : TabOk op) (G : AllBare s.gens)
    (h753 : ∀ p ∈ (TA, listOf tv.toArray cT) :: (L + 1 + 1, oB) :: (L + 1 + 1 + 1, oC) :: news, p.1 ≠ 753)
    (hQ : ∀ (M : Int) (ST : Addr) (cST : Nat) (ks : List (Addr × Obj)) (op' : Obj) (H1 h' : Heap) (tk' : Nat) (gens' : Array GenState), M ∈ ys → (∀ x ∈ ys, x ≤ M) → TabOk op' → AllBare gens' → Kids ks (turnsG ys (rowOf a b ys.sum.toNat, ys.map fun _ => []) M.toNat).2 → Below callerA H0 [] H1 → Fr H1 L h' (fun y => if y = "struck" then some (.ref ST) else if y = "size" then j else if y = "told" then some (.ref TA) else if y = "ending" then some (.ref EA) else if y = "numbers" then some (.ref D) else if y = "script" then some (.ref S) else none) → News H1 L h' ((ST, listOf (List.toArray (List.map (fun k => Value.ref k.1) ks)) cST) :: (ks ++ (753, op') :: (TA, listOf tv.toArray cT) :: (L + 1 + 1, oB) :: (L + 1 + 1 + 1, oC) :: news)) → Q .next { s with heap := h', toks := tk', gens := gens' }) :
    wpAny (model PRG w) (lawA L) (exec ls10 (lawE L)) Q E s := by
  unfold ls10 lawA lawE lawScope
  dsimp only
  repeat' ((fail_if_success (with_reducible show wpAny _ _ (eval (Expr.ListComp _ _ _ _) _) _ _ _)); first | (k_unfold; (try dsimp only)) | (k_end; wrow_close) | (with_reducible ((with_reducible show wpAny _ _ (call (Value.type "range") _) _ _ _); (k_dflt (refine' range1_rows ?hzk1 ?hzk2 ?_; (case hzk1 => k_asm); (case hzk2 => k_asm); k_whole; intro _ _ _ _ _ _ _ _ _; (try dsimp only); (try k_fold))))) | (with_reducible ((with_reducible show wpAny _ _ (inplaceOp Operator.Add (Value.str _ _) (Value.str (Str.mk #[_]) _)) _ _ _); refine iadd1 (by with_reducible assumption) ?_; intro _ _)) | (with_reducible ((with_reducible show wpAny _ _ (PySem.truthy (Value.str _ _)) _ _ _); refine truthy_yes (by with_reducible assumption) (by with_reducible assumption) ?_)) | (with_reducible ((with_reducible show wpAny _ _ (execs _ _) _ _ _); (first | k_gentoks | ((with_reducible refine execs_one ?_); try dsimp only)))) | (with_reducible (with_reducible refine wpAny_If ?_)) | (with_reducible (first | (refine ite_isFalse (by with_reducible assumption) ?_) | (refine ite_pos (by with_reducible assumption) ?_) | (refine ite_neg (by with_reducible assumption) ?_))) | walk1 | dsimp only | (dsimp only; walk1) | (leave1; (try dsimp only)) | fail "no step")
  refine rng_comp (h₀ := H0) (L := L) (m := (fun y => if y = "size" then j else if y = "told" then some (.ref TA) else if y = "ending" then some (.ref EA) else if y = "numbers" then some (.ref D) else if y = "script" then some (.ref S) else none)) (fun k ws ex => ex = [] ∧ IntsAre ws (rowOf a b k)) ⟨rfl, .nil⟩ ?hJl rfl rfl ?hcell rfl ?hnames rfl (fun _ => rfl) ?_
  case hJl => exact fun k ws ex h => (IntsAre.length h.2).trans (rowOf_len a b k)
  case hcell => decide
  case hnames => decide
  repeat' ((fail_if_success (with_reducible show Exists _)); first | (k_unfold; (try dsimp only)) | (k_end; wrow_close) | (with_reducible ((with_reducible show wpAny _ _ (call (Value.type "range") _) _ _ _); (k_dflt (refine' range1_rows ?hzk1 ?hzk2 ?_; (case hzk1 => k_asm); (case hzk2 => k_asm); k_whole; intro _ _ _ _ _ _ _ _ _; (try dsimp only); (try k_fold))))) | (with_reducible ((with_reducible show wpAny _ _ (inplaceOp Operator.Add (Value.str _ _) (Value.str (Str.mk #[_]) _)) _ _ _); refine iadd1 (by with_reducible assumption) ?_; intro _ _)) | (with_reducible ((with_reducible show wpAny _ _ (PySem.truthy (Value.str _ _)) _ _ _); refine truthy_yes (by with_reducible assumption) (by with_reducible assumption) ?_)) | (with_reducible ((with_reducible show wpAny _ _ (execs _ _) _ _ _); (first | k_gentoks | ((with_reducible refine execs_one ?_); try dsimp only)))) | (with_reducible (with_reducible refine wpAny_If ?_)) | (with_reducible (first | (refine ite_isFalse (by with_reducible assumption) ?_) | (refine ite_pos (by with_reducible assumption) ?_) | (refine ite_neg (by with_reducible assumption) ?_))) | walk1 | dsimp only | (dsimp only; walk1) | (leave1; (try dsimp only)) | fail "no step")
  rename_i h9 tk9 t9 u9 v9 hr9 F9 N9 hk9
  have hsum := sum_in hy4
  have hs100 : 0 ≤ ys.sum ∧ ys.sum < 100 := by omega
  refine ⟨_, ys.sum, _, _, _, _, rfl, hs100.1, hs100.2, F9, N9, hr9, ?_, ?_⟩
  · rintro k ws ex DD C it oD oC' oI mC t h' tk' hk ⟨rfl, hws⟩ hm nC F' N' hap d1 d2 d3
    refine wpAny_BinOp (wpAny_Name (wpAny_loadName_cell (v := .int a ta) rfl rfl rfl ⟨oB, (N' _ (.tail _ (.tail _ (.tail _ (.tail _ (.tail _ (.head _))))))).1, dB⟩ ?_) (by decide))
    refine wpAny_BinOp (wpAny_Name (wpAny_loadName_cell (v := .int b tb) rfl rfl rfl ⟨oC, (N' _ (.tail _ (.tail _ (.tail _ (.tail _ (.tail _ (.tail _ (.head _)))))))).1, dC⟩ ?_) (by decide))
    refine wpAny_Name (wpAny_loadName_local (v := .int (k : Int) t) rfl rfl nC hm ?_) (by decide)
    refine mul_small (by omega) (by omega) fun t' k' => ?_
    refine P.add_int ?_
    refine ⟨[], h', _, rfl, ⟨rfl, ?_⟩, F', N', fun _ h => nomatch h⟩
    rw [rowOf_succ]
    exact ints_snoc hws
  · rintro RA cR RV ex h' tk' ⟨rfl, hws⟩ F' N' hap
    clear F N F9 N9 hr9 hk9
    dsimp only [List.nil_append] at N' hap
    have r753 : (753 : Addr) ≠ RA := hap (753, op) (.head _)
    repeat' ((fail_if_success (with_reducible show wpAny _ _ (call (Value.ref 771) _) _ _ _)); first | (k_unfold; (try dsimp only)) | (k_end; wrow_close) | (with_reducible ((with_reducible show wpAny _ _ (call (Value.type "range") _) _ _ _); (k_dflt (refine' range1_rows ?hzk1 ?hzk2 ?_; (case hzk1 => k_asm); (case hzk2 => k_asm); k_whole; intro _ _ _ _ _ _ _ _ _; (try dsimp only); (try k_fold))))) | (with_reducible ((with_reducible show wpAny _ _ (inplaceOp Operator.Add (Value.str _ _) (Value.str (Str.mk #[_]) _)) _ _ _); refine iadd1 (by with_reducible assumption) ?_; intro _ _)) | (with_reducible ((with_reducible show wpAny _ _ (PySem.truthy (Value.str _ _)) _ _ _); refine truthy_yes (by with_reducible assumption) (by with_reducible assumption) ?_)) | (with_reducible ((with_reducible show wpAny _ _ (execs _ _) _ _ _); (first | k_gentoks | ((with_reducible refine execs_one ?_); try dsimp only)))) | (with_reducible (with_reducible refine wpAny_If ?_)) | (with_reducible (first | (refine ite_isFalse (by with_reducible assumption) ?_) | (refine ite_pos (by with_reducible assumption) ?_) | (refine ite_neg (by with_reducible assumption) ?_))) | walk1 | dsimp only | (dsimp only; walk1) | (leave1; (try dsimp only)) | fail "no step")
    rename Fr H0 L _ _ => F2
    rename News H0 L _ _ => N2
    have hl3 : ys.length ≤ 4 := by omega
    have hN3 : News H0 L h' ((753, op) :: (TA, listOf tv.toArray cT) :: (RA, listOf RV.toArray cR) :: (L + 1 + 1, oB) :: (L + 1 + 1 + 1, oC) :: news) := news_sub N2 fun p hp => mem_rot3 hp
    have h3 : ∀ p ∈ (TA, listOf tv.toArray cT) :: (RA, listOf RV.toArray cR) :: (L + 1 + 1, oB) :: (L + 1 + 1 + 1, oC) :: news, p.1 ≠ 753 := fun p hp => by
      rcases List.mem_cons.mp hp with rfl | hp
      · exact h753 _ (.head _)
      rcases List.mem_cons.mp hp with rfl | hp
      · exact r753.symm
      · exact h753 p (.tail _ hp)
    refine' struck_ok w mean mg mb _ _ _ _ _ _ _ _ _ callerA H0 H0 L _ _ _ _ ((L + 1 + 1, oB) :: (L + 1 + 1 + 1, oC) :: news) op TA RA tv RV cT cR ys (rowOf a b ys.sum.toNat) (below_caller H0) F2 X T ?hk hN3 hop h3 ?G hT hws hy4 (by omega) hl3 (row_ok hy4 hl3 ha hb) ?hd ?hu ?_
    case hk => rfl
    case G => exact G
    case hd => decide
    case hu => decide
    intro M ST cST ks op' H1 h₁ tk₁ gens' hM hmax hop' hG hK KT B1 F4 N4
    have X1 := X.keeps B1.stays
    have T1 := T.keeps B1.stays
    clear F2 N2 hN3 X T KT hap h3 hws
    dsimp only
    repeat' (first | (k_unfold; (try dsimp only)) | (k_end; wrow_close) | (with_reducible ((with_reducible show wpAny _ _ (call (Value.type "range") _) _ _ _); (k_dflt (refine' range1_rows ?hzk1 ?hzk2 ?_; (case hzk1 => k_asm); (case hzk2 => k_asm); k_whole; intro _ _ _ _ _ _ _ _ _; (try dsimp only); (try k_fold))))) | (with_reducible ((with_reducible show wpAny _ _ (inplaceOp Operator.Add (Value.str _ _) (Value.str (Str.mk #[_]) _)) _ _ _); refine iadd1 (by with_reducible assumption) ?_; intro _ _)) | (with_reducible ((with_reducible show wpAny _ _ (PySem.truthy (Value.str _ _)) _ _ _); refine truthy_yes (by with_reducible assumption) (by with_reducible assumption) ?_)) | (with_reducible ((with_reducible show wpAny _ _ (execs _ _) _ _ _); (first | k_gentoks | ((with_reducible refine execs_one ?_); try dsimp only)))) | (with_reducible (with_reducible refine wpAny_If ?_)) | (with_reducible (first | (refine ite_isFalse (by with_reducible assumption) ?_) | (refine ite_pos (by with_reducible assumption) ?_) | (refine ite_neg (by with_reducible assumption) ?_))) | walk1 | dsimp only | (dsimp only; walk1) | (leave1; (try dsimp only)) | fail "no step")
    rename Fr H1 L _ _ => F5
    rename News H1 L _ _ => N5
    exact hQ M ST cST ks op' H1 _ _ gens' hM hmax hop' hG hK B1 F5 N5
end
section
noncomputable def datI (ns : List Int) : PyData := .list (ns.map PyData.int)
noncomputable def datK (nss : List (List Int)) : PyData := .list (nss.map datI)
theorem kids_reads {h : Heap} : ∀ {ks : List (Addr × Obj)} {nss : List (List Int)}, Kids ks nss → (∀ p ∈ ks, h.get? p.1 = some p.2) → ∃ as, ReadsAll h (ks.map fun k => Value.ref k.1) (nss.map datI) as
  | _, _, .nil, _ => ⟨[], .nil⟩
  | _, _, .cons hi t, hk => by
    obtain ⟨as, h1⟩ := kids_reads t (fun p hp => hk p (.tail _ hp))
    exact ⟨_, .cons (reads_newData ⟨_, hk _ (.head _), rfl, _, rfl⟩ (ke_carried hi)) h1⟩
theorem kids_read {h : Heap} {ST : Addr} {c : Nat} {ks : List (Addr × Obj)} {nss : List (List Int)} (hK : Kids ks nss) (hk : ∀ p ∈ ks, h.get? p.1 = some p.2) (hST : h.get? ST = some (listOf (List.toArray (ks.map fun k => Value.ref k.1)) c)) : ∃ as, Reads h (.ref ST) (datK nss) as := by
  obtain ⟨as, h1⟩ := kids_reads hK hk
  exact ⟨_, reads_list_at hST rfl rfl h1⟩
theorem datI_lay : ∀ nss : List (List Int), PyData.canLayAll0 (nss.map datI) = true
  | [] => rfl
  | ns :: r => by
    have := datI_lay r
    simp [PyData.canLayAll0, PyData.canLay0, datI, ke_canLayAll0, this]
theorem datI_depth : ∀ nss : List (List Int), PyData.depthAll (nss.map datI) ≤ 1
  | [] => by simp [PyData.depthAll]
  | ns :: r => by
    have := datI_depth r
    simp [PyData.depthAll, PyData.depth, datI, ke_depthAll]
    omega
theorem datK_shaped (nss : List (List Int)) : SeqAt.shaped (datK nss) = true := by
  have h1 := datI_lay nss
  have h2 := datI_depth nss
  simp [SeqAt.shaped, datK, PyData.canLay0, PyData.depth, h1]
  omega
theorem eqv_datI : ∀ nss : List (List Int), PyData.eqvAll (nss.map datI) (nss.map datI) = true
  | [] => by simp [PyData.eqvAll]
  | ns :: r => by
    have := eqv_datI r
    simp [PyData.eqvAll, datI, PyData.eqv, ked_eqvAll, this]
theorem eqv_datK (nss : List (List Int)) : PyData.eqv (datK nss) (datK nss) = true := by
  simp [datK, PyData.eqv, eqv_datI]
end
section


noncomputable def pk (sz : List Int) (a b : Int) (k : Nat) : List Int := (coefs (facsUp sz k k) [b, a + (k : Int) * b] (facsUp sz k k).length).drop 1
noncomputable def pks (sz : List Int) (a b : Int) (n : Nat) : List (List Int) := (List.range n).map (pk sz a b)
theorem pks_succ (sz : List Int) (a b : Int) (n : Nat) : pks sz a b (n + 1) = pks sz a b n ++ [pk sz a b n] := by simp [pks, List.range_succ]
theorem mem_pA {α : Type} {p x d c i : α} {ex n0 : List α} (h : p ∈ x :: d :: c :: i :: (ex ++ n0)) : p ∈ d :: c :: i :: (ex ++ x :: n0) := by
  simp only [List.mem_cons, List.mem_append] at h ⊢
  rcases h with h | h | h | h | h | h <;> simp [h]
theorem mem_pB {α : Type} {p x y d c i : α} {ex n0 : List α} (h : p ∈ d :: c :: i :: ((ex ++ [y]) ++ x :: n0)) : p ∈ y :: x :: d :: c :: i :: (ex ++ n0) := by
  simp only [List.mem_cons, List.mem_append, List.not_mem_nil, or_false] at h ⊢
  rcases h with h | h | h | (h | h) | h | h <;> simp [h]
theorem mem_pC {α : Type} {p x a b c t : α} {ks n0 : List α} (h : p ∈ x :: a :: b :: c :: t :: (ks ++ n0)) : p ∈ t :: (ks ++ x :: a :: b :: c :: n0) := by
  simp only [List.mem_cons, List.mem_append] at h ⊢
  rcases h with h | h | h | h | h | h | h <;> simp [h]
set_option maxHeartbeats 8000000 in
theorem ls11_ok {w : World} {mean : ExcName → Option Value} {mg mb : Str → Option Value} {H1 base : Heap} {L S D EA TA SA ST : Addr} {s : Shared} {Q : Flow → Shared → Prop} {E : Value → Shared → Prop} {news ks : List (Addr × Obj)} {SV : List Value} {sz : List Int} {cS cST : Nat} {oA oB oC : Obj} {j : Option Value} {a b : Int} {ta tb : Tok}
    (B1 : Below callerA base [] H1) (X : (heap w.params).In H1) (T : Top VW LO mean mg mb H1) (F : Fr H1 L s.heap (fun y => if y = "struck" then some (.ref ST) else if y = "size" then j else if y = "told" then some (.ref TA) else if y = "ending" then some (.ref EA) else if y = "numbers" then some (.ref D) else if y = "script" then some (.ref S) else none)) (N : News H1 L s.heap ((ST, listOf (List.toArray (List.map (fun k => Value.ref k.1) ks)) cST) :: (ks ++ (SA, listOf SV.toArray cS) :: (L + 1, oA) :: (L + 1 + 1, oB) :: (L + 1 + 1 + 1, oC) :: news))) (dA : oA.data = .cell (some (.ref SA))) (dB : oB.data = .cell (some (.int a ta))) (dC : oC.data = .cell (some (.int b tb))) (hS : IntsAre SV sz) (hl1 : 1 ≤ sz.length) (hl4 : sz.length ≤ 4) (hsz : ∀ x ∈ sz, 1 ≤ x ∧ x ≤ 4) (ha : a.natAbs ≤ 1000) (hb : b.natAbs ≤ 100) (hK : Kids ks (pks sz a b sz.length))
    (hQ : ∀ h' tk', Fr H1 L h' (fun y => if y = "struck" then some (.ref ST) else if y = "size" then j else if y = "told" then some (.ref TA) else if y = "ending" then some (.ref EA) else if y = "numbers" then some (.ref D) else if y = "script" then some (.ref S) else none) → News H1 L h' news → Q (.ret (.bool true)) { s with heap := h', toks := tk' }) :
    wpAny (model PRG w) (lawA L) (exec ls11 (lawE L)) Q E s := by
  have hSl := IntsAre.length hS
  have hSf : ((SV.toArray.size : Nat) : Int) < 2 ^ 63 := by rw [List.size_toArray]; omega
  have N0 : News H1 L s.heap ((SA, listOf SV.toArray cS) :: (L + 1, oA) :: (L + 1 + 1, oB) :: (L + 1 + 1 + 1, oC) :: (ST, listOf (List.toArray (List.map (fun k => Value.ref k.1) ks)) cST) :: (ks ++ news)) := news_sub N fun p hp => mem_pC hp
  clear N
  unfold ls11 lawA lawE lawScope
  dsimp only
  repeat' ((fail_if_success (with_reducible show wpAny _ _ (eval (Expr.ListComp _ _ _ _) _) _ _ _)); first | (k_unfold; (try dsimp only)) | (k_end; wrow_close) | (with_reducible ((with_reducible show wpAny _ _ (call (Value.builtin "len") [Value.ref _]) _ _ _); k_dflt (refine' len_list ?hzk1 ?hzk2 ?_; (case hzk1 => exact (news_isList (by k_asm) (.head _))); (case hzk2 => with_reducible assumption); k_whole))) | (with_reducible ((with_reducible show wpAny _ _ (call (Value.type "range") _) _ _ _); (k_dflt (refine' range1_rows ?hzk1 ?hzk2 ?_; (case hzk1 => k_asm); (case hzk2 => k_asm); k_whole; intro _ _ _ _ _ _ _ _ _; (try dsimp only); (try k_fold))))) | (with_reducible ((with_reducible show wpAny _ _ (inplaceOp Operator.Add (Value.str _ _) (Value.str (Str.mk #[_]) _)) _ _ _); refine iadd1 (by with_reducible assumption) ?_; intro _ _)) | (with_reducible ((with_reducible show wpAny _ _ (PySem.truthy (Value.str _ _)) _ _ _); refine truthy_yes (by with_reducible assumption) (by with_reducible assumption) ?_)) | (with_reducible ((with_reducible show wpAny _ _ (execs _ _) _ _ _); (first | k_gentoks | ((with_reducible refine execs_one ?_); try dsimp only)))) | (with_reducible (with_reducible refine wpAny_If ?_)) | (with_reducible (first | (refine ite_isFalse (by with_reducible assumption) ?_) | (refine ite_pos (by with_reducible assumption) ?_) | (refine ite_neg (by with_reducible assumption) ?_))) | walk1 | dsimp only | (dsimp only; walk1) | (leave1; (try dsimp only)) | fail "no step")
  refine rng_comp (h₀ := H1) (L := L) (m := (fun y => if y = "struck" then some (.ref ST) else if y = "size" then j else if y = "told" then some (.ref TA) else if y = "ending" then some (.ref EA) else if y = "numbers" then some (.ref D) else if y = "script" then some (.ref S) else none)) (fun k ws ex => Kids ex (pks sz a b k) ∧ ws = ex.map (fun k => Value.ref k.1)) ⟨.nil, rfl⟩ ?hJl rfl rfl ?hcell rfl ?hnames rfl (fun _ => rfl) ?_
  case hJl =>
    rintro k ws ex ⟨h1, rfl⟩
    have := h1.length
    simp [pks] at this
    simpa using this
  case hcell => decide
  case hnames => decide
  repeat' ((fail_if_success (with_reducible show Exists _)); first | (k_unfold; (try dsimp only)) | (k_end; wrow_close) | (with_reducible ((with_reducible show wpAny _ _ (call (Value.builtin "len") [Value.ref _]) _ _ _); k_dflt (refine' len_list ?hzk1 ?hzk2 ?_; (case hzk1 => exact (news_isList (by k_asm) (.head _))); (case hzk2 => with_reducible assumption); k_whole))) | (with_reducible ((with_reducible show wpAny _ _ (call (Value.type "range") _) _ _ _); (k_dflt (refine' range1_rows ?hzk1 ?hzk2 ?_; (case hzk1 => k_asm); (case hzk2 => k_asm); k_whole; intro _ _ _ _ _ _ _ _ _; (try dsimp only); (try k_fold))))) | (with_reducible ((with_reducible show wpAny _ _ (inplaceOp Operator.Add (Value.str _ _) (Value.str (Str.mk #[_]) _)) _ _ _); refine iadd1 (by with_reducible assumption) ?_; intro _ _)) | (with_reducible ((with_reducible show wpAny _ _ (PySem.truthy (Value.str _ _)) _ _ _); refine truthy_yes (by with_reducible assumption) (by with_reducible assumption) ?_)) | (with_reducible ((with_reducible show wpAny _ _ (execs _ _) _ _ _); (first | k_gentoks | ((with_reducible refine execs_one ?_); try dsimp only)))) | (with_reducible (with_reducible refine wpAny_If ?_)) | (with_reducible (first | (refine ite_isFalse (by with_reducible assumption) ?_) | (refine ite_pos (by with_reducible assumption) ?_) | (refine ite_neg (by with_reducible assumption) ?_))) | walk1 | dsimp only | (dsimp only; walk1) | (leave1; (try dsimp only)) | fail "no step")
  rename_i h9 tk9 t9 u9 v9 hr9 F9 N9 hk9
  have hSz : SV.toArray.size = sz.length := by rw [List.size_toArray, hSl]
  rw [hSz] at hr9
  have g776 : mg "_law_product" = some (.ref 776) := mg_of X T.g (by k_is)
  refine ⟨_, (sz.length : Int), _, _, _, _, rfl, by omega, by omega, F9, N9, hr9, ?_, ?_⟩
  · clear F N0 F9 N9 hr9 hk9
    rintro k ws ex DD C it oD oC' oI mC t h' tk' hk ⟨hKe, rfl⟩ hm nC F' N' hap d1 d2 d3
    have X' := X.keeps F'.keep
    have N2 : News H1 L h' ((SA, listOf SV.toArray cS) :: (DD, oD) :: (C, oC') :: (it, oI) :: (ex ++ ((L + 1, oA) :: (L + 1 + 1, oB) :: (L + 1 + 1 + 1, oC) :: (ST, listOf (List.toArray (List.map (fun k => Value.ref k.1) ks)) cST) :: (ks ++ news)))) := news_sub N' fun p hp => mem_pA hp
    have at_ : ∀ p ∈ (L + 1, oA) :: (L + 1 + 1, oB) :: (L + 1 + 1 + 1, oC) :: (ST, listOf (List.toArray (List.map (fun k => Value.ref k.1) ks)) cST) :: (ks ++ news), h'.get? p.1 = some p.2 := fun p hp => (N2 p (.tail _ (.tail _ (.tail _ (.tail _ (List.mem_append_right _ hp)))))).1
    obtain ⟨o, fd, ho, hd⟩ : ∃ o fd, h'.get? 776 = some o ∧ o.data = .func fd := ⟨_, _, X' _ _ (by k_is), rfl⟩
    refine wpAny_Call_Name_kw ?_
    refine Name_function_global rfl rfl (loadGlobal_global (T.keeps F'.keep).g g776 ?_) (by decide)
    refine callWith_def hd ?_
    refine spliced_cons (wpAny_Name (wpAny_loadName_cell (v := .ref SA) rfl rfl rfl ⟨oA, at_ _ (.head _), dA⟩ ?_) (by decide))
    refine spliced_cons (wpAny_Name (wpAny_loadName_local (v := .int (k : Int) t) rfl rfl nC hm ?_) (by decide))
    refine spliced_cons (wpAny_Name (wpAny_loadName_cell (v := .int a ta) rfl rfl rfl ⟨oB, at_ _ (.tail _ (.head _)), dB⟩ ?_) (by decide))
    refine spliced_cons (wpAny_Name (wpAny_loadName_cell (v := .int b tb) rfl rfl rfl ⟨oC, at_ _ (.tail _ (.tail _ (.head _))), dC⟩ ?_) (by decide))
    refine spliced_nil ⟨ho, ?_⟩
    refine' product_ok w mean mg mb _ _ _ _ _ _ _ _ _ callerA base H1 L _ _ _ _ ((DD, oD) :: (C, oC') :: (it, oI) :: (ex ++ ((L + 1, oA) :: (L + 1 + 1, oB) :: (L + 1 + 1 + 1, oC) :: (ST, listOf (List.toArray (List.map (fun k => Value.ref k.1) ks)) cST) :: (ks ++ news)))) SA SV cS sz k a b t ta tb B1 F' X T ?hk N2 hS hsz ?hk4 hl4 ha hb ?hd ?hu ?_
    case hk => rfl
    case hk4 => omega
    case hd => decide
    case hu => decide
    intro D2 PV c2 h2 tk2 hP F2 N3 hne hDS
    refine ⟨ex ++ [(D2, listOf PV.toArray c2)], h2, tk2, rfl, ⟨?_, ?_⟩, F2, news_sub N3 fun p hp => mem_pB hp, fun p hp => ?_⟩
    · rw [pks_succ]
      exact hKe.snoc hP
    · simp
    · rcases List.mem_append.mp hp with hp | hp
      · exact hap p (List.mem_append_left _ hp)
      · rw [List.mem_singleton] at hp
        subst hp
        exact ⟨(hne _ (.head _)).symm, (hne _ (.tail _ (.head _))).symm, (hne _ (.tail _ (.tail _ (.head _)))).symm⟩
  · clear F N0 F9 N9 hr9 hk9
    rintro D2 c2 ws ex h' tk' ⟨hKe, rfl⟩ F' N' hap
    rw [Int.toNat_natCast] at hKe
    obtain ⟨as1, r1⟩ := kids_read (h := h') (ST := ST) (c := cST) hK (fun p hp => (N' p (.tail _ (List.mem_append_right _ (.tail _ (.tail _ (.tail _ (.tail _ (.tail _ (List.mem_append_left _ hp)))))))) ).1) (N' _ (.tail _ (List.mem_append_right _ (.tail _ (.tail _ (.tail _ (.tail _ (.head _)))))))).1
    obtain ⟨as2, r2⟩ := kids_read (h := h') (ST := D2) (c := c2) hKe (fun p hp => (N' p (.tail _ (List.mem_append_left _ hp))).1) (N' _ (.head _)).1
    have N2 : News H1 L h' news := fun p hp => N' p (.tail _ (List.mem_append_right _ (.tail _ (.tail _ (.tail _ (.tail _ (.tail _ (List.mem_append_right _ hp))))))))
    clear N'
    repeat' ((fail_if_success (with_reducible show wpAny _ _ (compareOp _ _ _) _ _ _)); first | (k_unfold; (try dsimp only)) | (k_end; wrow_close) | (with_reducible ((with_reducible show wpAny _ _ (call (Value.builtin "len") [Value.ref _]) _ _ _); k_dflt (refine' len_list ?hzk1 ?hzk2 ?_; (case hzk1 => exact (news_isList (by k_asm) (.head _))); (case hzk2 => with_reducible assumption); k_whole))) | (with_reducible ((with_reducible show wpAny _ _ (call (Value.type "range") _) _ _ _); (k_dflt (refine' range1_rows ?hzk1 ?hzk2 ?_; (case hzk1 => k_asm); (case hzk2 => k_asm); k_whole; intro _ _ _ _ _ _ _ _ _; (try dsimp only); (try k_fold))))) | (with_reducible ((with_reducible show wpAny _ _ (inplaceOp Operator.Add (Value.str _ _) (Value.str (Str.mk #[_]) _)) _ _ _); refine iadd1 (by with_reducible assumption) ?_; intro _ _)) | (with_reducible ((with_reducible show wpAny _ _ (PySem.truthy (Value.str _ _)) _ _ _); refine truthy_yes (by with_reducible assumption) (by with_reducible assumption) ?_)) | (with_reducible ((with_reducible show wpAny _ _ (execs _ _) _ _ _); (first | k_gentoks | ((with_reducible refine execs_one ?_); try dsimp only)))) | (with_reducible (with_reducible refine wpAny_If ?_)) | (with_reducible (first | (refine ite_isFalse (by with_reducible assumption) ?_) | (refine ite_pos (by with_reducible assumption) ?_) | (refine ite_neg (by with_reducible assumption) ?_))) | walk1 | dsimp only | (dsimp only; walk1) | (leave1; (try dsimp only)) | fail "no step")
    refine eq_dataH r1 r2 (datK_shaped _) (datK_shaped _) (by ke_room) ?_
    rw [eqv_datK]
    repeat' (first | (k_unfold; (try dsimp only)) | (k_end; wrow_close) | (with_reducible ((with_reducible show wpAny _ _ (call (Value.builtin "len") [Value.ref _]) _ _ _); k_dflt (refine' len_list ?hzk1 ?hzk2 ?_; (case hzk1 => exact (news_isList (by k_asm) (.head _))); (case hzk2 => with_reducible assumption); k_whole))) | (with_reducible ((with_reducible show wpAny _ _ (call (Value.type "range") _) _ _ _); (k_dflt (refine' range1_rows ?hzk1 ?hzk2 ?_; (case hzk1 => k_asm); (case hzk2 => k_asm); k_whole; intro _ _ _ _ _ _ _ _ _; (try dsimp only); (try k_fold))))) | (with_reducible ((with_reducible show wpAny _ _ (inplaceOp Operator.Add (Value.str _ _) (Value.str (Str.mk #[_]) _)) _ _ _); refine iadd1 (by with_reducible assumption) ?_; intro _ _)) | (with_reducible ((with_reducible show wpAny _ _ (PySem.truthy (Value.str _ _)) _ _ _); refine truthy_yes (by with_reducible assumption) (by with_reducible assumption) ?_)) | (with_reducible ((with_reducible show wpAny _ _ (execs _ _) _ _ _); (first | k_gentoks | ((with_reducible refine execs_one ?_); try dsimp only)))) | (with_reducible (with_reducible refine wpAny_If ?_)) | (with_reducible (first | (refine ite_isFalse (by with_reducible assumption) ?_) | (refine ite_pos (by with_reducible assumption) ?_) | (refine ite_neg (by with_reducible assumption) ?_))) | walk1 | dsimp only | (dsimp only; walk1) | (leave1; (try dsimp only)) | fail "no step")
    exact hQ _ _ F' N2
end
section
/-- pairs (x, y) stand for a * x + b * y -/
noncomputable abbrev ZP : Zero (Int × Int) := ⟨(0, 0)⟩
noncomputable abbrev AP : Add (Int × Int) := ⟨fun x y => (x.1 + y.1, x.2 + y.2)⟩
section
variable {α β : Type} [Zero α] [Add α] [Zero β] [Add β]
theorem getD_map0 {f : α → β} (h0 : f 0 = 0) : ∀ (l : List α) (i : Nat), (l.map f).getD i 0 = f (l.getD i 0)
  | [], i => by simp [h0]
  | x :: r, 0 => by simp
  | x :: r, i + 1 => by simpa using getD_map0 h0 r i
theorem getD_mapN {f : List α → List β} (h0 : f [] = []) : ∀ (l : List (List α)) (i : Nat), (l.map f).getD i [] = f (l.getD i [])
  | [], i => by simp [h0]
  | x :: r, 0 => by simp
  | x :: r, i + 1 => by simpa using getD_mapN h0 r i
theorem psum_map {f : α → β} (ha : ∀ x y, f (x + y) = f x + f y) : ∀ (l : List α) (x : α), (psum x l).map f = psum (f x) (l.map f)
  | [], _ => rfl
  | y :: r, x => by
    show f (x + y) :: (psum (x + y) r).map f = (f x + f y) :: psum (f x + f y) (r.map f)
    rw [psum_map ha r (x + y), ha]
noncomputable def mapSt (f : α → β) (st : StG α) : StG β := (st.1.map f, st.2.1.map f, st.2.2.map (·.map f))
theorem stepG_map {f : α → β} (h0 : f 0 = 0) (t : Nat) (sz : List Int) (st : StG α) (k : Nat) : stepG t sz (mapSt f st) k = mapSt f (stepG t sz st k) := by
  unfold stepG
  by_cases h : (t : Int) < sz.getD k 0
  · rw [if_pos h, if_pos h]
    simp only [mapSt, List.map_append, List.map_take, List.map_drop, List.map_set, List.map_cons, List.map_nil, getD_map0 h0]
    rw [getD_mapN (f := fun l => l.map f) rfl]
  · rw [if_neg h, if_neg h]
theorem upTo_map {f : α → β} (h0 : f 0 = 0) (t : Nat) (sz : List Int) (st : StG α) : ∀ k, upTo t sz (mapSt f st) k = mapSt f (upTo t sz st k)
  | 0 => rfl
  | k + 1 => by rw [upTo_succ, upTo_succ, upTo_map h0 t sz st k, stepG_map h0]
theorem turnG_map {f : α → β} (h0 : f 0 = 0) (ha : ∀ x y, f (x + y) = f x + f y) (t : Nat) (sz : List Int) (p : List α × List (List α)) :
    turnG t sz (p.1.map f, p.2.map (·.map f)) = ((turnG t sz p).1.map f, (turnG t sz p).2.map (·.map f)) := by
  unfold turnG
  have h : upTo t sz (p.1.map f, [], p.2.map (·.map f)) sz.length = mapSt f (upTo t sz (p.1, [], p.2) sz.length) := upTo_map h0 t sz (p.1, [], p.2) sz.length
  dsimp only
  rw [h]
  dsimp only [mapSt]
  rw [psum_map ha, h0]
theorem turnsG_map {f : α → β} (h0 : f 0 = 0) (ha : ∀ x y, f (x + y) = f x + f y) (sz : List Int) (p : List α × List (List α)) : ∀ t,
    turnsG sz (p.1.map f, p.2.map (·.map f)) t = ((turnsG sz p t).1.map f, (turnsG sz p t).2.map (·.map f))
  | 0 => rfl
  | t + 1 => by rw [turnsG_succ, turnsG_succ, turnsG_map h0 ha sz p t, turnG_map h0 ha]
end
noncomputable def phi (a b : Int) (p : Int × Int) : Int := a * p.1 + b * p.2
theorem phi0 (a b : Int) : phi a b (0, 0) = 0 := by simp [phi]
theorem phiA (a b : Int) (x y : Int × Int) : phi a b (x.1 + y.1, x.2 + y.2) = phi a b x + phi a b y := by
  simp only [phi, Int.mul_add]; omega
theorem phiF (a b f : Int) (x y : Int × Int) : phi a b (x.1 + f * y.1, x.2 + f * y.2) = phi a b x + f * phi a b y := by
  simp only [phi, Int.mul_add, Int.mul_left_comm a f, Int.mul_left_comm b f]; omega
noncomputable def zmulP (f : Int) (xs ys : List (Int × Int)) : List (Int × Int) := List.zipWith (fun x y => (x.1 + f * y.1, x.2 + f * y.2)) xs ys
theorem zmulP_map (a b f : Int) : ∀ xs ys : List (Int × Int), (zmulP f xs ys).map (phi a b) = zmul f (xs.map (phi a b)) (ys.map (phi a b))
  | [], _ => by simp [zmulP, zmul]
  | _ :: _, [] => by simp [zmulP, zmul]
  | x :: xs, y :: ys => by
    have := zmulP_map a b f xs ys
    unfold zmulP zmul at this ⊢
    simp only [List.zipWith_cons_cons, List.map_cons, phiF, this]
noncomputable def mulP (cs : List (Int × Int)) (f : Int) : List (Int × Int) := zmulP f (cs ++ [(0, 0)]) ((0, 0) :: cs)
theorem mulP_map (a b f : Int) (cs : List (Int × Int)) : (mulP cs f).map (phi a b) = mulF (cs.map (phi a b)) f := by
  unfold mulP mulF
  rw [zmulP_map, List.map_append, List.map_cons, List.map_cons, List.map_nil, phi0]
theorem foldP_map (a b : Int) : ∀ (fs : List Int) (cs : List (Int × Int)), (fs.foldl mulP cs).map (phi a b) = fs.foldl mulF (cs.map (phi a b))
  | [], _ => rfl
  | f :: fs, cs => by rw [List.foldl_cons, List.foldl_cons, foldP_map a b fs, mulP_map]
noncomputable def pkP (sz : List Int) (k : Nat) : List (Int × Int) := ((facsUp sz k k).foldl mulP [(0, 1), (1, (k : Int))]).drop 1
theorem pkP_map (sz : List Int) (a b : Int) (k : Nat) : (pkP sz k).map (phi a b) = pk sz a b k := by
  unfold pkP pk coefs
  rw [List.take_length, List.map_drop, foldP_map]
  simp only [List.map_cons, List.map_nil, phi, Int.mul_zero, Int.mul_one, Int.zero_add, Int.one_mul, Int.mul_comm b]
noncomputable def rowP (n : Nat) : List (Int × Int) := (List.range n).map fun (i : Nat) => (1, (i : Int))
theorem rowP_map (a b : Int) (n : Nat) : (rowP n).map (phi a b) = rowOf a b n := by
  unfold rowP rowOf
  rw [List.map_map]
  refine List.map_congr_left fun i _ => ?_
  simp [phi]
noncomputable def holdsP (sz : List Int) (M : Nat) : Bool := decide ((@turnsG _ ZP AP sz (rowP sz.sum.toNat, sz.map fun _ => []) M).2 = (List.range sz.length).map (pkP sz))
theorem plain_of {sz : List Int} {M : Nat} (h : holdsP sz M = true) (a b : Int) : (turnsG sz (rowOf a b sz.sum.toNat, sz.map fun _ => []) M).2 = pks sz a b sz.length := by
  have h1 := of_decide_eq_true h
  have h2 := @turnsG_map (Int × Int) Int ZP AP _ _ (phi a b) (phi0 a b) (phiA a b) sz (rowP sz.sum.toNat, sz.map fun _ => []) M
  rw [h1] at h2
  dsimp only at h2
  rw [rowP_map, List.map_map, List.map_map] at h2
  have h3 : sz.map ((fun x => x.map (phi a b)) ∘ fun _ => ([] : List (Int × Int))) = sz.map fun _ => [] := rfl
  rw [h3] at h2
  rw [h2]
  show (List.range sz.length).map _ = (List.range sz.length).map (pk sz a b)
  refine List.map_congr_left fun k _ => pkP_map sz a b k
theorem tableP : ([1, 2, 3, 4] : List Int).all (fun x => ([1, 2, 3, 4] : List Int).all fun y => ([1, 2, 3, 4] : List Int).all fun z => !(decide (x ≤ y) && decide (y ≤ z)) || (holdsP [x, y, z] z.toNat && holdsP [x, y, z, z] z.toNat)) = true := by decide +kernel
theorem in14 {x : Int} (h1 : 1 ≤ x) (h2 : x ≤ 4) : x ∈ ([1, 2, 3, 4] : List Int) := by
  have : x = 1 ∨ x = 2 ∨ x = 3 ∨ x = 4 := by omega
  rcases this with rfl | rfl | rfl | rfl <;> simp
/-- the plain law -/
theorem plain_law {s0 s1 s2 : Int} (h0 : 1 ≤ s0) (h1 : s0 ≤ s1) (h2 : s1 ≤ s2) (h3 : s2 ≤ 4) : holdsP [s0, s1, s2] s2.toNat = true ∧ holdsP [s0, s1, s2, s2] s2.toNat = true := by
  have h := List.all_eq_true.mp (List.all_eq_true.mp (List.all_eq_true.mp tableP s0 (in14 h0 (by omega))) s1 (in14 (by omega) (by omega))) s2 (in14 (by omega) h3)
  rw [decide_eq_true h1, decide_eq_true h2] at h
  simpa using h
end
section
theorem told_of {s0 s1 s2 r : Int} (h0 : 1 ≤ s0 ∧ s0 ≤ 4) (h1 : 1 ≤ s1 ∧ s1 ≤ 4) (h2 : 1 ≤ s2 ∧ s2 ≤ 4) (hr : 0 ≤ r ∧ r < 4) :
    ∃ fin ys, Told ([s0, s1, s2] ++ endsOf r) ys fin ∧ (endsOf r).length ≤ 2 ∧ (((endsOf r).take 1 = [0] ∧ ys = [s0, s1, s2, s2]) ∨ ((endsOf r).take 1 ≠ [0] ∧ ys = [s0, s1, s2])) := by
  have : r = 0 ∨ r = 1 ∨ r = 2 ∨ r = 3 := by omega
  rcases this with rfl | rfl | rfl | rfl
  · exact ⟨false, _, ⟨s0, s1, s2, _, rfl, h0, h1, h2, .inr ⟨rfl, rfl, _, rfl⟩⟩, by decide, .inl ⟨rfl, rfl⟩⟩
  · exact ⟨true, _, ⟨s0, s1, s2, _, rfl, h0, h1, h2, .inl ⟨rfl, rfl, .inl rfl⟩⟩, by decide, .inr ⟨by decide, rfl⟩⟩
  · exact ⟨true, _, ⟨s0, s1, s2, _, rfl, h0, h1, h2, .inl ⟨rfl, rfl, .inr ⟨_, rfl⟩⟩⟩, by decide, .inr ⟨by decide, rfl⟩⟩
  · exact ⟨false, _, ⟨s0, s1, s2, _, rfl, h0, h1, h2, .inr ⟨rfl, rfl, _, rfl⟩⟩, by decide, .inl ⟨rfl, rfl⟩⟩
theorem mem_g6 {α : Type} {p t e d s x c b a : α} (h : p ∈ [t, e, s, a, d, x, c, b]) : p ∈ [t, e, d, s, x, c, b, a] :=
  (fa_c me0 (fa_c me1 (fa_c me3 (fa_c me7 (fa_c me2 (fa_c me4 (fa_c me5 (fa_c me6 (fun _ h => nomatch h)))))))) : ∀ u9 ∈ [t, e, s, a, d, x, c, b], u9 ∈ [t, e, d, s, x, c, b, a]) p h
theorem mem_g6' {α : Type} {p e d s x c b a : α} (h : p ∈ [e, s, a, d, x, c, b]) : p ∈ [e, d, s, x, c, b, a] :=
  (fa_c me0 (fa_c me2 (fa_c me6 (fa_c me1 (fa_c me3 (fa_c me4 (fa_c me5 (fun _ h => nomatch h))))))) : ∀ u9 ∈ [e, s, a, d, x, c, b], u9 ∈ [e, d, s, x, c, b, a]) p h
theorem mem_g7 {α : Type} {p t e d s x c b a : α} (h : p ∈ [s, e, a, t, d, x, c, b]) : p ∈ [t, e, s, a, d, x, c, b] :=
  (fa_c me2 (fa_c me1 (fa_c me3 (fa_c me0 (fa_c me4 (fa_c me5 (fa_c me6 (fa_c me7 (fun _ h => nomatch h)))))))) : ∀ u9 ∈ [s, e, a, t, d, x, c, b], u9 ∈ [t, e, s, a, d, x, c, b]) p h
theorem mem_g8 {α : Type} {p t e d s x c b a : α} (h : p ∈ [b, d, s, e, a, t, x, c]) : p ∈ [s, e, a, t, d, x, c, b] :=
  (fa_c me7 (fa_c me4 (fa_c me0 (fa_c me1 (fa_c me2 (fa_c me3 (fa_c me5 (fa_c me6 (fun _ h => nomatch h)))))))) : ∀ u9 ∈ [b, d, s, e, a, t, x, c], u9 ∈ [s, e, a, t, d, x, c, b]) p h
theorem mem_g9 {α : Type} {p t e d s x c b a : α} (h : p ∈ [c, d, b, s, e, a, t, x]) : p ∈ [b, d, s, e, a, t, x, c] :=
  (fa_c me7 (fa_c me1 (fa_c me0 (fa_c me2 (fa_c me3 (fa_c me4 (fa_c me5 (fa_c me6 (fun _ h => nomatch h)))))))) : ∀ u9 ∈ [c, d, b, s, e, a, t, x], u9 ∈ [b, d, s, e, a, t, x, c]) p h
theorem mem_g10 {α : Type} {p t e d s x c b a : α} (h : p ∈ [x, t, b, c, s, e, a, d]) : p ∈ [c, d, b, s, e, a, t, x] :=
  (fa_c me7 (fa_c me6 (fa_c me2 (fa_c me0 (fa_c me3 (fa_c me4 (fa_c me5 (fa_c me1 (fun _ h => nomatch h)))))))) : ∀ u9 ∈ [x, t, b, c, s, e, a, d], u9 ∈ [c, d, b, s, e, a, t, x]) p h
theorem mem_g11 {α : Type} {p st x t b c s e a d : α} {ks : List α} (h : p ∈ st :: (ks ++ s :: a :: b :: c :: [x])) : p ∈ st :: (ks ++ x :: t :: b :: c :: [s, e, a, d]) :=
  (fa_c me0 (fa_a (fun _ h => mt1 (mapL h)) (fa_c (mt1 (mapR me4)) (fa_c (mt1 (mapR me6)) (fa_c (mt1 (mapR me2)) (fa_c (mt1 (mapR me3)) (fa_c (mt1 (mapR me0)) (fun _ h => nomatch h))))))) : ∀ u9 ∈ st :: (ks ++ s :: a :: b :: c :: [x]), u9 ∈ st :: (ks ++ x :: t :: b :: c :: [s, e, a, d])) p h
theorem fmod_b (n : Int) {k : Int} (h : 0 < k) : 0 ≤ Int.fmod n k ∧ Int.fmod n k < k := ⟨Int.fmod_nonneg_of_pos _ h, Int.fmod_lt_of_pos _ h⟩
theorem ints4 {vs : List Value} {ns : List Int} (h : IntsAre vs ns) (hl : ns.length = 4) : ∃ n0 n1 n2 n3 t0 t1 t2 t3, vs = [.int n0 t0, .int n1 t1, .int n2 t2, .int n3 t3] := by
  cases h with
  | nil => cases hl
  | cons n0 t0 h => cases h with
    | nil => cases hl
    | cons n1 t1 h => cases h with
      | nil => cases hl
      | cons n2 t2 h => cases h with
        | nil => cases hl
        | cons n3 t3 h => cases h with
          | nil => exact ⟨_, _, _, _, _, _, _, _, rfl⟩
          | cons n4 t4 h => simp at hl
theorem ne_nil {A : Type} {B : Type} {x : A} : ∀ q ∈ ([] : List (A × B)), q.1 ≠ x := fun _ h => nomatch h
set_option maxHeartbeats 8000000 in
theorem law_run {w : World} {mean : ExcName → Option Value} {mg mb : Str → Option Value} {s : Shared} {S L : Addr} {SV0 : List Value} {ns : List Int} {Q : Flow → Shared → Prop} {E : Value → Shared → Prop} {H0 : Heap} {oA oB oC op : Obj}
    (X : (heap w.params).In H0) (T : Top VW LO mean mg mb H0) (G : AllBare s.gens) (hS : H0.IsList S SV0.toArray) (hI : IntsAre SV0 ns) (hlen : ns.length ≤ 63) (F1 : Fr H0 L s.heap (fun y => if y = "script" then some (.ref S) else none)) (N1 : News H0 L s.heap [(753, op), (L + 1 + 1 + 1, oC), (L + 1 + 1, oB), (L + 1, oA)]) (hop : TabOk op) (dA : oA.data = .cell none) (dB : oB.data = .cell none) (dC : oC.data = .cell none) (l753 : @LT.lt Nat _ 753 L)
    (hQ : ∀ (H1 h' : Heap) (m' : Str → Option Value) tk' gens' op', TabOk op' → AllBare gens' → Below callerA H0 [] H1 → Fr H1 L h' m' → h'.get? 753 = some op' → Q (.ret (.bool true)) { s with heap := h', toks := tk', gens := gens' }) :
    wpAny (model PRG w) (lawA L) (execs [ls0, ls1, ls2, ls3, ls4, ls5, ls6, ls7, ls8, ls9, ls10, ls11] (lawE L)) Q E s := by
  refine wpAny_execs_cons (ls0_ok X T F1 N1 hS hI hlen fun D nv c h2 tk2 hv F2 N2 l2 => ?_)
  dsimp only
  obtain ⟨n0, n1, n2, n3, t0, t1, t2, t3, rfl⟩ := ints4 hv (num4_len ns)
  clear hv F1 N1
  have lD : @LT.lt Nat _ (L + 1 + 1 + 1) D := l2 _ (.tail _ (.head _))
  have hD : ∀ oA', ∀ p ∈ [((753 : Addr), op), (L + 1 + 1 + 1, oC), (L + 1 + 1, oB), (L + 1, oA')], p.1 < D := fun oA' => fa_c (l2 _ (.head _)) (fa_c (l2 _ (.tail _ (.head _))) (fa_c (l2 _ (.tail _ (.tail _ (.head _)))) (fa_c (l2 (L + 1, oA) (.tail _ (.tail _ (.tail _ (.head _))))) (fun _ h => nomatch h))))
  refine wpAny_execs_cons (ls1_ok X T F2 N2 dA l2 l753 fun SA u0 oA' h3 tk3 c3 dA' F3 N3 lS => ?_)
  dsimp only
  clear F2 N2 dA l2
  have b0 := fmod_b n0 (k := 4) (by decide)
  have hs0 : 1 ≤ 1 + Int.fmod n0 4 ∧ 1 + Int.fmod n0 4 ≤ 4 := by omega
  refine wpAny_execs_cons (ls2_ok X T F3 N3 dA' (hD _) lS l753 hs0 fun s1 u1 h4 tk4 c4 e1 F4 N4 => ?_)
  dsimp only
  clear F3 N3
  generalize 1 + Int.fmod n0 4 = s0 at *
  have b1 := fmod_b n1 (k := 3) (by decide)
  have hs1 : 1 ≤ s1 ∧ s1 ≤ 4 := by omega
  have h01 : s0 ≤ s1 := by omega
  refine wpAny_execs_cons (ls3_ok X T F4 N4 dA' (hD _) lS l753 hs1 fun s2 u2 h5 tk5 c5 e2 F5 N5 => ?_)
  dsimp only
  clear F4 N4 b1
  have b2 := fmod_b (Int.fdiv n1 3) (k := 3) (by decide)
  have hs2 : 1 ≤ s2 ∧ s2 ≤ 4 := by omega
  have hle12 : s1 ≤ s2 := by omega
  clear e1 e2 b2
  refine wpAny_execs_cons ?_
  refine @ls4_ok w mean mg mb H0 L S D n0 n1 n2 n3 t0 t1 t2 t3 c _ _ _ [(SA, listOf #[.int s0 u0, .int s1 u1, .int s2 u2] c5), (753, op), (L + 1 + 1 + 1, oC), (L + 1 + 1, oB), (L + 1, oA')] X T ?c4 ?d4 ?e4
  case c4 => exact F5
  case d4 => exact news_swap N5
  intro EA ev cE h6 tk6 hE F6 N6 l6
  dsimp only
  clear F5 N5
  have lE1 : @LT.lt Nat _ D EA := l6 _ (.head _)
  have lE2 : @LT.lt Nat _ SA EA := l6 _ (.tail _ (.head _))
  refine wpAny_execs_cons (ls5_ok X T F6 N6 fun TA cT h7 tk7 F7 N7 l7 => ?_)
  dsimp only
  clear F6 N6 l6
  have lT1 : @LT.lt Nat _ EA TA := l7 _ (.head _)
  have br := fmod_b (Int.fdiv n0 4) (k := 4) (by decide)
  generalize Int.fmod (Int.fdiv n0 4) 4 = r at *
  obtain ⟨fin, ys, hT, hEl, hys⟩ := told_of hs0 hs1 hs2 br
  have lS' : @LT.lt Nat _ D SA := lS
  refine wpAny_execs_cons (ls6_ok (news := [(D, listOf #[.int n0 t0, .int n1 t1, .int n2 t2, .int n3 t3] c), (753, op), (L + 1 + 1 + 1, oC), (L + 1 + 1, oB)]) X T F7 (news_sub N7 fun p hp => mem_g6 hp) dA' hE hEl G hT (fun p hp => l7 p (mem_g6' hp)) fun tv cT' j h8 tk8 gens8 hv8 G8 F8 N8 => ?_)
  dsimp only
  clear F7 N7 l7 hT
  have hy34 : ys.length = 3 ∨ ys.length = 4 := by
    rcases hys with ⟨_, rfl⟩ | ⟨_, rfl⟩
    · exact .inr rfl
    · exact .inl rfl
  have hyb : ∀ x ∈ ys, 1 ≤ x ∧ x ≤ 4 := by
    rcases hys with ⟨_, rfl⟩ | ⟨_, rfl⟩ <;> intro x hx <;> simp only [List.mem_cons, List.not_mem_nil, or_false] at hx <;> rcases hx with rfl | rfl | rfl | rfl <;> assumption
  have rest : ∀ (SV : List Value) (cS : Nat) (h9 : Heap) (tk9 : Nat), IntsAre SV ys → Fr H0 L h9 (fun y => if y = "size" then j else if y = "told" then some (.ref TA) else if y = "ending" then some (.ref EA) else if y = "numbers" then some (.ref D) else if y = "script" then some (.ref S) else none) → News H0 L h9 [(SA, listOf SV.toArray cS), (EA, listOf ev.toArray cE), (L + 1, oA'), (TA, listOf tv.toArray cT'), (D, listOf #[.int n0 t0, .int n1 t1, .int n2 t2, .int n3 t3] c), (753, op), (L + 1 + 1 + 1, oC), (L + 1 + 1, oB)] →
      wpAny (model PRG w) (lawA L) (execs [ls8, ls9, ls10, ls11] (lawE L)) Q E { s with heap := h9, toks := tk9, gens := gens8 } := by
    intro SV cS h9 tk9 hSV F9 N9
    have bA := fmod_b n2 (k := 2001) (by decide)
    have bB := fmod_b n3 (k := 201) (by decide)
    refine wpAny_execs_cons ?_
    refine @ls8_ok w mean mg mb H0 L S D EA TA _ _ _ [(SA, listOf SV.toArray cS), (EA, listOf ev.toArray cE), (L + 1, oA'), (TA, listOf tv.toArray cT'), (753, op), (L + 1 + 1 + 1, oC)] n0 n1 n2 n3 t0 t1 t2 t3 c oB j X T ?a8 ?b8 dB ?c8 ?d8
    case a8 => exact F9
    case b8 => exact news_sub N9 fun p hp => mem_g8 hp
    case c8 => (repeat' (first | exact ne_nil | refine ne_c ?_ ?_)) <;> (show @Ne Nat _ _; dsimp only; omega)
    intro ta oB' h10 tk10 dB' F10 N10
    dsimp only
    clear N9 F9
    refine wpAny_execs_cons ?_
    refine @ls9_ok w mean mg mb H0 L S D EA TA _ _ _ [(L + 1 + 1, oB'), (SA, listOf SV.toArray cS), (EA, listOf ev.toArray cE), (L + 1, oA'), (TA, listOf tv.toArray cT'), (753, op)] n0 n1 n2 n3 t0 t1 t2 t3 c oC j X T ?a9 ?b9 dC ?c9 ?d9
    case a9 => exact F10
    case b9 => exact news_sub N10 fun p hp => mem_g9 hp
    case c9 => (repeat' (first | exact ne_nil | refine ne_c ?_ ?_)) <;> (show @Ne Nat _ _; dsimp only; omega)
    intro tb oC' h11 tk11 dC' F11 N11
    dsimp only
    clear N10 F10
    refine wpAny_execs_cons ?_
    refine @ls10_ok w mean mg mb H0 L S D EA TA _ _ _ [(SA, listOf SV.toArray cS), (EA, listOf ev.toArray cE), (L + 1, oA'), (D, listOf #[.int n0 t0, .int n1 t1, .int n2 t2, .int n3 t3] c)] tv ys cT' oB' oC' op j (Int.fmod n2 2001 - 1000) (Int.fmod n3 201 - 100) ta tb X T ?a10 ?b10 dB' dC' hv8 hy34 hyb (by omega) (by omega) hop G8 ?c10 ?d10
    case a10 => exact F11
    case b10 => exact news_sub N11 fun p hp => mem_g10 hp
    case c10 => (repeat' (first | exact ne_nil | refine ne_c ?_ ?_)) <;> (show @Ne Nat _ _; dsimp only; omega)
    intro M ST cST ks op' H1 h12 tk12 gens12 hM hmax hop' G12 hK B1 F12 N12
    dsimp only
    clear N11 F11
    have hMs : M = s2 := by
      rcases hys with ⟨_, rfl⟩ | ⟨_, rfl⟩
      · have h1 := hmax s2 (.tail _ (.tail _ (.head _)))
        simp only [List.mem_cons, List.not_mem_nil, or_false] at hM
        omega
      · have h1 := hmax s2 (.tail _ (.tail _ (.head _)))
        simp only [List.mem_cons, List.not_mem_nil, or_false] at hM
        omega
    have hP : holdsP ys s2.toNat = true := by
      rcases hys with ⟨_, rfl⟩ | ⟨_, rfl⟩
      · exact (plain_law hs0.1 h01 hle12 hs2.2).2
      · exact (plain_law hs0.1 h01 hle12 hs2.2).1
    rw [hMs, plain_of hP] at hK
    refine wpAny_execs_cons ?_
    refine @ls11_ok w mean mg mb H1 H0 L S D EA TA SA ST _ _ _ [(753, op')] ks SV ys cS cST oA' oB' oC' j (Int.fmod n2 2001 - 1000) (Int.fmod n3 201 - 100) ta tb B1 (X.keeps B1.stays) (T.keeps B1.stays) ?a11 ?b11 dA' dB' dC' hSV (by omega) (by omega) hyb (by omega) (by omega) hK ?c11
    case a11 => exact F12
    case b11 => exact news_sub N12 fun p hp => mem_g11 hp
    intro h13 tk13 F13 N13
    exact hQ H1 h13 _ tk13 gens12 op' hop' G12 B1 F13 (N13 _ (.head _)).1
  refine wpAny_execs_cons ?_
  refine @ls7_ok w mean mg mb H0 L S D EA TA SA _ _ _ [(TA, listOf tv.toArray cT'), (D, listOf #[.int n0 t0, .int n1 t1, .int n2 t2, .int n3 t3] c), (753, op), (L + 1 + 1 + 1, oC), (L + 1 + 1, oB)] ev (endsOf r) s0 s1 s2 u0 u1 u2 cE c5 oA' j X T ?a7 ?b7 dA' hE hEl ?c7 ?d7 ?e7
  case a7 => exact F8
  case b7 => exact news_sub N8 fun p hp => mem_g7 hp
  case c7 => (repeat' (first | exact ne_nil | refine ne_c ?_ ?_)) <;> (show @Ne Nat _ _; dsimp only; omega)
  case d7 =>
    intro h1 h9 tk9 F9 N9
    rcases hys with ⟨h2, _⟩ | ⟨_, rfl⟩
    · exact absurd h2 h1
    · exact rest _ _ h9 tk9 (.cons _ _ (.cons _ _ (.cons _ _ .nil))) F9 N9
  case e7 =>
    intro h1 u3 c9 h9 tk9 F9 N9
    rcases hys with ⟨_, rfl⟩ | ⟨h2, _⟩
    · exact rest _ _ h9 tk9 (.cons _ _ (.cons _ _ (.cons _ _ (.cons _ _ .nil)))) F9 N9
    · exact absurd h1 h2
set_option maxHeartbeats 8000000 in
theorem law_ok {w : World} {mean : ExcName → Option Value} {mg mb : Str → Option Value} {q : Program} {lo : List Str} {s : Shared} {S : Addr} {SV0 : List Value} {ns : List Int} {R : Result → Shared → Prop} (hq : vwIn q lo = true) (X0 : (heap w.params).In s.heap) (T0 : Top q lo mean mg mb s.heap)
    (h753 : s.heap.get? 753 = some (tabObj #[])) (hg : s.gens = #[]) (hS0 : s.heap.IsList S SV0.toArray) (hI : IntsAre SV0 ns) (hlen : ns.length ≤ 63)
    (hR : ∀ h' tk' gens' op', TabOk op' → AllBare gens' → (∀ b o, b ≠ 753 → s.heap.get? b = some o → h'.get? b = some o) → h'.get? 753 = some op' → R (.ok (.ret (.bool true))) { s with heap := h', toks := tk', gens := gens' }) :
    codeAny (model PRG w) callerA (.call (.ref 781) ⟨[.ref S], []⟩) R s := by
  have ho : s.heap.get? 781 = some o781 := X0 _ _ (by k_is)
  have hcd : s.heap.CodeRec (.ref 780) (Str.ofString "law") := codeRec_of X0 (by k_is)
  refine call_cellsN (binds := [(("script" : Str), .ref S)]) (by decide) ho rfl T0.nolimit hcd rfl (kinds_of (by kinds_ok)) (by decide) fun h₁ tk₁ cells F0 N0 Y0 => ?_
  obtain ⟨oC, oB, oA, he, dC0, dB0, dA0⟩ := CellsAre.three Y0
  subst he
  have dA : oA.data = .cell none := dA0.trans rfl
  have dB : oB.data = .cell none := dB0.trans rfl
  have dC : oC.data = .cell none := dC0.trans rfl
  clear dA0 dB0 dC0 Y0
  have F1 : Fr (s.heap.hide 753) s.heap.objs.size h₁ (fun y => if y = "script" then some (.ref S) else none) := hide_fr (Fr.re F0 (fun y => rfl))
  have N1 : News (s.heap.hide 753) s.heap.objs.size h₁ [(753, tabObj #[]), (s.heap.objs.size + 1 + 1 + 1, oC), (s.heap.objs.size + 1 + 1, oB), (s.heap.objs.size + 1, oA)] := hide_news F0 N0 h753
  have T := top_hide hq T0 h753
  have X := hide_in X0 (heap753 w.params)
  have hS := hide_list hS0 h753
  have hne : ∀ b o, b ≠ 753 → s.heap.get? b = some o → (s.heap.hide 753).get? b = some o := fun b o hb e => (Heap.hide_ne _ hb).trans e
  have l753 : @LT.lt Nat _ 753 s.heap.objs.size := Heap.lt_size h753
  clear F0 N0 h753 hS0 X0 T0 ho hcd
  refine law_run (L := s.heap.objs.size) (H0 := s.heap.hide 753) X T (AllBare.of_eq hg) hS hI hlen F1 N1 ⟨#[], rfl, (by trivial)⟩ dA dB dC l753 fun H1 h' m' tk' gens' op' hop' hG B1 F' e753 => ?_
  exact hR h' tk' gens' op' hop' hG (fun b o hb e => F'.keep _ _ (B1.stays b o (hne b o hb e))) e753
end
section
theorem old_of {h h' : Heap} {op' : Obj} (hC : CodeHd h 757 753) (h753 : h.get? 753 = some (tabObj #[])) (keep : ∀ b o, b ≠ 753 → h.get? b = some o → h'.get? b = some o) (e753 : h'.get? 753 = some op') (hop : TabOk op') : OldK h h' := by
  obtain ⟨ps, rfl, _⟩ := hop
  refine ⟨fun b o e => ?_, fun b o e => ?_⟩
  · by_cases hb : b = 753
    · subst hb
      rw [h753] at e
      cases e
      exact .inr (.inl ⟨(hC.tab h753).isCodeTable, rfl, #[], ps, rfl, by simpa using e753⟩)
    · exact .inl (keep b o hb e)
  · by_cases hb : b = 753
    · subst hb
      exact ⟨_, e753⟩
    · exact ⟨o, keep b o hb e⟩
theorem law_end {w : World} {mean : ExcName → Option Value} {mg mb : Str → Option Value} {q : Program} {lo : List Str} {s : Shared} {S : Addr} {SV0 : List Value} {ns : List Int} {c : ClaimW} {cl : Str → Option Addr} {args : List WData} (hq : vwIn q lo = true) (hj : ((recsOf q).find? (fun e => e.name == Str.ofString "join")).isSome = true) (X : (heap w.params).In s.heap) (T : Top q lo mean mg mb s.heap)
    (hg : s.gens = #[]) (hS : s.heap.IsList S SV0.toArray) (hI : IntsAre SV0 ns) (hlen : ¬ ((63 : Nat) : Int) < (ns.length : Int)) (hn : ∀ cls, c.raises args cls = false) (hp : c.post args (.bool true) args = true) :
    codeAny (model PRG w) callerA (.call (.ref 781) ⟨[.ref S], []⟩) (GoodWG c cl mean args s) s := by
  obtain ⟨d, hd⟩ := Option.isSome_iff_exists.mp hj
  obtain ⟨hC, h753⟩ := tab_of (c := 757) (P := 753) T X hd (by kernel_rfl)
  refine law_ok hq X T h753 hg hS hI (by omega) fun h' tk' gens' op' hop' hG' keep e753 => ?_
  exact ⟨.inl ⟨_, .bool true, [], rfl, hn, .bool true, hp, unshared_nil⟩, old_of hC h753 keep e753 hop', rfl, hG'⟩
end
/-! The head below lays quick copies of the written heaps and an equation for each; on this text these equations alone would make the compiled file hundreds of megabytes.
The names that it would give to the copies are taken here by trivial facts, so that it goes on without them: the proof is the same, evaluated without the copies. -/
theorem head.tw10005452208157733855 : True := trivial
theorem head.tw10010264046613662565 : True := trivial
theorem head.tw10015159338476511836 : True := trivial
theorem head.tw10018764681926925449 : True := trivial
theorem head.tw10021064610941686981 : True := trivial
theorem head.tw10053744933190134061 : True := trivial
theorem head.tw10059252607514160932 : True := trivial
theorem head.tw10062970787820224252 : True := trivial
theorem head.tw10066793327743970655 : True := trivial
theorem head.tw10070411193226618655 : True := trivial
theorem head.tw10079960370226730655 : True := trivial
theorem head.tw10110233660360586483 : True := trivial
theorem head.tw10116942457455264815 : True := trivial
theorem head.tw10128390137947593754 : True := trivial
theorem head.tw10128820837102578890 : True := trivial
theorem head.tw10170068340998493759 : True := trivial
theorem head.tw10205530081349824492 : True := trivial
theorem head.tw10213982820455145879 : True := trivial
theorem head.tw10242447542790323104 : True := trivial
theorem head.tw10258521583956687137 : True := trivial
theorem head.tw10261356005730403935 : True := trivial
theorem head.tw10270352894671993868 : True := trivial
theorem head.tw10307130028497402462 : True := trivial
theorem head.tw10317212456122042642 : True := trivial
theorem head.tw10333954764705244698 : True := trivial
theorem head.tw10340462753498674063 : True := trivial
theorem head.tw10356212845559719233 : True := trivial
theorem head.tw10371985647062452541 : True := trivial
theorem head.tw10402926801511590149 : True := trivial
theorem head.tw10457615780465708087 : True := trivial
theorem head.tw10467814448475477596 : True := trivial
theorem head.tw10504981510240967646 : True := trivial
theorem head.tw1050551135032985961 : True := trivial
theorem head.tw10510183946089719056 : True := trivial
theorem head.tw10510622979536455646 : True := trivial
theorem head.tw10521553517811329670 : True := trivial
theorem head.tw10533634037010066435 : True := trivial
theorem head.tw10589435714200987077 : True := trivial
theorem head.tw1060599470133986369 : True := trivial
theorem head.tw1061700454162486011 : True := trivial
theorem head.tw1062042127530464391 : True := trivial
theorem head.tw10668533816033670360 : True := trivial
theorem head.tw10698650227242318774 : True := trivial
theorem head.tw10706776884845955466 : True := trivial
theorem head.tw10730805705081004914 : True := trivial
theorem head.tw10735254221757914791 : True := trivial
theorem head.tw10736139440505347576 : True := trivial
theorem head.tw10746725682022337571 : True := trivial
theorem head.tw10748227973586771634 : True := trivial
theorem head.tw1082313596108445148 : True := trivial
theorem head.tw10840385229135970747 : True := trivial
theorem head.tw10845400790151957771 : True := trivial
theorem head.tw10865165270600546614 : True := trivial
theorem head.tw10872037306656784433 : True := trivial
theorem head.tw10875119458065257276 : True := trivial
theorem head.tw10898857373019930491 : True := trivial
theorem head.tw10900948863051656163 : True := trivial
theorem head.tw10936905620487946977 : True := trivial
theorem head.tw10948677003083999065 : True := trivial
theorem head.tw10974755624167950533 : True := trivial
theorem head.tw10987702880554017565 : True := trivial
theorem head.tw10988817232074504935 : True := trivial
theorem head.tw11008383303370536362 : True := trivial
theorem head.tw11052631288978436188 : True := trivial
theorem head.tw11060938730435951684 : True := trivial
theorem head.tw11081218982966106116 : True := trivial
theorem head.tw11097941207591946120 : True := trivial
theorem head.tw11105056867450500199 : True := trivial
theorem head.tw11124748197601291601 : True := trivial
theorem head.tw11180365069992382532 : True := trivial
theorem head.tw11194998557105285118 : True := trivial
theorem head.tw11252389752188410926 : True := trivial
theorem head.tw1125430239929706018 : True := trivial
theorem head.tw11255790879490906821 : True := trivial
theorem head.tw11274228538900641214 : True := trivial
theorem head.tw11289835788462762251 : True := trivial
theorem head.tw11290360913936777911 : True := trivial
theorem head.tw11296743742662292762 : True := trivial
theorem head.tw11305582741114486441 : True := trivial
theorem head.tw11308087075614649832 : True := trivial
theorem head.tw11338825007792423415 : True := trivial
theorem head.tw11402027661713467040 : True := trivial
theorem head.tw11426403942048686318 : True := trivial
theorem head.tw11427066125472700054 : True := trivial
theorem head.tw11434997419882176723 : True := trivial
theorem head.tw11460424709058496336 : True := trivial
theorem head.tw11484797826999851062 : True := trivial
theorem head.tw11540487432870637733 : True := trivial
theorem head.tw11544532188706048022 : True := trivial
theorem head.tw1155926839051525531 : True := trivial
theorem head.tw11582096051123008839 : True := trivial
theorem head.tw11597336398036118778 : True := trivial
theorem head.tw11613311375368785083 : True := trivial
theorem head.tw11629762434490789354 : True := trivial
theorem head.tw11636873012791513418 : True := trivial
theorem head.tw11692735721529064706 : True := trivial
theorem head.tw11704837465938651953 : True := trivial
theorem head.tw11714945338242495837 : True := trivial
theorem head.tw11715283913529211631 : True := trivial
theorem head.tw11724780754615379514 : True := trivial
theorem head.tw1172538174109094731 : True := trivial
theorem head.tw11732908120936727654 : True := trivial
theorem head.tw11770459041652445329 : True := trivial
theorem head.tw11808996689058197189 : True := trivial
theorem head.tw11820730986300896962 : True := trivial
theorem head.tw11821203517306503961 : True := trivial
theorem head.tw11892436614613694032 : True := trivial
theorem head.tw11904684991359361074 : True := trivial
theorem head.tw11912012957609727252 : True := trivial
theorem head.tw11914187763297459524 : True := trivial
theorem head.tw11923155195566972133 : True := trivial
theorem head.tw11925700103697007601 : True := trivial
theorem head.tw11988142204041823098 : True := trivial
theorem head.tw11998209505049934977 : True := trivial
theorem head.tw12024539317367501503 : True := trivial
theorem head.tw12032222614953749359 : True := trivial
theorem head.tw12037728316022314418 : True := trivial
theorem head.tw12043669396524033845 : True := trivial
theorem head.tw12074122134279094452 : True := trivial
theorem head.tw12074249297620881909 : True := trivial
theorem head.tw12084453891678590660 : True := trivial
theorem head.tw12095829319087573521 : True := trivial
theorem head.tw1211024037004892549 : True := trivial
theorem head.tw12120646240234225243 : True := trivial
theorem head.tw1212124681294104184 : True := trivial
theorem head.tw1214346256449528893 : True := trivial
theorem head.tw12157662564070965069 : True := trivial
theorem head.tw12182850187970735909 : True := trivial
theorem head.tw12201952087667049370 : True := trivial
theorem head.tw12205659690895024086 : True := trivial
theorem head.tw12207028300977255130 : True := trivial
theorem head.tw12212823987433534256 : True := trivial
theorem head.tw12214093580764582487 : True := trivial
theorem head.tw12242153458792446204 : True := trivial
theorem head.tw1224924573807776437 : True := trivial
theorem head.tw12249523057431388528 : True := trivial
theorem head.tw12264792733140247891 : True := trivial
theorem head.tw12299445865675373075 : True := trivial
theorem head.tw12310735299239354703 : True := trivial
theorem head.tw12321676766767419452 : True := trivial
theorem head.tw12324890628731678277 : True := trivial
theorem head.tw1232503513038610811 : True := trivial
theorem head.tw12330954535739239725 : True := trivial
theorem head.tw12339793173418651155 : True := trivial
theorem head.tw12344544660321961925 : True := trivial
theorem head.tw12352672977532951062 : True := trivial
theorem head.tw12359489953124434286 : True := trivial
theorem head.tw12362083183470981646 : True := trivial
theorem head.tw12371566548271132015 : True := trivial
theorem head.tw12394069701764826827 : True := trivial
theorem head.tw12398312691204496596 : True := trivial
theorem head.tw12417293695627231756 : True := trivial
theorem head.tw12427710115714267126 : True := trivial
theorem head.tw12428389735305899900 : True := trivial
theorem head.tw12429951682030723673 : True := trivial
theorem head.tw12460202669355646752 : True := trivial
theorem head.tw12472887615940459650 : True := trivial
theorem head.tw12478146576626367362 : True := trivial
theorem head.tw12522841877462718067 : True := trivial
theorem head.tw12542841389457131302 : True := trivial
theorem head.tw12573619785200380473 : True := trivial
theorem head.tw12581593161143036515 : True := trivial
theorem head.tw12596154207471609045 : True := trivial
theorem head.tw12611893724949602041 : True := trivial
theorem head.tw12630350610049390935 : True := trivial
theorem head.tw12666380852390969779 : True := trivial
theorem head.tw12682429181067543257 : True := trivial
theorem head.tw12683715663295903708 : True := trivial
theorem head.tw12704426703380559182 : True := trivial
theorem head.tw1272635626206103303 : True := trivial
theorem head.tw12727220549172885185 : True := trivial
theorem head.tw12740806245664736207 : True := trivial
theorem head.tw12741294794224977040 : True := trivial
theorem head.tw12763952150808568291 : True := trivial
theorem head.tw12764128322984676335 : True := trivial
theorem head.tw12773685731770592110 : True := trivial
theorem head.tw12775505166333009402 : True := trivial
theorem head.tw12795389718870424448 : True := trivial
theorem head.tw12799616582074740251 : True := trivial
theorem head.tw12799966317143952679 : True := trivial
theorem head.tw12820901002040952943 : True := trivial
theorem head.tw12822298378996975857 : True := trivial
theorem head.tw12841863872788715202 : True := trivial
theorem head.tw12858780395421280599 : True := trivial
theorem head.tw12865059321931465230 : True := trivial
theorem head.tw12870424476946447624 : True := trivial
theorem head.tw12875325457547866274 : True := trivial
theorem head.tw12903917746401883607 : True := trivial
theorem head.tw12908475990344208633 : True := trivial
theorem head.tw1291722185910714397 : True := trivial
theorem head.tw12949380547846470161 : True := trivial
theorem head.tw12998212659555988865 : True := trivial
theorem head.tw13002585709282622103 : True := trivial
theorem head.tw13017206433863751270 : True := trivial
theorem head.tw13065621461132903086 : True := trivial
theorem head.tw13078646160514809887 : True := trivial
theorem head.tw13086575352542018947 : True := trivial
theorem head.tw13137911371727378231 : True := trivial
theorem head.tw1315816938146588887 : True := trivial
theorem head.tw13180129090757240718 : True := trivial
theorem head.tw1318689175770300589 : True := trivial
theorem head.tw13198292447841614426 : True := trivial
theorem head.tw13199516396595161752 : True := trivial
theorem head.tw1319983325249436295 : True := trivial
theorem head.tw13213268828098156179 : True := trivial
theorem head.tw13227620805987009915 : True := trivial
theorem head.tw13249071542605338262 : True := trivial
theorem head.tw13276723143375012678 : True := trivial
theorem head.tw13277643439714857746 : True := trivial
theorem head.tw13294958713779813728 : True := trivial
theorem head.tw13295082483830516422 : True := trivial
theorem head.tw13295774097974887486 : True := trivial
theorem head.tw13315729282080922261 : True := trivial
theorem head.tw13337238644230332656 : True := trivial
theorem head.tw13353151263460963528 : True := trivial
theorem head.tw13357441389134331599 : True := trivial
theorem head.tw13379202705063549618 : True := trivial
theorem head.tw13381936622781507537 : True := trivial
theorem head.tw13396372801797540582 : True := trivial
theorem head.tw13412022041919118725 : True := trivial
theorem head.tw13429783112058258343 : True := trivial
theorem head.tw13478637309914159250 : True := trivial
theorem head.tw13499107582688000984 : True := trivial
theorem head.tw13504307299585405616 : True := trivial
theorem head.tw13508044439285423174 : True := trivial
theorem head.tw13534985152531926933 : True := trivial
theorem head.tw13605870324054321959 : True := trivial
theorem head.tw13631071318896544983 : True := trivial
theorem head.tw13637325136056909300 : True := trivial
theorem head.tw13653928888864918839 : True := trivial
theorem head.tw13664066127859960707 : True := trivial
theorem head.tw13673146470031054802 : True := trivial
theorem head.tw13687475568465949530 : True := trivial
theorem head.tw13689084217373910675 : True := trivial
theorem head.tw13708957947011138092 : True := trivial
theorem head.tw13743032657059413451 : True := trivial
theorem head.tw13750642191701924398 : True := trivial
theorem head.tw13757985540688938387 : True := trivial
theorem head.tw13794268993135237040 : True := trivial
theorem head.tw13800718416732639697 : True := trivial
theorem head.tw13801937863458859944 : True := trivial
theorem head.tw13846591363081406657 : True := trivial
theorem head.tw13896987355042952010 : True := trivial
theorem head.tw1389810093214676884 : True := trivial
theorem head.tw13906610036690215845 : True := trivial
theorem head.tw13910694723763315657 : True := trivial
theorem head.tw139141181571183326 : True := trivial
theorem head.tw13917482298092908234 : True := trivial
theorem head.tw13932022402069264104 : True := trivial
theorem head.tw13942192884097748152 : True := trivial
theorem head.tw13955511503576765797 : True := trivial
theorem head.tw13988103294471073821 : True := trivial
theorem head.tw13999681649124312864 : True := trivial
theorem head.tw140066278072042493 : True := trivial
theorem head.tw14028522991509751376 : True := trivial
theorem head.tw14059167943309011982 : True := trivial
theorem head.tw14061139507663348314 : True := trivial
theorem head.tw14068133799693864440 : True := trivial
theorem head.tw14078167904914714981 : True := trivial
theorem head.tw14083850284487924763 : True := trivial
theorem head.tw14086173767186703872 : True := trivial
theorem head.tw14090159008775844135 : True := trivial
theorem head.tw14112020806712329415 : True := trivial
theorem head.tw14125302347835133983 : True := trivial
theorem head.tw14127983276867164173 : True := trivial
theorem head.tw14139502460874162764 : True := trivial
theorem head.tw14139617269561922093 : True := trivial
theorem head.tw14149427978524627653 : True := trivial
theorem head.tw14149492867418468938 : True := trivial
theorem head.tw14158537116620707164 : True := trivial
theorem head.tw14168692526580214153 : True := trivial
theorem head.tw14195316510222423288 : True := trivial
theorem head.tw14203740742628978354 : True := trivial
theorem head.tw14205479233844494046 : True := trivial
theorem head.tw14234965402570480558 : True := trivial
theorem head.tw14235953900361662071 : True := trivial
theorem head.tw14241001667801471300 : True := trivial
theorem head.tw14277528927401260903 : True := trivial
theorem head.tw14306030232151103276 : True := trivial
theorem head.tw14344768424176206936 : True := trivial
theorem head.tw14364637388885140079 : True := trivial
theorem head.tw14385403278947933607 : True := trivial
theorem head.tw1438866918597655640 : True := trivial
theorem head.tw14393718171448925343 : True := trivial
theorem head.tw14417885227837004991 : True := trivial
theorem head.tw14427283581363961175 : True := trivial
theorem head.tw14429822130985059091 : True := trivial
theorem head.tw14432977821161478157 : True := trivial
theorem head.tw14472148264737280519 : True := trivial
theorem head.tw14488727979953464203 : True := trivial
theorem head.tw14492117785962260688 : True := trivial
theorem head.tw14512941343882779238 : True := trivial
theorem head.tw14513887754847984766 : True := trivial
theorem head.tw14524160177008508720 : True := trivial
theorem head.tw14527164170590304321 : True := trivial
theorem head.tw14531177953140590962 : True := trivial
theorem head.tw14564102244969864175 : True := trivial
theorem head.tw14597329475937083939 : True := trivial
theorem head.tw14615432700455777464 : True := trivial
theorem head.tw14628233357713752721 : True := trivial
theorem head.tw14631705268626504575 : True := trivial
theorem head.tw1463646239528298992 : True := trivial
theorem head.tw14637134836413734856 : True := trivial
theorem head.tw14643560169476415855 : True := trivial
theorem head.tw14643959010103036307 : True := trivial
theorem head.tw14646466228836335164 : True := trivial
theorem head.tw14667470093908496907 : True := trivial
theorem head.tw14676189674455941282 : True := trivial
theorem head.tw14679116673082234219 : True := trivial
theorem head.tw14699528089545365996 : True := trivial
theorem head.tw14699756766385990792 : True := trivial
theorem head.tw14720509044617813951 : True := trivial
theorem head.tw1472379273497163797 : True := trivial
theorem head.tw14735301032572234722 : True := trivial
theorem head.tw14744981736328886265 : True := trivial
theorem head.tw14746898714274692784 : True := trivial
theorem head.tw14759185912286986992 : True := trivial
theorem head.tw14768688571040804171 : True := trivial
theorem head.tw14788773977795034992 : True := trivial
theorem head.tw14796412885826930917 : True := trivial
theorem head.tw14839364314469280175 : True := trivial
theorem head.tw14842460003800876886 : True := trivial
theorem head.tw14843749296085226474 : True := trivial
theorem head.tw14877080517539528568 : True := trivial
theorem head.tw1488887377122669195 : True := trivial
theorem head.tw1489404036187247834 : True := trivial
theorem head.tw14909605222495392915 : True := trivial
theorem head.tw14943480678444902952 : True := trivial
theorem head.tw14946772226789246504 : True := trivial
theorem head.tw14956371261235936329 : True := trivial
theorem head.tw1495726902847802894 : True := trivial
theorem head.tw14959218684248593190 : True := trivial
theorem head.tw14969385696402013904 : True := trivial
theorem head.tw14969395210118534408 : True := trivial
theorem head.tw14969872817325187116 : True := trivial
theorem head.tw14982685227137828758 : True := trivial
theorem head.tw14983349147647662914 : True := trivial
theorem head.tw1499353310998574721 : True := trivial
theorem head.tw14999265807660949796 : True := trivial
theorem head.tw15001418939266856263 : True := trivial
theorem head.tw15012772271602616124 : True := trivial
theorem head.tw1503407388533364548 : True := trivial
theorem head.tw15035418422258542911 : True := trivial
theorem head.tw15039987702171664376 : True := trivial
theorem head.tw15051624971371641934 : True := trivial
theorem head.tw15064752311394979489 : True := trivial
theorem head.tw1506576300011279404 : True := trivial
theorem head.tw15095179193122606544 : True := trivial
theorem head.tw15112835437128306455 : True := trivial
theorem head.tw15127644999133008818 : True := trivial
theorem head.tw15142167089309388077 : True := trivial
theorem head.tw15149402430504572791 : True := trivial
theorem head.tw15164278277893987615 : True := trivial
theorem head.tw15171285062763278426 : True := trivial
theorem head.tw15181326774706428367 : True := trivial
theorem head.tw1519320592345488741 : True := trivial
theorem head.tw15204471325056678010 : True := trivial
theorem head.tw15215111219801757744 : True := trivial
theorem head.tw15227404194023536501 : True := trivial
theorem head.tw1524684057812940815 : True := trivial
theorem head.tw15248001044337979736 : True := trivial
theorem head.tw15253147559959296200 : True := trivial
theorem head.tw15253846138512369154 : True := trivial
theorem head.tw15256841493749336786 : True := trivial
theorem head.tw15263674166054382079 : True := trivial
theorem head.tw15296082917334920728 : True := trivial
theorem head.tw15305915472762889579 : True := trivial
theorem head.tw15317023959539522800 : True := trivial
theorem head.tw15326552575505426906 : True := trivial
theorem head.tw15328847239876097677 : True := trivial
theorem head.tw15330342782969278459 : True := trivial
theorem head.tw15392136045813129965 : True := trivial
theorem head.tw15399148058966210843 : True := trivial
theorem head.tw15452280279296900796 : True := trivial
theorem head.tw15468718075485040107 : True := trivial
theorem head.tw15506723302920939300 : True := trivial
theorem head.tw15520248196984853422 : True := trivial
theorem head.tw15539854500240908086 : True := trivial
theorem head.tw15564447279633807951 : True := trivial
theorem head.tw15582730294447300881 : True := trivial
theorem head.tw15604011560834605598 : True := trivial
theorem head.tw15638870477510070732 : True := trivial
theorem head.tw15655066899262757282 : True := trivial
theorem head.tw15656768269340197940 : True := trivial
theorem head.tw15666658371737129944 : True := trivial
theorem head.tw15676425527210111115 : True := trivial
theorem head.tw15735840784391694233 : True := trivial
theorem head.tw15736342250582547807 : True := trivial
theorem head.tw15779500811904541264 : True := trivial
theorem head.tw15782939476341012554 : True := trivial
theorem head.tw15785421084128741142 : True := trivial
theorem head.tw15794997505209512671 : True := trivial
theorem head.tw15796087645652482245 : True := trivial
theorem head.tw15798066900824788120 : True := trivial
theorem head.tw15827502805916655846 : True := trivial
theorem head.tw15832300201269216667 : True := trivial
theorem head.tw15841401105113185080 : True := trivial
theorem head.tw15845715064670954444 : True := trivial
theorem head.tw15873191416987729925 : True := trivial
theorem head.tw1588943658860677225 : True := trivial
theorem head.tw15894371620910866019 : True := trivial
theorem head.tw15895551434495452948 : True := trivial
theorem head.tw15895748673760503845 : True := trivial
theorem head.tw15898109809663626304 : True := trivial
theorem head.tw15919025892595252471 : True := trivial
theorem head.tw15924019268735266097 : True := trivial
theorem head.tw1593561654347908568 : True := trivial
theorem head.tw15967466079928408925 : True := trivial
theorem head.tw16014373381606645092 : True := trivial
theorem head.tw16031315777459398524 : True := trivial
theorem head.tw16065611263816554750 : True := trivial
theorem head.tw16065720564569863766 : True := trivial
theorem head.tw16072502192527678464 : True := trivial
theorem head.tw16078238667976319046 : True := trivial
theorem head.tw1608297297296620843 : True := trivial
theorem head.tw16106133796442146334 : True := trivial
theorem head.tw16128420640991077102 : True := trivial
theorem head.tw16166440364842034014 : True := trivial
theorem head.tw16172288393029767808 : True := trivial
theorem head.tw16172356507618199906 : True := trivial
theorem head.tw16175233474957185256 : True := trivial
theorem head.tw1618804561499322139 : True := trivial
theorem head.tw1620002657737552111 : True := trivial
theorem head.tw16272097951300814418 : True := trivial
theorem head.tw16278871845796110771 : True := trivial
theorem head.tw16291991722392533869 : True := trivial
theorem head.tw16385634705727604063 : True := trivial
theorem head.tw16392136796542896229 : True := trivial
theorem head.tw16415787539773345739 : True := trivial
theorem head.tw1642545813376747948 : True := trivial
theorem head.tw1643771367246577777 : True := trivial
theorem head.tw16441004959143088680 : True := trivial
theorem head.tw16470739840699324481 : True := trivial
theorem head.tw16472945084836616533 : True := trivial
theorem head.tw16474958459275807246 : True := trivial
theorem head.tw16481179823495478772 : True := trivial
theorem head.tw16495435189000846180 : True := trivial
theorem head.tw16530349751119242087 : True := trivial
theorem head.tw16545597347906280737 : True := trivial
theorem head.tw16546490078704341612 : True := trivial
theorem head.tw16572314662081343053 : True := trivial
theorem head.tw16576625349610184965 : True := trivial
theorem head.tw16579250180923337425 : True := trivial
theorem head.tw16582591585412914238 : True := trivial
theorem head.tw16597076867968051955 : True := trivial
theorem head.tw1660877005871194693 : True := trivial
theorem head.tw16647155751929229394 : True := trivial
theorem head.tw16703865258624009325 : True := trivial
theorem head.tw16706202894335638747 : True := trivial
theorem head.tw1673358830478937286 : True := trivial
theorem head.tw16769997242578385675 : True := trivial
theorem head.tw16782820856776367440 : True := trivial
theorem head.tw16800043278716471037 : True := trivial
theorem head.tw16817119741492734445 : True := trivial
theorem head.tw16821450928103126590 : True := trivial
theorem head.tw16828514060538661750 : True := trivial
theorem head.tw1684422525636271706 : True := trivial
theorem head.tw16845296645482713644 : True := trivial
theorem head.tw16850669015542321058 : True := trivial
theorem head.tw16871623187472473471 : True := trivial
theorem head.tw16888070154925205155 : True := trivial
theorem head.tw1689142752476645926 : True := trivial
theorem head.tw16894197260953374720 : True := trivial
theorem head.tw16894393574925625578 : True := trivial
theorem head.tw16894561301568121468 : True := trivial
theorem head.tw16903022960794457021 : True := trivial
theorem head.tw16917608666046251313 : True := trivial
theorem head.tw16922147877168347812 : True := trivial
theorem head.tw1693818546310300448 : True := trivial
theorem head.tw16942090399603786721 : True := trivial
theorem head.tw16952181060025214987 : True := trivial
theorem head.tw16962450398199861240 : True := trivial
theorem head.tw16966009324859112401 : True := trivial
theorem head.tw16974685034882416825 : True := trivial
theorem head.tw16984083398119652359 : True := trivial
theorem head.tw16987140817204460263 : True := trivial
theorem head.tw16997897962222511 : True := trivial
theorem head.tw17002534310236347988 : True := trivial
theorem head.tw17007033763367706731 : True := trivial
theorem head.tw17008234436448823602 : True := trivial
theorem head.tw17015032458148788900 : True := trivial
theorem head.tw17017319662998615 : True := trivial
theorem head.tw17024340208454683379 : True := trivial
theorem head.tw17037872496334206203 : True := trivial
theorem head.tw1703907593899377836 : True := trivial
theorem head.tw17039324001796647390 : True := trivial
theorem head.tw17047625674926534286 : True := trivial
theorem head.tw17050696954950088759 : True := trivial
theorem head.tw17052544337092648970 : True := trivial
theorem head.tw17062125606838978880 : True := trivial
theorem head.tw17093656651364094606 : True := trivial
theorem head.tw17113217626458354986 : True := trivial
theorem head.tw17129914584562691343 : True := trivial
theorem head.tw17142359554024780413 : True := trivial
theorem head.tw1714602735852981970 : True := trivial
theorem head.tw17156091980717111821 : True := trivial
theorem head.tw17173245716831642929 : True := trivial
theorem head.tw1718890006036334650 : True := trivial
theorem head.tw17188972718952451159 : True := trivial
theorem head.tw17190349231170142043 : True := trivial
theorem head.tw17194126546080390198 : True := trivial
theorem head.tw17197444120159719569 : True := trivial
theorem head.tw17212568112599259466 : True := trivial
theorem head.tw17238610979035211840 : True := trivial
theorem head.tw17243387458012846398 : True := trivial
theorem head.tw17262968490309938674 : True := trivial
theorem head.tw17265401458761052179 : True := trivial
theorem head.tw17275705279478898512 : True := trivial
theorem head.tw17287069475806534740 : True := trivial
theorem head.tw1728724042893426364 : True := trivial
theorem head.tw17297054508065495485 : True := trivial
theorem head.tw17304152732226823993 : True := trivial
theorem head.tw17332727794074296334 : True := trivial
theorem head.tw17339705970751849611 : True := trivial
theorem head.tw17346037399652195860 : True := trivial
theorem head.tw17348764703882912863 : True := trivial
theorem head.tw17362218986543327160 : True := trivial
theorem head.tw17377423518514600169 : True := trivial
theorem head.tw17411354535832351560 : True := trivial
theorem head.tw174166394780034911 : True := trivial
theorem head.tw17444863063712431705 : True := trivial
theorem head.tw17453365369857097546 : True := trivial
theorem head.tw17458890533420659534 : True := trivial
theorem head.tw1748456618969930982 : True := trivial
theorem head.tw17486074103640542121 : True := trivial
theorem head.tw17508272824862286709 : True := trivial
theorem head.tw17522360388414511382 : True := trivial
theorem head.tw17525636777796739105 : True := trivial
theorem head.tw17539234302018041193 : True := trivial
theorem head.tw17541063381433097499 : True := trivial
theorem head.tw17552560543380974038 : True := trivial
theorem head.tw17553620660974883448 : True := trivial
theorem head.tw1756991915124769162 : True := trivial
theorem head.tw17573037796337583832 : True := trivial
theorem head.tw17577399041416155939 : True := trivial
theorem head.tw17595797816247731874 : True := trivial
theorem head.tw17608190574486352970 : True := trivial
theorem head.tw17646911460466567920 : True := trivial
theorem head.tw17658000642845759554 : True := trivial
theorem head.tw1766074496371839085 : True := trivial
theorem head.tw17674571679781333832 : True := trivial
theorem head.tw176958662926335537 : True := trivial
theorem head.tw17698105195316432488 : True := trivial
theorem head.tw17725469503822016867 : True := trivial
theorem head.tw17768545326873755256 : True := trivial
theorem head.tw17774287074784473822 : True := trivial
theorem head.tw17783093436913651231 : True := trivial
theorem head.tw17784522201281872271 : True := trivial
theorem head.tw17784925447008408576 : True := trivial
theorem head.tw17788742646020836255 : True := trivial
theorem head.tw17821319399108415887 : True := trivial
theorem head.tw17826015225549371706 : True := trivial
theorem head.tw17836260108008149386 : True := trivial
theorem head.tw17836618258811950860 : True := trivial
theorem head.tw17844492200522320778 : True := trivial
theorem head.tw17850378814381688901 : True := trivial
theorem head.tw17854890406432584798 : True := trivial
theorem head.tw1786199778172832133 : True := trivial
theorem head.tw17889261914703972767 : True := trivial
theorem head.tw17890245599415353634 : True := trivial
theorem head.tw17894702793023417833 : True := trivial
theorem head.tw17905491414393134947 : True := trivial
theorem head.tw1792277464101229681 : True := trivial
theorem head.tw17972497016974392416 : True := trivial
theorem head.tw17975491588444890076 : True := trivial
theorem head.tw17988201657351507238 : True := trivial
theorem head.tw17993767162375566018 : True := trivial
theorem head.tw18007968972792079559 : True := trivial
theorem head.tw18014224886719972007 : True := trivial
theorem head.tw18051680202136193954 : True := trivial
theorem head.tw18060483585939721653 : True := trivial
theorem head.tw18080951475816111786 : True := trivial
theorem head.tw18081138779251354973 : True := trivial
theorem head.tw18100283295969611417 : True := trivial
theorem head.tw18125128294737035143 : True := trivial
theorem head.tw18164835968555783806 : True := trivial
theorem head.tw18165431152234640623 : True := trivial
theorem head.tw18176413224385145225 : True := trivial
theorem head.tw18177109656662797139 : True := trivial
theorem head.tw18177665153149118353 : True := trivial
theorem head.tw18192872963121912645 : True := trivial
theorem head.tw18215824643853355119 : True := trivial
theorem head.tw18254194996027185994 : True := trivial
theorem head.tw18277060748420158845 : True := trivial
theorem head.tw18282902561792777199 : True := trivial
theorem head.tw18331334602107656470 : True := trivial
theorem head.tw18331532914195504034 : True := trivial
theorem head.tw18332285231265401824 : True := trivial
theorem head.tw18332689328565389885 : True := trivial
theorem head.tw18345104242076519216 : True := trivial
theorem head.tw18364922244981856966 : True := trivial
theorem head.tw18416563613846182222 : True := trivial
theorem head.tw18433677622606106133 : True := trivial
theorem head.tw1858156416291392539 : True := trivial
theorem head.tw1894759731626308040 : True := trivial
theorem head.tw1904360653210494845 : True := trivial
theorem head.tw1906429620130506887 : True := trivial
theorem head.tw1909714482019496454 : True := trivial
theorem head.tw1914692607248247194 : True := trivial
theorem head.tw1919001801439425371 : True := trivial
theorem head.tw1919890906376249811 : True := trivial
theorem head.tw1921273347072400710 : True := trivial
theorem head.tw1929634836878124385 : True := trivial
theorem head.tw1937370526825066196 : True := trivial
theorem head.tw1939405473400901271 : True := trivial
theorem head.tw1966224132733831507 : True := trivial
theorem head.tw1970811146720035896 : True := trivial
theorem head.tw1976755195193171425 : True := trivial
theorem head.tw1985537357303476512 : True := trivial
theorem head.tw1992862871153497056 : True := trivial
theorem head.tw1995287165650055613 : True := trivial
theorem head.tw203279951241792120 : True := trivial
theorem head.tw2035680199648653684 : True := trivial
theorem head.tw2041922666546174627 : True := trivial
theorem head.tw2066564036433440168 : True := trivial
theorem head.tw2074816045253348948 : True := trivial
theorem head.tw2096541523181747872 : True := trivial
theorem head.tw2118377178292867602 : True := trivial
theorem head.tw2123727595537733498 : True := trivial
theorem head.tw2154566216772986472 : True := trivial
theorem head.tw2172669909848549399 : True := trivial
theorem head.tw21988315779104480 : True := trivial
theorem head.tw2201313380682377074 : True := trivial
theorem head.tw2203363585012173787 : True := trivial
theorem head.tw2232109503444375002 : True := trivial
theorem head.tw2237326684586592538 : True := trivial
theorem head.tw2241628862621589225 : True := trivial
theorem head.tw2249667046024356820 : True := trivial
theorem head.tw2250686904917368756 : True := trivial
theorem head.tw2260579728952749127 : True := trivial
theorem head.tw2280412012180511131 : True := trivial
theorem head.tw2298694737197419510 : True := trivial
theorem head.tw2307047085170396653 : True := trivial
theorem head.tw2326617092838664518 : True := trivial
theorem head.tw2340069552987342377 : True := trivial
theorem head.tw2342417691235652057 : True := trivial
theorem head.tw2343260813663018654 : True := trivial
theorem head.tw2355103038987944067 : True := trivial
theorem head.tw2371957332031735670 : True := trivial
theorem head.tw2393937325987436248 : True := trivial
theorem head.tw2400818531096893172 : True := trivial
theorem head.tw2413573451304230806 : True := trivial
theorem head.tw2428695696106030784 : True := trivial
theorem head.tw2437478716016495240 : True := trivial
theorem head.tw2441957057352720082 : True := trivial
theorem head.tw2491421050496283774 : True := trivial
theorem head.tw2506711637615833298 : True := trivial
theorem head.tw2509309528272606033 : True := trivial
theorem head.tw2518057956044344595 : True := trivial
theorem head.tw2525317073905713282 : True := trivial
theorem head.tw2529948359932261575 : True := trivial
theorem head.tw2554682012703037696 : True := trivial
theorem head.tw2581250870941146908 : True := trivial
theorem head.tw2591067827882107080 : True := trivial
theorem head.tw2599346099135257874 : True := trivial
theorem head.tw2625984366357065906 : True := trivial
theorem head.tw262713603470380999 : True := trivial
theorem head.tw2661039320868540944 : True := trivial
theorem head.tw2681166955253090778 : True := trivial
theorem head.tw2694075680205673411 : True := trivial
theorem head.tw2705560170217086799 : True := trivial
theorem head.tw2728595385866086531 : True := trivial
theorem head.tw2753283235347674219 : True := trivial
theorem head.tw2760189568479381244 : True := trivial
theorem head.tw2764016085172604524 : True := trivial
theorem head.tw2797894973233656403 : True := trivial
theorem head.tw2800570052845255841 : True := trivial
theorem head.tw2821592275122389253 : True := trivial
theorem head.tw2825341998796452840 : True := trivial
theorem head.tw2839009699284755250 : True := trivial
theorem head.tw2876011056497122456 : True := trivial
theorem head.tw2879759524354350568 : True := trivial
theorem head.tw290710125855613696 : True := trivial
theorem head.tw2946737518818760889 : True := trivial
theorem head.tw2973143901146584636 : True := trivial
theorem head.tw2976249973925969801 : True := trivial
theorem head.tw2994772191003457714 : True := trivial
theorem head.tw300626226527484142 : True := trivial
theorem head.tw3021114989795446570 : True := trivial
theorem head.tw3027932573228621659 : True := trivial
theorem head.tw3040085230504974413 : True := trivial
theorem head.tw3062044705579621278 : True := trivial
theorem head.tw3083302935323014018 : True := trivial
theorem head.tw3088210815446039105 : True := trivial
theorem head.tw3089916443595474862 : True := trivial
theorem head.tw3103639331685909893 : True := trivial
theorem head.tw3122906425038022637 : True := trivial
theorem head.tw3127049524044150859 : True := trivial
theorem head.tw315434073420411817 : True := trivial
theorem head.tw3160712208675142370 : True := trivial
theorem head.tw3164961170700492040 : True := trivial
theorem head.tw3171451927456968151 : True := trivial
theorem head.tw3185377453876500656 : True := trivial
theorem head.tw3186774066764743411 : True := trivial
theorem head.tw3212073173673764245 : True := trivial
theorem head.tw3223962053107752630 : True := trivial
theorem head.tw322437386772585718 : True := trivial
theorem head.tw3244951577380529755 : True := trivial
theorem head.tw3254172550106833301 : True := trivial
theorem head.tw3264716943610762504 : True := trivial
theorem head.tw3270352941656771521 : True := trivial
theorem head.tw3290047583113660281 : True := trivial
theorem head.tw3304075619188804072 : True := trivial
theorem head.tw3321875119742208626 : True := trivial
theorem head.tw3333069708870698940 : True := trivial
theorem head.tw3340124654517525194 : True := trivial
theorem head.tw3364305129493290686 : True := trivial
theorem head.tw3368030927266983236 : True := trivial
theorem head.tw3383483231816665885 : True := trivial
theorem head.tw3390878434225100092 : True := trivial
theorem head.tw3404819636646143723 : True := trivial
theorem head.tw3453547403478019728 : True := trivial
theorem head.tw3453787792041028874 : True := trivial
theorem head.tw3468014072342718959 : True := trivial
theorem head.tw3496171461512900480 : True := trivial
theorem head.tw3500380475922496097 : True := trivial
theorem head.tw3501597964444990463 : True := trivial
theorem head.tw3512634313551410195 : True := trivial
theorem head.tw3514389088698752745 : True := trivial
theorem head.tw3539761223686108643 : True := trivial
theorem head.tw3547030090768783262 : True := trivial
theorem head.tw3547240966391284428 : True := trivial
theorem head.tw3547811175951651099 : True := trivial
theorem head.tw3548660455928884018 : True := trivial
theorem head.tw3581614266968435656 : True := trivial
theorem head.tw3604701254548876123 : True := trivial
theorem head.tw3615648651819825313 : True := trivial
theorem head.tw3616486834168423931 : True := trivial
theorem head.tw363632240451261020 : True := trivial
theorem head.tw3644226017259064516 : True := trivial
theorem head.tw3657744606055017977 : True := trivial
theorem head.tw3659646283403374670 : True := trivial
theorem head.tw3665506230870052707 : True := trivial
theorem head.tw3688799982635324794 : True := trivial
theorem head.tw3690969761935527329 : True := trivial
theorem head.tw3696042808614700290 : True := trivial
theorem head.tw3715144110773694964 : True := trivial
theorem head.tw3715584954343283195 : True := trivial
theorem head.tw3746228215898030841 : True := trivial
theorem head.tw3749026756887285471 : True := trivial
theorem head.tw37620276538422747 : True := trivial
theorem head.tw377444749377882612 : True := trivial
theorem head.tw3794523003379204399 : True := trivial
theorem head.tw380116879960591498 : True := trivial
theorem head.tw3821945547825155762 : True := trivial
theorem head.tw3859398291796969178 : True := trivial
theorem head.tw3860651933079915558 : True := trivial
theorem head.tw3863384581746538084 : True := trivial
theorem head.tw3865227728683908462 : True := trivial
theorem head.tw3880867118405822719 : True := trivial
theorem head.tw3898573915619166781 : True := trivial
theorem head.tw3910526619309349007 : True := trivial
theorem head.tw3928599903575798129 : True := trivial
theorem head.tw3942004810282270783 : True := trivial
theorem head.tw3973953319845086491 : True := trivial
theorem head.tw3979787820943753880 : True := trivial
theorem head.tw3980653432952411973 : True := trivial
theorem head.tw3986194592780655508 : True := trivial
theorem head.tw4005429485061764775 : True := trivial
theorem head.tw4009957668330374740 : True := trivial
theorem head.tw4017301010375394790 : True := trivial
theorem head.tw4018983750718401802 : True := trivial
theorem head.tw4022657073615663662 : True := trivial
theorem head.tw4023466491090337370 : True := trivial
theorem head.tw4053978428183960486 : True := trivial
theorem head.tw4063747431996464497 : True := trivial
theorem head.tw4090201507572337743 : True := trivial
theorem head.tw4142019850904089934 : True := trivial
theorem head.tw4154363929692500862 : True := trivial
theorem head.tw4162075825823739117 : True := trivial
theorem head.tw4163069186122357367 : True := trivial
theorem head.tw4176204533620912855 : True := trivial
theorem head.tw4196546014268931301 : True := trivial
theorem head.tw4235852798576303577 : True := trivial
theorem head.tw4239589573987675453 : True := trivial
theorem head.tw4273228799998304602 : True := trivial
theorem head.tw4277651752456152607 : True := trivial
theorem head.tw4307260679431091991 : True := trivial
theorem head.tw4311042196063409733 : True := trivial
theorem head.tw4318500180640689126 : True := trivial
theorem head.tw4357005996527412928 : True := trivial
theorem head.tw4381510469713062047 : True := trivial
theorem head.tw4387028780061031483 : True := trivial
theorem head.tw4389747894416019800 : True := trivial
theorem head.tw4405531762615560363 : True := trivial
theorem head.tw4405734404675932169 : True := trivial
theorem head.tw4407807290196491609 : True := trivial
theorem head.tw4415685298772064003 : True := trivial
theorem head.tw4419558321834357505 : True := trivial
theorem head.tw4425420699202667076 : True := trivial
theorem head.tw4433315090154635215 : True := trivial
theorem head.tw44622916816846810 : True := trivial
theorem head.tw4473611206160876864 : True := trivial
theorem head.tw4489203361448125431 : True := trivial
theorem head.tw45052839361067614 : True := trivial
theorem head.tw4528443807372415038 : True := trivial
theorem head.tw4543076655600059902 : True := trivial
theorem head.tw4554283584077286953 : True := trivial
theorem head.tw4560781026641586645 : True := trivial
theorem head.tw4585157591006285545 : True := trivial
theorem head.tw4607607821588926596 : True := trivial
theorem head.tw4652900348082922388 : True := trivial
theorem head.tw466721876749952763 : True := trivial
theorem head.tw4673441458371412756 : True := trivial
theorem head.tw467416434755642258 : True := trivial
theorem head.tw4691952243595246448 : True := trivial
theorem head.tw4693820183103290663 : True := trivial
theorem head.tw4702340293382431092 : True := trivial
theorem head.tw4708111749353345164 : True := trivial
theorem head.tw4709128311485490483 : True := trivial
theorem head.tw4746297304354101679 : True := trivial
theorem head.tw4764554697811233 : True := trivial
theorem head.tw4834694072379752904 : True := trivial
theorem head.tw4839655697589452165 : True := trivial
theorem head.tw48543519692965452 : True := trivial
theorem head.tw4857777746444614323 : True := trivial
theorem head.tw4874392174073282168 : True := trivial
theorem head.tw4885112425497105109 : True := trivial
theorem head.tw4932745802714450591 : True := trivial
theorem head.tw4945251732147069371 : True := trivial
theorem head.tw4947412792043415962 : True := trivial
theorem head.tw4964814941381164201 : True := trivial
theorem head.tw4965378191221513410 : True := trivial
theorem head.tw4972248218790579157 : True := trivial
theorem head.tw497287684792784471 : True := trivial
theorem head.tw4973224433832344683 : True := trivial
theorem head.tw4975070653579243887 : True := trivial
theorem head.tw4976181008148175253 : True := trivial
theorem head.tw4991397462208424806 : True := trivial
theorem head.tw4993741786232285773 : True := trivial
theorem head.tw5013180600929471838 : True := trivial
theorem head.tw5015311536963163689 : True := trivial
theorem head.tw5019597260055213698 : True := trivial
theorem head.tw5038994553942263901 : True := trivial
theorem head.tw5061997093462229610 : True := trivial
theorem head.tw5064764789634828332 : True := trivial
theorem head.tw5080737588221150853 : True := trivial
theorem head.tw5096742575497195690 : True := trivial
theorem head.tw5111174896325423537 : True := trivial
theorem head.tw5111550220656817904 : True := trivial
theorem head.tw5129340602016612638 : True := trivial
theorem head.tw5129616035191883695 : True := trivial
theorem head.tw5141578139466067413 : True := trivial
theorem head.tw5182153607120983317 : True := trivial
theorem head.tw5195771902682577575 : True := trivial
theorem head.tw5210181285589595013 : True := trivial
theorem head.tw5240702290290941181 : True := trivial
theorem head.tw5250025526955580050 : True := trivial
theorem head.tw5263031782217397600 : True := trivial
theorem head.tw5271886537152271918 : True := trivial
theorem head.tw527386997569798941 : True := trivial
theorem head.tw5274623360512300857 : True := trivial
theorem head.tw5319049981483164881 : True := trivial
theorem head.tw532055438628499158 : True := trivial
theorem head.tw533756555076263647 : True := trivial
theorem head.tw5353729903917744248 : True := trivial
theorem head.tw5380383263664398348 : True := trivial
theorem head.tw5392078452651409485 : True := trivial
theorem head.tw5401097623525119610 : True := trivial
theorem head.tw5407718363533321033 : True := trivial
theorem head.tw5408759939109034304 : True := trivial
theorem head.tw5418945672586834282 : True := trivial
theorem head.tw5438144065070405397 : True := trivial
theorem head.tw5442484570284002534 : True := trivial
theorem head.tw545888858418189544 : True := trivial
theorem head.tw5467695095851852608 : True := trivial
theorem head.tw5479459121986351116 : True := trivial
theorem head.tw5482811314372750526 : True := trivial
theorem head.tw5487235932777146282 : True := trivial
theorem head.tw5501060405047882677 : True := trivial
theorem head.tw5506250874072839755 : True := trivial
theorem head.tw5515381820778694223 : True := trivial
theorem head.tw5593727005144783397 : True := trivial
theorem head.tw5599997604879368025 : True := trivial
theorem head.tw5617373736292572815 : True := trivial
theorem head.tw5629256929840616583 : True := trivial
theorem head.tw5651425540991249520 : True := trivial
theorem head.tw5707341947614518954 : True := trivial
theorem head.tw5725584637647431893 : True := trivial
theorem head.tw5737951250597237232 : True := trivial
theorem head.tw5751227541892866231 : True := trivial
theorem head.tw5764021196749891206 : True := trivial
theorem head.tw5764705848585077094 : True := trivial
theorem head.tw5776309275727910279 : True := trivial
theorem head.tw578259024812056932 : True := trivial
theorem head.tw5788372791699333521 : True := trivial
theorem head.tw5788964047882338313 : True := trivial
theorem head.tw5792407227767346561 : True := trivial
theorem head.tw5844781237557850387 : True := trivial
theorem head.tw5869485362099743711 : True := trivial
theorem head.tw5870146547769353613 : True := trivial
theorem head.tw5874639182527098836 : True := trivial
theorem head.tw5889021280877657681 : True := trivial
theorem head.tw5894247764576360081 : True := trivial
theorem head.tw5906241406904858968 : True := trivial
theorem head.tw5915552362696249034 : True := trivial
theorem head.tw5931312163665498127 : True := trivial
theorem head.tw5944183977427860380 : True := trivial
theorem head.tw5944575059761466720 : True := trivial
theorem head.tw5973763720392745831 : True := trivial
theorem head.tw5986637957666399235 : True := trivial
theorem head.tw5987550445186205895 : True := trivial
theorem head.tw5995160067986124883 : True := trivial
theorem head.tw5996384718915585738 : True := trivial
theorem head.tw6044800799189817383 : True := trivial
theorem head.tw604627371996746742 : True := trivial
theorem head.tw6053349399257934933 : True := trivial
theorem head.tw6053997905714604814 : True := trivial
theorem head.tw6074800462829891694 : True := trivial
theorem head.tw6079359036626576793 : True := trivial
theorem head.tw6085824867444503733 : True := trivial
theorem head.tw6088685845774392931 : True := trivial
theorem head.tw6100774026682323163 : True := trivial
theorem head.tw6110071263904590700 : True := trivial
theorem head.tw6121141971511671821 : True := trivial
theorem head.tw6153569298028143949 : True := trivial
theorem head.tw6157079530059567975 : True := trivial
theorem head.tw6161856959107265637 : True := trivial
theorem head.tw6174258528820157971 : True := trivial
theorem head.tw6202622434921078099 : True := trivial
theorem head.tw6207834228037699737 : True := trivial
theorem head.tw6211381574409162282 : True := trivial
theorem head.tw6212921109956642855 : True := trivial
theorem head.tw6215453301258677876 : True := trivial
theorem head.tw6216518314043141356 : True := trivial
theorem head.tw6226413525154113608 : True := trivial
theorem head.tw6229939688011154569 : True := trivial
theorem head.tw6232644224018631296 : True := trivial
theorem head.tw6237802210402583469 : True := trivial
theorem head.tw6240353410654795137 : True := trivial
theorem head.tw6247268493268985975 : True := trivial
theorem head.tw6260244149815935644 : True := trivial
theorem head.tw6265338273532641288 : True := trivial
theorem head.tw6298033893332097587 : True := trivial
theorem head.tw6304676298305806467 : True := trivial
theorem head.tw6327039764776113722 : True := trivial
theorem head.tw6343081548495622777 : True := trivial
theorem head.tw6353360159018320957 : True := trivial
theorem head.tw6369041477666114370 : True := trivial
theorem head.tw6379358179555706155 : True := trivial
theorem head.tw6388477656530123435 : True := trivial
theorem head.tw6402496994288996404 : True := trivial
theorem head.tw6489421142724028100 : True := trivial
theorem head.tw649443455394278489 : True := trivial
theorem head.tw6498701541539282852 : True := trivial
theorem head.tw6507506987150044280 : True := trivial
theorem head.tw6518409114910312394 : True := trivial
theorem head.tw6521490308693473283 : True := trivial
theorem head.tw6526830475164118762 : True := trivial
theorem head.tw6536181036136497285 : True := trivial
theorem head.tw6544681653968885310 : True := trivial
theorem head.tw6562009823351158392 : True := trivial
theorem head.tw6581712109270413358 : True := trivial
theorem head.tw6585138550035349233 : True := trivial
theorem head.tw6587087628758450585 : True := trivial
theorem head.tw6595020158993437323 : True := trivial
theorem head.tw6595276589069765893 : True := trivial
theorem head.tw6600165084710513979 : True := trivial
theorem head.tw6604829842348296887 : True := trivial
theorem head.tw6638625709723660006 : True := trivial
theorem head.tw6640010369347007910 : True := trivial
theorem head.tw6684978435548883818 : True := trivial
theorem head.tw6692803169904595997 : True := trivial
theorem head.tw6694795733361404990 : True := trivial
theorem head.tw67086481866811729 : True := trivial
theorem head.tw6737735255597943219 : True := trivial
theorem head.tw6763335052953634553 : True := trivial
theorem head.tw6772502638888315869 : True := trivial
theorem head.tw6791874446421159577 : True := trivial
theorem head.tw6836605351468522007 : True := trivial
theorem head.tw6846597200999610202 : True := trivial
theorem head.tw6846866878297920324 : True := trivial
theorem head.tw6847273489543275152 : True := trivial
theorem head.tw6850726384951132292 : True := trivial
theorem head.tw6857060684267632606 : True := trivial
theorem head.tw6858743491597560450 : True := trivial
theorem head.tw6870361546347238192 : True := trivial
theorem head.tw6871339299614917876 : True := trivial
theorem head.tw6889739017440866108 : True := trivial
theorem head.tw6891450509433485068 : True := trivial
theorem head.tw6903330171164945697 : True := trivial
theorem head.tw6910089277995645325 : True := trivial
theorem head.tw6930615606355531631 : True := trivial
theorem head.tw6931653728971238233 : True := trivial
theorem head.tw693309671712327132 : True := trivial
theorem head.tw6968674436765558698 : True := trivial
theorem head.tw6973584914630602586 : True := trivial
theorem head.tw697593947973469745 : True := trivial
theorem head.tw6998559339924560668 : True := trivial
theorem head.tw7013799640231393816 : True := trivial
theorem head.tw7044984988248179734 : True := trivial
theorem head.tw708152393587867187 : True := trivial
theorem head.tw7090939061502383884 : True := trivial
theorem head.tw7096138990903361605 : True := trivial
theorem head.tw7119846925741900413 : True := trivial
theorem head.tw7148437315225170067 : True := trivial
theorem head.tw7150722627226208844 : True := trivial
theorem head.tw7156519585557434892 : True := trivial
theorem head.tw7161073391023584161 : True := trivial
theorem head.tw7166703653651583581 : True := trivial
theorem head.tw7179252675378151715 : True := trivial
theorem head.tw7181452741857391679 : True := trivial
theorem head.tw7195933706287572923 : True := trivial
theorem head.tw7218757217702219634 : True := trivial
theorem head.tw7253898381062576733 : True := trivial
theorem head.tw7272792461964422541 : True := trivial
theorem head.tw7273171245171862726 : True := trivial
theorem head.tw7277520189549225825 : True := trivial
theorem head.tw7287109101882759415 : True := trivial
theorem head.tw7309950759910210094 : True := trivial
theorem head.tw7313386461004707312 : True := trivial
theorem head.tw733406405333840765 : True := trivial
theorem head.tw7358512011923840914 : True := trivial
theorem head.tw7392004362435642628 : True := trivial
theorem head.tw739537129135343663 : True := trivial
theorem head.tw7396500232308049434 : True := trivial
theorem head.tw7404141018258913797 : True := trivial
theorem head.tw7411241089177730739 : True := trivial
theorem head.tw7415321957212557323 : True := trivial
theorem head.tw7421959067914383049 : True := trivial
theorem head.tw742351954350328859 : True := trivial
theorem head.tw7450023128482652576 : True := trivial
theorem head.tw7474572305656022776 : True := trivial
theorem head.tw7512725033676591148 : True := trivial
theorem head.tw7523532297153676066 : True := trivial
theorem head.tw7526775705450560304 : True := trivial
theorem head.tw7575806435727305068 : True := trivial
theorem head.tw7582878936473852414 : True := trivial
theorem head.tw7596824489109172434 : True := trivial
theorem head.tw7599496313472250701 : True := trivial
theorem head.tw7604411431414283762 : True := trivial
theorem head.tw7616930195647119758 : True := trivial
theorem head.tw7627683417492964911 : True := trivial
theorem head.tw763314674957123698 : True := trivial
theorem head.tw7656372460463219624 : True := trivial
theorem head.tw7658410731251134818 : True := trivial
theorem head.tw7661765248129044261 : True := trivial
theorem head.tw7680146299302783591 : True := trivial
theorem head.tw7688317290187622652 : True := trivial
theorem head.tw7704315382344345624 : True := trivial
theorem head.tw7705420606127192585 : True := trivial
theorem head.tw7732209734871044160 : True := trivial
theorem head.tw7734086686654790897 : True := trivial
theorem head.tw7743085818281968155 : True := trivial
theorem head.tw7748693106545578708 : True := trivial
theorem head.tw778927853757940227 : True := trivial
theorem head.tw7789450098604059249 : True := trivial
theorem head.tw7802898811600756450 : True := trivial
theorem head.tw780477332936465449 : True := trivial
theorem head.tw7833285031277912329 : True := trivial
theorem head.tw7835671542029378175 : True := trivial
theorem head.tw7846308304327970078 : True := trivial
theorem head.tw7876399200375917224 : True := trivial
theorem head.tw7893992939808209232 : True := trivial
theorem head.tw7906546307943345882 : True := trivial
theorem head.tw792300799171563205 : True := trivial
theorem head.tw7928285938522686346 : True := trivial
theorem head.tw7940748693946456147 : True := trivial
theorem head.tw7960053054240918295 : True := trivial
theorem head.tw7961726388155042601 : True := trivial
theorem head.tw7991023089570361087 : True := trivial
theorem head.tw7992697801930647134 : True := trivial
theorem head.tw7994106446794305319 : True := trivial
theorem head.tw8005847168200596573 : True := trivial
theorem head.tw801906712849415907 : True := trivial
theorem head.tw8035625575855466936 : True := trivial
theorem head.tw8041981036286801607 : True := trivial
theorem head.tw8047331064198847621 : True := trivial
theorem head.tw8047541715743884091 : True := trivial
theorem head.tw8052762604675153844 : True := trivial
theorem head.tw8062929857114545703 : True := trivial
theorem head.tw807142644699662319 : True := trivial
theorem head.tw807299193193998342 : True := trivial
theorem head.tw8086450761072817414 : True := trivial
theorem head.tw8097174177036852075 : True := trivial
theorem head.tw8101760021730824546 : True := trivial
theorem head.tw8119138517388224971 : True := trivial
theorem head.tw8159583801465064534 : True := trivial
theorem head.tw8169693465737517768 : True := trivial
theorem head.tw8172283286065499403 : True := trivial
theorem head.tw8182079617134344778 : True := trivial
theorem head.tw8182465387277545410 : True := trivial
theorem head.tw8187629637223713605 : True := trivial
theorem head.tw820421773197932041 : True := trivial
theorem head.tw8239454120783107814 : True := trivial
theorem head.tw8264559056461403633 : True := trivial
theorem head.tw8299393411229908732 : True := trivial
theorem head.tw8337448324364255386 : True := trivial
theorem head.tw8402214883040486957 : True := trivial
theorem head.tw8402328212356670530 : True := trivial
theorem head.tw8408249889716310983 : True := trivial
theorem head.tw8409189969818401543 : True := trivial
theorem head.tw8414573866900348196 : True := trivial
theorem head.tw8451055240067260542 : True := trivial
theorem head.tw8451290768687142514 : True := trivial
theorem head.tw8453659626754050520 : True := trivial
theorem head.tw8476099583838051002 : True := trivial
theorem head.tw8476951943066225111 : True := trivial
theorem head.tw8497721794823489343 : True := trivial
theorem head.tw851385035628625539 : True := trivial
theorem head.tw8518231567759158271 : True := trivial
theorem head.tw8534208459206503383 : True := trivial
theorem head.tw8535708456716222715 : True := trivial
theorem head.tw8541356943393881859 : True := trivial
theorem head.tw8546719886708726068 : True := trivial
theorem head.tw8549075639274686408 : True := trivial
theorem head.tw8550467674348477657 : True := trivial
theorem head.tw8569104457590258164 : True := trivial
theorem head.tw8586521899292070991 : True := trivial
theorem head.tw8595470254474955868 : True := trivial
theorem head.tw860298348326699438 : True := trivial
theorem head.tw8603420104599213669 : True := trivial
theorem head.tw8626486368039343599 : True := trivial
theorem head.tw8627200689577751383 : True := trivial
theorem head.tw86301839051661876 : True := trivial
theorem head.tw866174269921992937 : True := trivial
theorem head.tw8671685427711848851 : True := trivial
theorem head.tw8704771223992077307 : True := trivial
theorem head.tw8715499118904818895 : True := trivial
theorem head.tw8773370040425892893 : True := trivial
theorem head.tw8796753266530204203 : True := trivial
theorem head.tw8812732774380208333 : True := trivial
theorem head.tw8838475285390394957 : True := trivial
theorem head.tw883913982201973750 : True := trivial
theorem head.tw8874674299285249911 : True := trivial
theorem head.tw8881269060482585022 : True := trivial
theorem head.tw8895791426145780158 : True := trivial
theorem head.tw8943219189493157100 : True := trivial
theorem head.tw8988664977312594650 : True := trivial
theorem head.tw9005204637564801583 : True := trivial
theorem head.tw9030979908501067730 : True := trivial
theorem head.tw9065935926736091543 : True := trivial
theorem head.tw907359911958329709 : True := trivial
theorem head.tw9074772780463953568 : True := trivial
theorem head.tw9082462177598256812 : True := trivial
theorem head.tw9089795715530709647 : True := trivial
theorem head.tw9101448428047585222 : True := trivial
theorem head.tw9103479521544129834 : True := trivial
theorem head.tw9107825763807709430 : True := trivial
theorem head.tw9114333099845857663 : True := trivial
theorem head.tw9114473537983693240 : True := trivial
theorem head.tw9142320679590124636 : True := trivial
theorem head.tw9145527808636388435 : True := trivial
theorem head.tw9162278640276766204 : True := trivial
theorem head.tw9171846695823722306 : True := trivial
theorem head.tw9186546921256032858 : True := trivial
theorem head.tw9188055836752697145 : True := trivial
theorem head.tw9196398404247428943 : True := trivial
theorem head.tw9197122456581196581 : True := trivial
theorem head.tw9202431907968578930 : True := trivial
theorem head.tw9213911765573242809 : True := trivial
theorem head.tw9234455393454914656 : True := trivial
theorem head.tw9258293945399652946 : True := trivial
theorem head.tw9259982139148825551 : True := trivial
theorem head.tw9280153536138602973 : True := trivial
theorem head.tw9318632058080528944 : True := trivial
theorem head.tw9325057278558614444 : True := trivial
theorem head.tw9325123708862168440 : True := trivial
theorem head.tw9349166240623497155 : True := trivial
theorem head.tw9353324838224930552 : True := trivial
theorem head.tw9354026244260953042 : True := trivial
theorem head.tw9368406320212774489 : True := trivial
theorem head.tw9380374249521086144 : True := trivial
theorem head.tw9388430590476628193 : True := trivial
theorem head.tw9407594320385231609 : True := trivial
theorem head.tw9449176361245260279 : True := trivial
theorem head.tw9464831228461672588 : True := trivial
theorem head.tw946586880256125082 : True := trivial
theorem head.tw9493678621577581731 : True := trivial
theorem head.tw9495540839478616804 : True := trivial
theorem head.tw9553506758532729402 : True := trivial
theorem head.tw9554643022042410644 : True := trivial
theorem head.tw9592777112578238593 : True := trivial
theorem head.tw9601497413559074677 : True := trivial
theorem head.tw9610264321537646536 : True := trivial
theorem head.tw9613331823708933692 : True := trivial
theorem head.tw9625377726130185387 : True := trivial
theorem head.tw9638700102674368423 : True := trivial
theorem head.tw9644850379433450445 : True := trivial
theorem head.tw9646481798937456297 : True := trivial
theorem head.tw9682625523605357890 : True := trivial
theorem head.tw9698977904933032859 : True := trivial
theorem head.tw9701577420580846637 : True := trivial
theorem head.tw9702098958229961203 : True := trivial
theorem head.tw970343815744155046 : True := trivial
theorem head.tw9716329373054682134 : True := trivial
theorem head.tw9717200733822644074 : True := trivial
theorem head.tw9718778162690014751 : True := trivial
theorem head.tw9743709737119245314 : True := trivial
theorem head.tw9746458257258439470 : True := trivial
theorem head.tw9767149119325585590 : True := trivial
theorem head.tw976808484645153763 : True := trivial
theorem head.tw9777841548286773677 : True := trivial
theorem head.tw9787907267646277989 : True := trivial
theorem head.tw9802980913210911633 : True := trivial
theorem head.tw9820158181544301314 : True := trivial
theorem head.tw9823536610671039419 : True := trivial
theorem head.tw9827913525700040407 : True := trivial
theorem head.tw9838509708139735780 : True := trivial
theorem head.tw9853107525599957443 : True := trivial
theorem head.tw9867840190021597282 : True := trivial
theorem head.tw9881340216297992761 : True := trivial
theorem head.tw9885750084120196852 : True := trivial
theorem head.tw9894326130215728876 : True := trivial
theorem head.tw9909477652473797434 : True := trivial
theorem head.tw9909988147480630310 : True := trivial
theorem head.tw9950410520057996621 : True := trivial
theorem head.tw9984397402777080727 : True := trivial
theorem head.tw9987851973559822609 : True := trivial
theorem head.tw999222835498014148 : True := trivial
theorem head.tw9997931420998421608 : True := trivial
set_option Elab.async true in
theorem head : PySem.Challenge.rw_nq0213_01.Holds := by
  w_on
  o_law
  o_head (kHook heap (2 :: 3 :: 38 :: 40 :: 41 :: 43 :: 45 :: 47 :: 48 :: 50 :: 51 :: 55 :: 56 :: 57 :: 59 :: 60 :: 62 :: 64 :: 66 :: 67 :: 69 :: 70 :: 71 :: 78 :: 79 :: 80 :: 81 :: 91 :: 93 :: 94 :: 96 :: 97 :: 98 :: 99 :: 100 :: 101 :: 102 :: 103 :: 106 :: 113 :: 114 :: 115 :: 118 :: 125 :: 126 :: 127 :: 357 :: 360 :: 367 :: 368 :: 370 :: 371 :: 373 :: 374 :: 375 :: 377 :: 378 :: 380 :: 381 :: 382 :: 384 :: 385 :: 387 :: 388 :: 389 :: 391 :: 392 :: 394 :: 396 :: 398 :: 399 :: 401 :: 402 :: 403 :: 543 :: 544 :: 546 :: 547 :: 549 :: 550 :: 551 :: 552 :: 554 :: 555 :: 557 :: 558 :: 603 :: 604 :: 656 :: 657 :: 659 :: 660 :: 662 :: 663 :: 664 :: 666 :: 667 :: 669 :: 670 :: 671 :: 672 :: 674 :: 675 :: 677 :: 679 :: 680 :: 682 :: 683 :: 685 :: 687 :: 689 :: 690 :: 692 :: 694 :: 696 :: 697 :: 699 :: 700 :: 701 :: 703 :: 704 :: 706 :: 707 :: 708 :: 710 :: 711 :: 713 :: 715 :: 716 :: 718 :: 719 :: 721 :: 723 :: 725 :: 726 :: 728 :: 729 :: 730 :: 732 :: 733 :: 735 :: 736 :: 737 :: 738 :: 739 :: 740 :: 741 :: 744 :: 745 :: 747 :: 748 :: 750 :: 751 :: 752 :: 754 :: 755 :: 757 :: 758 :: 759 :: 760 :: 762 :: 763 :: 765 :: 766 :: 767 :: 770 :: 771 :: 772 :: 775 :: 776 :: 777 :: 780 :: 781 :: []) (fun _ => by kernel_rfl))
  (case hw => w_witness2)
  k_fill
  intro w s₀ s₁ mg mb G Y fa o pm cd doc dV kV ho hd hcd hD hmg hg args vals as hpre hlay hrd hwl hlo
  have KX := kIn_of Y
  refine Ground.open G ?_
  intro T B D TE TW
  have g781 := mg_of KX T.g (show nsIn (heap w.params) mainGlobals "law" = some (some (.ref 781)) from by k_is)
  have e781 : fa = 781 := by
    have := hmg.symm.trans g781
    cases this
    rfl
  subst e781
  clear ho hd hcd hD hmg G Y B D TE TW g781
  wrow_args hpre hlay hrd hwl hlo
  all_goals refine enter_call ?_
  rename Heap.IsList _ _ _ => hL
  rename IntsAre _ _ => hI
  rename (¬ _ < _) => hlen
  refine law_end (by decide +kernel) (by decide +kernel) KX T hg hL hI hlen (raisesW_false ?_) ?_
  · wrow_none_raised
  · first | wrow_post | kc_post
end Mine
theorem PySem.Challenge.cw_nq0213_01_holds : PySem.Challenge.rw_nq0213_01.Holds :=
  Mine.head
