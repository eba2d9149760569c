import PyProof.Rows.All
import Wide.All
import OpenK.AllK
import Wide.FinOn
import Lean
import PySem.Challenge.RW_nq0205_01
set_option Elab.async false
set_option linter.unusedVariables false
open PySem PySem.W PyProof.Rows
local macro_rules | `(tactic| walk_at $s:str) => `(tactic| k_extra $s)
local macro_rules | `(tactic| size_fits) => `(tactic| k_extra "size_fits")
local macro_rules | `(tactic| k_room) => `(tactic| k_extra "k_room")
local macro_rules | `(tactic| k_units) => `(tactic| k_extra "k_units")
local macro_rules | `(tactic| k_all) => `(tactic| k_extra "k_all")
local macro_rules | `(tactic| k_steps) => `(tactic| k_extra "k_steps")
theorem Mine.flushHq : True := by
  w_top off
  trivial
section PartHq
open PySem PySem.W PyProof.Rows PySem.Calls
set_option Elab.async false
namespace Mine
/-! the part of the heap behind the top that the walk reads -/
noncomputable def nth : List Stmt → Nat → Stmt
  | s :: _, 0 => s
  | _ :: r, n + 1 => nth r n
  | [], _ => .Pass default
noncomputable def clsBody : Stmt → List Stmt
  | .ClassDef _ _ _ b _ _ _ _ _ _ _ => b
  | _ => []
noncomputable def stm (i : Nat) : Stmt := nth PySem.Challenge.pw_nq0205_01.main.body i
noncomputable def meth (i k : Nat) : Stmt := nth (clsBody (stm i)) k
noncomputable def fobj (st : Stmt) (name qual : Str) (dV kV doc pm cd ct : Value) : Obj := match st with
  | .FunctionDef _ args body _ _ _ scope _ _ _ => ⟨.type "function", none, .func { name := name, qualname := qual, params := args, body := .stmts body, scope := scope, globals := 3, closure := [], defaults := dV, kwdefaults := kV, doc := doc, pyModule := pm, annotations := none, code := cd, closureTuple := ct, builtins := 0 }, #[]⟩
  | _ => default
noncomputable def de (P : Params) (k : Str) (t : Tok) (v : Value) : DictEntry := ⟨PyData.keyHash P k, .str k t, v⟩
noncomputable def KF : Params → Frag := fun P =>
  (nat_lit 3, ⟨(.type "dict"), none, .dict #[de P "__name__" 165 (.str "law_nq0205_01" 1287), de P "__doc__" 166 .none, de P "__package__" 167 .none, de P "__loader__" 168 (.builtin "__main__.__loader__#\x6fpaque"), de P "__spec__" 169 .none, de P "__annotations__" 170 (.ref 6), de P "__builtins__" 171 (.ref 4), de P "__file__" 173 (.str "/claim/cut.py" 172), de P "__cached__" 174 .none, de P "_sre" 275 (.ref 12), de P "deque" 317 (.type "collections.deque"), de P "_wall" 330 (.ref 44), de P "_kind" 341 (.ref 51), de P "_fspath" 350 (.ref 58), de P "_check_arg_types" 360 (.ref 65), de P "isabs" 367 (.ref 72), de P "join" 378 (.ref 772), de P "join_path" 379 (.ref 79), de P "splitext" 391 (.ref 86), de P "basename" 399 (.ref 93), de P "dirname" 409 (.ref 100), de P "_modname" 421 (.ref 107), de P "_twin_re_1" 461 (.ref 112), de P "_whence" 471 (.ref 119), de P "_index" 479 (.ref 126), de P "UnsupportedOperation" 501 (.ref 136), de P "IOBase" 533 (.ref 156), de P "BufferedIOBase" 551 (.ref 171), de P "TextIOBase" 569 (.ref 183), de P "BytesIO" 831 (.ref 413), de P "StringIO" 1118 (.ref 660), de P "shlex" 1259 (.ref 753), de P "split" 1269 (.ref 765), de P "join_shlex" 1277 (.ref 772), de P "_find_unsafe" 1279 (.ref 773), de P "quote" 1286 (.ref 780), de P "_law_word" 1294 (.ref 785), de P "_law_cells" 1300 (.ref 790), de P "_law_bounds" 1306 (.ref 795), de P "_law_said" 1314 (.ref 802), de P "law" 1320 (.ref 807)] 41, #[]⟩) ::
  (nat_lit 2, ⟨.none, none, .dict #[de P "\x69mport.loaded._sre" 183 (.bool true), de P "class._frozen_importlib.BuiltinImporter" 185 (.ref 14), de P "watched.\x69mport" 206 (.ref 18), de P "class._frozen_importlib.ModuleSpec" 216 (.ref 22), de P "sys.modules.booked-epoch" 245 (.int 4 0), de P "\x69mport.later-laid._sre" 270 (.bool true), de P "watched.library" 272 (.ref 27), de P "watched.library-objects" 0 (.str "\x0c\x1e" 0), de P "watched.library-deep._sre" 273 (.str "\x04\x00\x00\x0b\x04\x00\x00\x0b\x04\x00\x00\x03\x04\x00\x00\x0b\x08\x04dict\x02" 0), de P "\x69mport.loaded._collections" 280 (.bool true), de P "sys.modules.landed._collections" 294 (.bool true), de P "\x69mport.later-laid._collections" 309 (.bool true), de P "watched.library-deep._collections" 311 (.str "\x04\x00\x00\x1d\x04\x00\x00\x1d\x04\x00\x00\x03\x04\x00\x00\x1d\x08\x04dict\x02" 0), de P "type.__subclasses__.OSError.0" 498 (.int 136 0), de P "type.__subclasses__.OSError.n" 499 (.int 1 0)] 15, #[]⟩) ::
  (nat_lit 51, fobj (stm 4) "_kind" "_kind" .none .none .none (.str "os.path" 331) (.ref 50) .none) ::
  (nat_lit 50, ⟨(.type "code"), none, .fields #[(.str "_kind" 333), (.str "_kind" 334), (.str "/claim/cut.py" 335), (.int 7 0), (.int 2 0), (.int 0 0), (.int 0 0), (.int 3 0), (.ref 45), (.bool true), (.int 318 0), (.ref 46), .none, (.ref 47), (.ref 48), (.ref 49), (.int 339 0), (.int 7 0), (.str "/claim/cut.py" 340)], #[]⟩) ::
  (nat_lit 58, fobj (stm 5) "_fspath" "_fspath" .none .none .none (.str "os.path" 331) (.ref 57) .none) ::
  (nat_lit 57, ⟨(.type "code"), none, .fields #[(.str "_fspath" 342), (.str "_fspath" 343), (.str "/claim/cut.py" 344), (.int 28 0), (.int 2 0), (.int 0 0), (.int 0 0), (.int 3 0), (.ref 52), (.bool true), (.int 318 0), (.ref 53), .none, (.ref 54), (.ref 55), (.ref 56), (.int 348 0), (.int 28 0), (.str "/claim/cut.py" 349)], #[]⟩) ::
  (nat_lit 86, fobj (stm 10) "splitext" "splitext" .none .none .none (.str "os.path" 331) (.ref 85) .none) ::
  (nat_lit 85, ⟨(.type "code"), none, .fields #[(.str "splitext" 380), (.str "splitext" 381), (.str "/claim/cut.py" 382), (.int 62 0), (.int 1 0), (.int 0 0), (.int 0 0), (.int 3 0), (.ref 80), (.bool true), (.int 318 0), (.ref 81), .none, (.ref 82), (.ref 83), (.ref 84), (.int 389 0), (.int 62 0), (.str "/claim/cut.py" 390)], #[]⟩) ::
  (nat_lit 93, fobj (stm 11) "basename" "basename" .none .none .none (.str "os.path" 331) (.ref 92) .none) ::
  (nat_lit 92, ⟨(.type "code"), none, .fields #[(.str "basename" 392), (.str "basename" 393), (.str "/claim/cut.py" 394), (.int 75 0), (.int 1 0), (.int 0 0), (.int 0 0), (.int 3 0), (.ref 87), (.bool true), (.int 318 0), (.ref 88), .none, (.ref 89), (.ref 90), (.ref 91), (.int 397 0), (.int 75 0), (.str "/claim/cut.py" 398)], #[]⟩) ::
  (nat_lit 107, fobj (stm 14) "_modname" "_modname" .none .none .none (.str "cpy313.trace" 410) (.ref 106) .none) ::
  (nat_lit 106, ⟨(.type "code"), none, .fields #[(.str "_modname" 412), (.str "_modname" 413), (.str "/claim/cut.py" 414), (.int 88 0), (.int 1 0), (.int 0 0), (.int 0 0), (.int 3 0), (.ref 101), (.bool true), (.int 318 0), (.ref 102), .none, (.ref 103), (.ref 104), (.ref 105), (.int 419 0), (.int 88 0), (.str "/claim/cut.py" 420)], #[]⟩) ::
  (nat_lit 112, ⟨(.type "re.Pattern"), none, .fields #[(.str "[^\\w@%+=:,./-]" 423), (.int 256 460), (.int 0 0), .none, .none, (.ref 111), (.int 0 0)], #[]⟩) ::
  (nat_lit 111, ⟨(.type "tuple"), none, .seq #[(.int 14 0), (.int 17 0), (.int 4 0), (.int 1 0), (.int 1 0), (.int 21 0), (.int 9 0), (.int 0 0), (.int 604043296 0), (.int 1 0), (.int 0 0), (.int 0 0), (.int 0 0), (.int 0 0), (.int 0 0), (.int 8 0), (.int 4 0), (.int 0 0), (.int 13 0), (.int 14 0), (.int 21 0), (.int 9 0), (.int 0 0), (.int 604043296 0), (.int 1 0), (.int 0 0), (.int 0 0), (.int 0 0), (.int 0 0), (.int 0 0), (.int 8 0), (.int 4 0), (.int 0 0), (.int 1 0)] 0, #[]⟩) ::
  (nat_lit 126, fobj (stm 18) "_index" "_index" .none .none .none (.str "io" 462) (.ref 125) .none) ::
  (nat_lit 125, ⟨(.type "code"), none, .fields #[(.str "_index" 472), (.str "_index" 473), (.str "/claim/cut.py" 474), (.int 99 0), (.int 2 0), (.int 0 0), (.int 0 0), (.int 3 0), (.ref 120), (.bool true), (.int 318 0), (.ref 121), .none, (.ref 122), (.ref 123), (.ref 124), (.int 477 0), (.int 99 0), (.str "/claim/cut.py" 478)], #[]⟩) ::
  (nat_lit 153, fobj (meth 20 1) "__new__" "IOBase.__new__" .none .none .none (.str "io" 462) (.ref 152) .none) ::
  (nat_lit 152, ⟨(.type "code"), none, .fields #[(.str "__new__" 516), (.str "IOBase.__new__" 517), (.str "/claim/cut.py" 518), (.int 111 0), (.int 1 0), (.int 1 0), (.int 0 0), (.int 15 0), (.ref 147), (.bool true), (.int 318 0), (.ref 148), .none, (.ref 149), (.ref 150), (.ref 151), (.int 522 0), (.int 111 0), (.str "/claim/cut.py" 523)], #[]⟩) ::
  (nat_lit 156, ⟨(.type "type"), none, .cls ⟨"IOBase", [(.type "object")], [(.ref 156), (.type "object")], 155, "IOBase", true, [], [(.ref 171), (.ref 183)], false, none, false⟩, #[none, none, some (.str "IOBase" 502), some (.str "IOBase" 510), some .none, some (.bool true)]⟩) ::
  (nat_lit 155, ⟨(.type "dict"), none, .dict #[de P "__module__" 509 (.str "io" 514), de P "__firstlineno__" 513 (.int 108 512), de P "__new__" 524 (.ref 157), de P "__static_attributes__" 525 (.ref 154), de P "__dict__" 528 (.ref 158), de P "__weakref__" 530 (.ref 159), de P "__doc__" 531 .none] 4, #[]⟩) ::
  (nat_lit 157, ⟨(.type "staticmethod"), none, .fields #[(.ref 153)], #[]⟩) ::
  (nat_lit 183, ⟨(.type "type"), none, .cls ⟨"TextIOBase", [(.ref 156)], [(.ref 183), (.ref 156), (.type "object")], 182, "TextIOBase", true, [], [(.ref 660)], false, none, false⟩, #[some (.ref 174), none, some (.str "TextIOBase" 552), some (.str "TextIOBase" 560), some .none, some (.bool true)]⟩) ::
  (nat_lit 182, ⟨(.type "dict"), none, .dict #[de P "__module__" 559 (.str "io" 564), de P "__firstlineno__" 563 (.int 117 562), de P "__static_attributes__" 566 (.ref 181), de P "__doc__" 567 .none] 2, #[]⟩) ::
  (nat_lit 413, ⟨(.type "type"), none, .cls ⟨"BytesIO", [(.ref 171)], [(.ref 413), (.ref 171), (.ref 156), (.type "object")], 412, "BytesIO", true, [], [], false, none, false⟩, #[some (.ref 186), none, some (.str "BytesIO" 570), some (.str "BytesIO" 578), some .none, some (.bool true)]⟩) ::
  (nat_lit 430, fobj (meth 24 1) "__init__" "StringIO.__init__" (.ref 423) .none .none (.str "io" 462) (.ref 429) .none) ::
  (nat_lit 429, ⟨(.type "code"), none, .fields #[(.str "__init__" 848), (.str "StringIO.__init__" 849), (.str "/claim/cut.py" 850), (.int 292 0), (.int 3 0), (.int 0 0), (.int 0 0), (.int 3 0), (.ref 424), (.bool true), (.int 318 0), (.ref 425), .none, (.ref 426), (.ref 427), (.ref 428), (.int 854 0), (.int 292 0), (.str "/claim/cut.py" 855)], #[]⟩) ::
  (nat_lit 423, ⟨(.type "tuple"), none, .seq #[(.str "" 846), (.str "\n" 847)] 0, #[]⟩) ::
  (nat_lit 437, fobj (meth 24 2) "__translated" "StringIO.__translated" .none .none .none (.str "io" 462) (.ref 436) .none) ::
  (nat_lit 436, ⟨(.type "code"), none, .fields #[(.str "__translated" 857), (.str "StringIO.__translated" 858), (.str "/claim/cut.py" 859), (.int 305 0), (.int 2 0), (.int 0 0), (.int 0 0), (.int 3 0), (.ref 431), (.bool true), (.int 318 0), (.ref 432), .none, (.ref 433), (.ref 434), (.ref 435), (.int 863 0), (.int 305 0), (.str "/claim/cut.py" 864)], #[]⟩) ::
  (nat_lit 444, fobj (meth 24 3) "__check" "StringIO.__check" .none .none .none (.str "io" 462) (.ref 443) .none) ::
  (nat_lit 443, ⟨(.type "code"), none, .fields #[(.str "__check" 866), (.str "StringIO.__check" 867), (.str "/claim/cut.py" 868), (.int 313 0), (.int 1 0), (.int 0 0), (.int 0 0), (.int 3 0), (.ref 438), (.bool true), (.int 318 0), (.ref 439), .none, (.ref 440), (.ref 441), (.ref 442), (.int 870 0), (.int 313 0), (.str "/claim/cut.py" 871)], #[]⟩) ::
  (nat_lit 606, fobj (meth 24 25) "read" "StringIO.read" (.ref 599) .none .none (.str "io" 462) (.ref 605) .none) ::
  (nat_lit 605, ⟨(.type "code"), none, .fields #[(.str "read" 1040), (.str "StringIO.read" 1041), (.str "/claim/cut.py" 1042), (.int 435 0), (.int 2 0), (.int 2 0), (.int 0 0), (.int 3 0), (.ref 600), (.bool true), (.int 318 0), (.ref 601), .none, (.ref 602), (.ref 603), (.ref 604), (.int 1047 0), (.int 435 0), (.str "/claim/cut.py" 1048)], #[]⟩) ::
  (nat_lit 599, ⟨(.type "tuple"), none, .seq #[(.int (-1) 1039)] 0, #[]⟩) ::
  (nat_lit 660, ⟨(.type "type"), none, .cls ⟨"StringIO", [(.ref 183)], [(.ref 660), (.ref 183), (.ref 156), (.type "object")], 659, "StringIO", true, [], [], false, none, false⟩, #[some (.ref 416), none, some (.str "StringIO" 832), some (.str "StringIO" 840), some .none, some (.bool true)]⟩) ::
  (nat_lit 659, ⟨(.type "dict"), none, .dict #[de P "__module__" 839 (.str "_io" 844), de P "__firstlineno__" 843 (.int 289 842), de P "__init__" 856 (.ref 430), de P "_StringIO__translated" 865 (.ref 437), de P "_StringIO__check" 872 (.ref 444), de P "_StringIO__check_dot" 879 (.ref 451), de P "_StringIO__line" 894 (.ref 458), de P "closed" 902 (.ref 466), de P "line_buffering" 910 (.ref 474), de P "newlines" 918 (.ref 482), de P "encoding" 926 (.ref 490), de P "errors" 934 (.ref 498), de P "close" 941 (.ref 505), de P "__enter__" 948 (.ref 512), de P "__exit__" 956 (.ref 519), de P "readable" 963 (.ref 526), de P "writable" 970 (.ref 533), de P "seekable" 977 (.ref 540), de P "isatty" 984 (.ref 547), de P "flush" 991 (.ref 554), de P "fileno" 998 (.ref 561), de P "detach" 1005 (.ref 568), de P "getvalue" 1012 (.ref 575), de P "tell" 1019 (.ref 582), de P "seek" 1029 (.ref 590), de P "truncate" 1037 (.ref 598), de P "read" 1049 (.ref 606), de P "readline" 1059 (.ref 614), de P "readlines" 1069 (.ref 622), de P "__iter__" 1076 (.ref 629), de P "__next__" 1084 (.ref 636), de P "write" 1096 (.ref 643), de P "writelines" 1104 (.ref 650), de P "__repr__" 1111 (.ref 657), de P "__static_attributes__" 1115 (.ref 658), de P "__doc__" 1116 .none] 2, #[]⟩) ::
  (nat_lit 677, fobj (meth 26 0) "__init__" "shlex.__init__" (.ref 670) .none .none (.str "cpy313.shlex" 1119) (.ref 676) .none) ::
  (nat_lit 676, ⟨(.type "code"), none, .fields #[(.str "__init__" 1133), (.str "shlex.__init__" 1134), (.str "/claim/cut.py" 1135), (.int 497 0), (.int 5 0), (.int 0 0), (.int 0 0), (.int 3 0), (.ref 671), (.bool true), (.int 318 0), (.ref 672), .none, (.ref 673), (.ref 674), (.ref 675), (.int 1142 0), (.int 497 0), (.str "/claim/cut.py" 1143)], #[]⟩) ::
  (nat_lit 670, ⟨(.type "tuple"), none, .seq #[.none, .none, (.bool false), (.bool false)] 0, #[]⟩) ::
  (nat_lit 684, fobj (meth 26 1) "punctuation_chars" "shlex.punctuation_chars" .none .none .none (.str "cpy313.shlex" 1119) (.ref 683) .none) ::
  (nat_lit 683, ⟨(.type "code"), none, .fields #[(.str "punctuation_chars" 1145), (.str "shlex.punctuation_chars" 1146), (.str "/claim/cut.py" 1147), (.int 538 0), (.int 1 0), (.int 0 0), (.int 0 0), (.int 3 0), (.ref 678), (.bool true), (.int 318 0), (.ref 679), .none, (.ref 680), (.ref 681), (.ref 682), (.int 1149 0), (.int 538 0), (.str "/claim/cut.py" 1150)], #[]⟩) ::
  (nat_lit 685, ⟨(.type "property"), none, .fields #[(.ref 684), .none, .none, .none, (.str "punctuation_chars" 1152), (.bool false)], #[]⟩) ::
  (nat_lit 714, fobj (meth 26 5) "get_token" "shlex.get_token" .none .none .none (.str "cpy313.shlex" 1119) (.ref 713) .none) ::
  (nat_lit 713, ⟨(.type "code"), none, .fields #[(.str "get_token" 1177), (.str "shlex.get_token" 1178), (.str "/claim/cut.py" 1179), (.int 565 0), (.int 1 0), (.int 0 0), (.int 0 0), (.int 3 0), (.ref 708), (.bool true), (.int 318 0), (.ref 709), .none, (.ref 710), (.ref 711), (.ref 712), (.int 1186 0), (.int 565 0), (.str "/claim/cut.py" 1187)], #[]⟩) ::
  (nat_lit 721, fobj (meth 26 6) "read_token" "shlex.read_token" .none .none .none (.str "cpy313.shlex" 1119) (.ref 720) .none) ::
  (nat_lit 720, ⟨(.type "code"), none, .fields #[(.str "read_token" 1189), (.str "shlex.read_token" 1190), (.str "/claim/cut.py" 1191), (.int 592 0), (.int 1 0), (.int 0 0), (.int 0 0), (.int 3 0), (.ref 715), (.bool true), (.int 318 0), (.ref 716), .none, (.ref 717), (.ref 718), (.ref 719), (.int 1197 0), (.int 592 0), (.str "/claim/cut.py" 1198)], #[]⟩) ::
  (nat_lit 743, fobj (meth 26 9) "__iter__" "shlex.__iter__" .none .none .none (.str "cpy313.shlex" 1119) (.ref 742) .none) ::
  (nat_lit 742, ⟨(.type "code"), none, .fields #[(.str "__iter__" 1217), (.str "shlex.__iter__" 1218), (.str "/claim/cut.py" 1219), (.int 739 0), (.int 1 0), (.int 0 0), (.int 0 0), (.int 3 0), (.ref 737), (.bool true), (.int 318 0), (.ref 738), .none, (.ref 739), (.ref 740), (.ref 741), (.int 1221 0), (.int 739 0), (.str "/claim/cut.py" 1222)], #[]⟩) ::
  (nat_lit 750, fobj (meth 26 10) "__next__" "shlex.__next__" .none .none .none (.str "cpy313.shlex" 1119) (.ref 749) .none) ::
  (nat_lit 749, ⟨(.type "code"), none, .fields #[(.str "__next__" 1224), (.str "shlex.__next__" 1225), (.str "/claim/cut.py" 1226), (.int 742 0), (.int 1 0), (.int 0 0), (.int 0 0), (.int 3 0), (.ref 744), (.bool true), (.int 318 0), (.ref 745), .none, (.ref 746), (.ref 747), (.ref 748), (.int 1229 0), (.int 742 0), (.str "/claim/cut.py" 1230)], #[]⟩) ::
  (nat_lit 753, ⟨(.type "type"), none, .cls ⟨"shlex", [(.type "object")], [(.ref 753), (.type "object")], 752, "shlex", true, [], [], false, none, false⟩, #[none, none, some (.str "shlex" 1121), some (.str "shlex" 1129), some (.builtin "object.__new__"), some (.bool true)]⟩) ::
  (nat_lit 752, ⟨(.type "dict"), none, .dict #[de P "__module__" 1128 (.str "cpy313.shlex" 1119), de P "__firstlineno__" 1132 (.int 495 1131), de P "__init__" 1144 (.ref 677), de P "punctuation_chars" 1152 (.ref 685), de P "push_token" 1160 (.ref 692), de P "push_source" 1169 (.ref 700), de P "pop_source" 1176 (.ref 707), de P "get_token" 1188 (.ref 714), de P "read_token" 1199 (.ref 721), de P "sourcehook" 1207 (.ref 728), de P "error_leader" 1216 (.ref 736), de P "__iter__" 1223 (.ref 743), de P "__next__" 1231 (.ref 750), de P "__static_attributes__" 1252 (.ref 751), de P "__dict__" 1254 (.ref 754), de P "__weakref__" 1256 (.ref 755), de P "__doc__" 1257 .none] 4, #[]⟩) ::
  (nat_lit 765, fobj (stm 27) "split" "split" (.ref 758) .none .none (.str "cpy313.shlex" 1119) (.ref 764) .none) ::
  (nat_lit 764, ⟨(.type "code"), none, .fields #[(.str "split" 1260), (.str "split" 1261), (.str "/claim/cut.py" 1262), (.int 747 0), (.int 3 0), (.int 0 0), (.int 0 0), (.int 3 0), (.ref 759), (.bool true), (.int 318 0), (.ref 760), .none, (.ref 761), (.ref 762), (.ref 763), (.int 1267 0), (.int 747 0), (.str "/claim/cut.py" 1268)], #[]⟩) ::
  (nat_lit 758, ⟨(.type "tuple"), none, .seq #[(.bool false), (.bool true)] 0, #[]⟩) ::
  (nat_lit 772, fobj (stm 28) "join" "join" .none .none .none (.str "cpy313.shlex" 1119) (.ref 771) .none) ::
  (nat_lit 771, ⟨(.type "code"), none, .fields #[(.str "join" 1270), (.str "join" 1271), (.str "/claim/cut.py" 1272), (.int 755 0), (.int 1 0), (.int 0 0), (.int 0 0), (.int 3 0), (.ref 766), (.bool true), (.int 318 0), (.ref 767), .none, (.ref 768), (.ref 769), (.ref 770), (.int 1274 0), (.int 755 0), (.str "/claim/cut.py" 1275)], #[]⟩) ::
  (nat_lit 780, fobj (stm 31) "quote" "quote" .none .none .none (.str "cpy313.shlex" 1119) (.ref 779) .none) ::
  (nat_lit 779, ⟨(.type "code"), none, .fields #[(.str "quote" 1280), (.str "quote" 1281), (.str "/claim/cut.py" 1282), (.int 759 0), (.int 1 0), (.int 0 0), (.int 0 0), (.int 3 0), (.ref 774), (.bool true), (.int 318 0), (.ref 775), .none, (.ref 776), (.ref 777), (.ref 778), (.int 1284 0), (.int 759 0), (.str "/claim/cut.py" 1285)], #[]⟩) ::
  (nat_lit 785, fobj (stm 33) "_law_word" "_law_word" .none .none .none (.str "law_nq0205_01" 1287) (.ref 784) .none) ::
  (nat_lit 784, ⟨(.type "code"), none, .fields #[(.str "_law_word" 1289), (.str "_law_word" 1290), (.str "/claim/cut.py" 1291), (.int 766 0), (.int 1 0), (.int 0 0), (.int 0 0), (.int 3 0), (.ref 781), (.bool true), (.int 318 0), (.ref 782), .none, .none, .none, (.ref 783), (.int 1292 0), (.int 766 0), (.str "/claim/cut.py" 1293)], #[]⟩) ::
  (nat_lit 790, fobj (stm 34) "_law_cells" "_law_cells" .none .none .none (.str "law_nq0205_01" 1287) (.ref 789) .none) ::
  (nat_lit 789, ⟨(.type "code"), none, .fields #[(.str "_law_cells" 1295), (.str "_law_cells" 1296), (.str "/claim/cut.py" 1297), (.int 770 0), (.int 1 0), (.int 0 0), (.int 0 0), (.int 3 0), (.ref 786), (.bool true), (.int 318 0), (.ref 787), .none, .none, .none, (.ref 788), (.int 1298 0), (.int 770 0), (.str "/claim/cut.py" 1299)], #[]⟩) ::
  (nat_lit 795, fobj (stm 35) "_law_bounds" "_law_bounds" .none .none .none (.str "law_nq0205_01" 1287) (.ref 794) .none) ::
  (nat_lit 794, ⟨(.type "code"), none, .fields #[(.str "_law_bounds" 1301), (.str "_law_bounds" 1302), (.str "/claim/cut.py" 1303), (.int 783 0), (.int 1 0), (.int 0 0), (.int 0 0), (.int 3 0), (.ref 791), (.bool true), (.int 318 0), (.ref 792), .none, .none, .none, (.ref 793), (.int 1304 0), (.int 783 0), (.str "/claim/cut.py" 1305)], #[]⟩) ::
  (nat_lit 802, fobj (stm 36) "_law_said" "_law_said" .none .none .none (.str "law_nq0205_01" 1287) (.ref 801) .none) ::
  (nat_lit 801, ⟨(.type "code"), none, .fields #[(.str "_law_said" 1307), (.str "_law_said" 1308), (.str "/claim/cut.py" 1309), (.int 793 0), (.int 1 0), (.int 0 0), (.int 0 0), (.int 3 0), (.ref 796), (.bool true), (.int 318 0), (.ref 797), .none, (.ref 798), (.ref 799), (.ref 800), (.int 1312 0), (.int 793 0), (.str "/claim/cut.py" 1313)], #[]⟩) ::
  (nat_lit 807, fobj (stm 37) "law" "law" .none .none .none (.str "law_nq0205_01" 1287) (.ref 806) .none) ::
  (nat_lit 806, ⟨(.type "code"), none, .fields #[(.str "law" 1315), (.str "law" 1316), (.str "/claim/cut.py" 1317), (.int 798 0), (.int 1 0), (.int 0 0), (.int 0 0), (.int 3 0), (.ref 803), (.bool true), (.int 318 0), (.ref 804), .none, .none, .none, (.ref 805), (.int 1318 0), (.int 798 0), (.str "/claim/cut.py" 1319)], #[]⟩) ::
  (nat_lit 773, ⟨(.type "builtin_function_or_method"), none, .fields #[(.builtin "re.Pattern.search"), (.ref 112)], #[]⟩) :: []
noncomputable def KA : List Addr := nat_lit 3 :: nat_lit 2 :: nat_lit 51 :: nat_lit 50 :: nat_lit 58 :: nat_lit 57 :: nat_lit 86 :: nat_lit 85 :: nat_lit 93 :: nat_lit 92 :: nat_lit 107 :: nat_lit 106 :: nat_lit 112 :: nat_lit 111 :: nat_lit 126 :: nat_lit 125 :: nat_lit 153 :: nat_lit 152 :: nat_lit 156 :: nat_lit 155 :: nat_lit 157 :: nat_lit 183 :: nat_lit 182 :: nat_lit 413 :: nat_lit 430 :: nat_lit 429 :: nat_lit 423 :: nat_lit 437 :: nat_lit 436 :: nat_lit 444 :: nat_lit 443 :: nat_lit 606 :: nat_lit 605 :: nat_lit 599 :: nat_lit 660 :: nat_lit 659 :: nat_lit 677 :: nat_lit 676 :: nat_lit 670 :: nat_lit 684 :: nat_lit 683 :: nat_lit 685 :: nat_lit 714 :: nat_lit 713 :: nat_lit 721 :: nat_lit 720 :: nat_lit 743 :: nat_lit 742 :: nat_lit 750 :: nat_lit 749 :: nat_lit 753 :: nat_lit 752 :: nat_lit 765 :: nat_lit 764 :: nat_lit 758 :: nat_lit 772 :: nat_lit 771 :: nat_lit 780 :: nat_lit 779 :: nat_lit 785 :: nat_lit 784 :: nat_lit 790 :: nat_lit 789 :: nat_lit 795 :: nat_lit 794 :: nat_lit 802 :: nat_lit 801 :: nat_lit 807 :: nat_lit 806 :: nat_lit 773 :: []
/-- the table of the code made within join -/
noncomputable abbrev tabO (ps : Array Value) : Obj := { cls := .none, data := .fields ps }
/-- the module of the built-ins -/
noncomputable abbrev modO : Obj := { cls := .type "module", dict := some 0, data := .plain }
noncomputable def KF2 : Params → Frag := fun P => (nat_lit 767, tabO #[]) :: (nat_lit 4, modO) :: KF P
noncomputable def KA2 : List Addr := nat_lit 767 :: nat_lit 4 :: KA
noncomputable def Q0 : Program := view PySem.Challenge.pw_nq0205_01 [0, 1, 37]
noncomputable def loose0 : List Str := ["_wall", "_kind", "_fspath", "_check_arg_types", "isabs", "join", "join_path", "splitext", "basename", "dirname", "_modname", "_twin_re_1", "_whence", "_index", "UnsupportedOperation", "IOBase", "BufferedIOBase", "TextIOBase", "BytesIO", "StringIO", "shlex", "split", "join_shlex", "_find_unsafe", "quote", "_law_word", "_law_cells", "_law_bounds", "_law_said"]
noncomputable def Xt0 (s : Shared) : Bool := xlAt Q0 [] s && recOk [] s
noncomputable def N0 : Nat := 10430
/-! the top's run, the heap kept as a tree, at once -/
noncomputable def topRunT (tb : String → Option Builtin) (p : Program) (w : World) (n₀ : Nat) (ann : Option Value) : Nat → SharedT → Thread → Option SharedT
  | 0, _, _ => none
  | n + 1, s, t => match through t with
    | true => some s
    | false => match stepOk n₀ ann t with
      | false => none
      | true => match stepT (denote tb) p w s t with
        | some (s', t') => topRunT tb p w n₀ ann n s' t'
        | none => none
noncomputable def topRunQ (p : Program) (w : World) (n₀ : Nat) (ann : Option Value) : Nat → SharedT → Thread → Option SharedT
  | 0, _, _ => none
  | n + 1, s, t => match through t with
    | true => some s
    | false => match Fast.tw6613529449190102663 n₀ ann t with
      | false => none
      | true => match Fast.tw10156331382660048174 (Fast.tw11892475500146522536 Fast.tw14364793385576792824) p w s t with
        | some (s', t') => topRunQ p w n₀ ann n s' t'
        | none => none
theorem topRunQ_eq (p : Program) (w : World) (n₀ : Nat) (ann : Option Value) : ∀ n s t, topRunQ p w n₀ ann n s t = topRunT treeTable p w n₀ ann n s t
  | 0, _, _ => rfl
  | n + 1, s, t => by
    unfold topRunQ topRunT
    rw [← Fast.te6613529449190102663, ← Fast.te10156331382660048174, ← Fast.te11892475500146522536, ← Fast.te14364793385576792824]
    cases through t <;> try rfl
    cases stepOk n₀ ann t <;> try rfl
    dsimp only
    cases stepT (denote treeTable) p w s t with
    | none => rfl
    | some r => exact topRunQ_eq p w n₀ ann n r.1 r.2
theorem topRun_of {tb : String → Option Builtin} {p : Program} {w : World} {n₀ : Nat} {ann : Option Value} : ∀ {n : Nat} {s s' : SharedT} {t : Thread}, topRunT tb p w n₀ ann n s t = some s' → topRun tb p w n₀ ann n s.abs t = some s'.abs
  | 0, _, _, _, h => by cases h
  | n + 1, s, s', t, h => by
    unfold topRunT at h
    unfold topRun
    cases he : through t with
    | true => rw [he] at h; cases h; rfl
    | false =>
      rw [he] at h
      cases hk : stepOk n₀ ann t with
      | false => rw [hk] at h; cases h
      | true =>
        rw [hk] at h
        cases hs : stepT (denote tb) p w s t with
        | none => rw [hs] at h; cases h
        | some r => obtain ⟨s₂, t₂⟩ := r; rw [hs] at h; dsimp only at h ⊢; rw [stepT_spec hs]; exact topRun_of h
noncomputable def insAll : BT → Nat → List Obj → Option BT
  | t, _, [] => some t
  | t, n, o :: r => match ((t.ins n o).get n).isSome with
    | true => insAll (t.ins n o) (n + 1) r
    | false => none
theorem insAll_abs (life : Life) : ∀ (l : List Obj) (t t' : BT) (n : Nat), insAll t n l = some t' → absHeap t' (n + l.length) life = ⟨(absHeap t n life).objs ++ l.toArray, life⟩
  | [], t, t', n, h => by cases h; simp [absHeap]
  | o :: r, t, t', n, h => by
    unfold insAll at h
    cases g : ((t.ins n o).get n).isSome with
    | false => rw [g] at h; cases h
    | true =>
      rw [g] at h
      have := insAll_abs life r _ _ _ h
      rw [List.length_cons, show n + (r.length + 1) = n + 1 + r.length by omega, this, absHeap_ins g]
      simp [Heap.push]
noncomputable def toT (s : Shared) : Option SharedT := (insAll .nil 0 s.heap.objs.toList).map fun t => ⟨t, s.heap.objs.size, s.heap.life, s.gens, s.drawn, s.toks, s.os⟩
theorem toT_abs {s : Shared} {st : SharedT} (h : toT s = some st) : st.abs = s := by
  unfold toT at h
  obtain ⟨t, ht, rfl⟩ := Option.map_eq_some_iff.mp h
  have e := insAll_abs s.heap.life _ _ _ _ ht
  obtain ⟨⟨objs, life⟩, gens, drawn, toks, os⟩ := s
  unfold SharedT.abs
  dsimp only at e ⊢
  rw [Nat.zero_add, Array.length_toList] at e
  rw [e]
  simp [absHeap, BT.list]
noncomputable def runQ (w : World) : Option (Shared × SharedT) :=
  (Fast.tw10274390034422433532 Fast.tw14364793385576792824 (opening PySem.Challenge.pw_nq0205_01) w N0 (Fast.tw1435165496053646825 (opening PySem.Challenge.pw_nq0205_01)).1 (Fast.tw1435165496053646825 (opening PySem.Challenge.pw_nq0205_01)).2).bind fun s =>
    (Fast.tw14289696077712309145 PySem.Challenge.pw_nq0205_01 s).bind fun s₀ => (toT s₀).bind fun st =>
      (topRunQ PySem.Challenge.pw_nq0205_01 w s₀.heap.objs.size (Fast.tw8920871248978507458 s₀.heap mainGlobals "__annotations__") N0 st (topStub PySem.Challenge.pw_nq0205_01)).map fun st' => (s₀, st')
noncomputable def seenQ (x : Shared × SharedT) :=
  ((x.1.heap.isNs mainGlobals && x.1.gens.size == 0, staticsOk (Fast.tw5923862056798008813 PySem.Challenge.pw_nq0205_01.main.body) x.1.heap x.2.abs.heap && namesBound PySem.Challenge.pw_nq0205_01 x.2.abs.heap && gensDone x.2.abs && laidKept x.1.heap x.2.abs.heap),
   Fast.tw4187177175401517315 Q0 loose0 (Fast.tw5923862056798008813 PySem.Challenge.pw_nq0205_01.main.body) Xt0 true x.2.abs, KA2.map x.2.abs.heap.get?)
set_option maxRecDepth 100000 in
set_option maxHeartbeats 0 in
theorem chk : ∀ w : World, (runQ w).map seenQ = some ((true, true), openGood Q0 loose0, (KF2 w.params).map fun p => some p.2) := fun w => by kernel_rfl
end Mine
end PartHq
theorem Mine.flushHq3 : True := by
  w_top off
  trivial
section PartHq3
open PySem PySem.W PyProof.Rows PySem.Calls
set_option Elab.async false
namespace Mine
theorem left0 : LeftO PySem.Challenge.pw_nq0205_01 Q0 loose0 Xt0 (fun s => KA2.map s.heap.get?) (fun w => (KF2 w.params).map fun p => some p.2) N0 true := fun w => by
  obtain ⟨⟨s₀, st'⟩, e, k⟩ := Option.map_eq_some_iff.mp (chk w)
  unfold runQ at e
  rw [← Fast.te10274390034422433532, ← Fast.te14364793385576792824, ← Fast.te1435165496053646825, ← Fast.te14289696077712309145, ← Fast.te8920871248978507458] at e
  obtain ⟨s, e1, e⟩ := Option.bind_eq_some_iff.mp e
  obtain ⟨s₀', e2, e⟩ := Option.bind_eq_some_iff.mp e
  obtain ⟨st, e3, e⟩ := Option.bind_eq_some_iff.mp e
  obtain ⟨st'', e4, e⟩ := Option.map_eq_some_iff.mp e
  obtain ⟨rfl, rfl⟩ : s₀' = s₀ ∧ st'' = st' := by simpa using e
  rw [topRunQ_eq] at e4
  have e5 := topRun_of e4
  rw [toT_abs e3] at e5
  unfold seenQ at k
  rw [← Fast.te4187177175401517315, ← Fast.te5923862056798008813] at k
  obtain ⟨⟨k1, k2⟩, k3, k4⟩ : (_ ∧ _) ∧ _ ∧ _ := by simpa only [Prod.mk.injEq] using k
  have t : topFrom treeTable PySem.Challenge.pw_nq0205_01 w N0 s₀' = some st''.abs := by
    unfold topFrom
    rw [k1]
    dsimp only
    rw [e5]
    dsimp only [Option.bind]
    rw [k2]
  unfold openEnds fencedOpening
  rw [e1]
  dsimp only [Option.bind]
  rw [e2]
  dsimp only
  rw [t]
  exact congrArg some (Prod.ext k3 k4)
theorem kA_eq : ∀ P, KA2 = (KF2 P).map (·.1) := fun P => by kernel_rfl
set_option maxRecDepth 100000 in
theorem leaf0 : Fast.tw11788848310118352699 (Fast.tw2368527892694137696 Challenge.rw_nq0205_01).prog.main = true := by kernel_rfl
set_option maxRecDepth 100000 in
theorem leaf1 : ((Fast.tw9807087744658564304 (Fast.tw2368527892694137696 Challenge.rw_nq0205_01).prog.main.body).isEmpty || Fast.tw12862048085361865435 (Fast.tw9807087744658564304 (Fast.tw2368527892694137696 Challenge.rw_nq0205_01).prog.main.body) (Fast.tw2368527892694137696 Challenge.rw_nq0205_01).prog.main.body) = true := by kernel_rfl
set_option maxRecDepth 100000 in
theorem leaf2 : Fast.tw8377067652309620493 (Fast.tw2368527892694137696 Challenge.rw_nq0205_01).prog = true := by kernel_rfl
set_option maxRecDepth 100000 in
theorem leaf3 : (R.allR (Fast.tw18344453789297297638 (Fast.tw2368527892694137696 Challenge.rw_nq0205_01).prog) fun n => !Fast.tw3471404346716756564 Fast.tw14412699480532031325 n) = true := by kernel_rfl
set_option maxRecDepth 100000 in
theorem leaf4 : Fast.tw8326940854005059898 { strict := !R.allR (Fast.tw5923862056798008813 (Fast.tw2368527892694137696 Challenge.rw_nq0205_01).prog.main.body) (@Fast.tw3471404346716756564 Str (@instBEqOfDecidableEq Str Fast.sDec) Fast.tw17691160309236699985), foot := none, bare := R.filterR (Fast.tw13343964577679436407 (Fast.tw2368527892694137696 Challenge.rw_nq0205_01).prog (Fast.tw2368527892694137696 Challenge.rw_nq0205_01).prog.main.body) [{ cps := { toList := [nat_lit 118, nat_lit 97, nat_lit 114, nat_lit 115] } }, { cps := { toList := [nat_lit 100, nat_lit 105, nat_lit 114] } }, { cps := { toList := [nat_lit 108, nat_lit 111, nat_lit 99, nat_lit 97, nat_lit 108, nat_lit 115] } }] } (Fast.tw2368527892694137696 Challenge.rw_nq0205_01).prog.main.body = true := by kernel_rfl
set_option maxRecDepth 100000 in
theorem leaf5 : (Fast.tw17119622794617984870 (Fast.tw2368527892694137696 Challenge.rw_nq0205_01).prog (Fast.tw2368527892694137696 Challenge.rw_nq0205_01).prog.main.body fun _ n => Fast.tw17868728402115742887 n) = true := by kernel_rfl
set_option maxRecDepth 100000 in
theorem leaf6 : (Fast.tw17119622794617984870 Challenge.rw_nq0205_01.prog Challenge.rw_nq0205_01.above fun _ n => !Fast.tw3471404346716756564 (Fast.tw10792542408131684335 Challenge.rw_nq0205_01) n) = true := by kernel_rfl
set_option maxRecDepth 100000 in
set_option maxHeartbeats 0 in
theorem said0 : Fast.tw9446332074065402090 PySem.Challenge.rw_nq0205_01 = true := by
  unfold Fast.tw9446332074065402090 Fast.tw17960256430627541270 Fast.tw2436336058641802641 Fast.tw12908688711261696721
  repeat' with_reducible refine look_both ?_ ?_
  all_goals first | with_reducible exact leaf0 | with_reducible exact leaf1 | with_reducible exact leaf2 | with_reducible exact leaf3 | with_reducible exact leaf4 | with_reducible exact leaf5 | with_reducible exact leaf6 | (as_aux_lemma => kernel_rfl)
theorem said : PySem.Challenge.rw_nq0205_01.wellSaid = true := by rw [Fast.te9446332074065402090]; exact said0
end Mine
end PartHq3
theorem Mine.flushHq4 : True := by
  w_top off
  trivial
section PartHq4
open PySem PySem.W PyProof.Rows PySem.Calls
namespace Mine
noncomputable def dOf : Stmt → DefRec
  | .FunctionDef n a b _ _ _ sc _ _ p => { name := n, params := a, body := b, scope := sc, pos := p }
  | _ => { name := "", params := ⟨[], [], none, [], [], none, []⟩, body := [], scope := default, pos := default }
noncomputable def dLaw : DefRec := dOf (stm 37)
set_option maxRecDepth 100000 in
set_option maxHeartbeats 0 in
theorem hd (walk : WalkO Q0 loose0 (XL Q0 []) (InK KF2) PySem.Challenge.rw_nq0205_01.row.toRowW dLaw [] fun f vs => PySem.call f vs) : PySem.Challenge.rw_nq0205_01.Holds := by
  refine holds_law said fun ok => ?_
  refine PySem.W.holds_open (q := Q0) (loose := loose0) (Xt := Xt0) (XP := XL Q0 []) (Yf := fun s => KA2.map s.heap.get?) (Ya := fun w : World => (KF2 w.params).map fun p : Addr × Obj => some p.2) (YP := InK KF2) (N := N0) (by exact left0) (fun w s e => InK.of kA_eq w s e) InK.keeps (fun s e => xl_of s (Bool.and_eq_true_iff.mp e).1) XL.keeps (by kernel_rfl) (by kernel_rfl) (by kernel_rfl) (fun s e => recFacts_of (Bool.and_eq_true_iff.mp e).2) (by rfl) ok (by kernel_rfl) ⟨rfl, rfl, rfl, rfl, rfl, by decide +kernel⟩ ?hw walk
  case hw => w_witness2
end Mine
end PartHq4
theorem Mine.flushC1 : True := by
  w_top off
  trivial
section PartC1
open PySem PySem.W PyProof.Rows PySem.Calls
set_option Elab.async false
namespace Mine
theorem kwC1x0 : True := by
  k_with_none
  k_with "size_fits" => first | (with_reducible assumption) | ((try simp only [PySem.Str.length_append, sizeLine_eq]); omega)
  trivial
theorem whl_ind {prog : Program} {w : World} {A : Around} {E : Value → Shared → Prop} {s : Shared} {nms : List (Str × NameKind)} {ig ic : Bool} {mo : List (Str × Const)} {loc glo bi : Addr} {cel : List (Str × Addr)} {qu : Str} {fn : Option Addr} {cod : Value} {test : PySem.Expr} {body orelse : List Stmt} {Q : Flow → Shared → Prop} (Inv : Nat → Shared → Prop)
    (turn : ∀ n s, Inv n s → (∀ n' s', n' < n → Inv n' s' → WhlRest prog w A E env test body orelse Q 0 s') → WhlRest prog w A E env test body orelse Q 1 s) {n : Nat} (h : Inv n s) : WhlRest prog w A E env test body orelse Q 0 s := by
  induction n using Nat.strongRecOn generalizing s with
  | ind n ih => exact turn n s h fun n' s' hn hi => ih n' hn hi
theorem kwC1x1 : True := by
  k_with "k_steps" => repeat' (first | (k_unfold; (try dsimp only)) | ((fail_if_success (with_reducible show WhlRest _ _ _ _ _ _ _ _ _ _ _)); (first | walk1 | (dsimp only; walk1))))
  k_with "k_room" => ((try simp only [Around.deeper, Around.mark, depth_under_make, depth_under_kw, depth_in1, depth_deeper, depth_caller, depth_mark]); omega)
  k_with "k_units" => ((try simp only [Around.deeper, Around.mark, units_in1, units_deeper, units_caller, Around.mark_units]); omega)
  trivial
set_option maxRecDepth 100000 in
set_option maxHeartbeats 4000000 in
theorem t_kind {p : Program} {loose : List Str} {mean : ExcName → Option Value} {mg mb : Str → Option Value} {w : World} {A₀ : Around} {dep un : Nat} {gs : Option (List Code)} {s : Shared} {base h₀ : Heap} {outer : List Env} {nms : List (Str × NameKind)} {ig ic : Bool} {mo : List (Str × Const)} {loc glo bi : Addr} {cel : List (Str × Addr)} {qu : Str} {fn : Option Addr} {cod : Value} {L : Addr} {m : Str → Option Value} {news : List (Addr × Obj)} {R : Result → Shared → Prop} {x n : Str} {t u : Tok}
    (B : Below A₀ base outer h₀) (F : Fr h₀ L s.heap m) (X : (KF w.params).In h₀) (N : News h₀ L s.heap news) (T : Top p loose mean mg mb h₀) (hroom : dep + 3 < recursionLimit) (hun : un + 9 < cLine)
    (h : ∀ h' tk t', Fr h₀ L h' m → News h₀ L h' news → R (.ok (.ret (.str (Str.ofString "") t'))) { s with heap := h', toks := tk }) :
    codeAny (model PySem.Challenge.rw_nq0205_01.prog w) ⟨none, dep, some ((⟨⟨.function, nms, ig, ic, mo⟩, loc, glo, cel, qu, fn, cod, some L, bi⟩ : Env) :: outer), gs, un⟩ (.call (.ref 51) ⟨[.str n u, .str x t], []⟩) R s := by
  revert X; k_fill; intro X
  refine' code_def B F X N T rfl rfl rfl ?k6 ?k7 ?k8 ?k9 ?kB ?_ ?c2 ?c3 ?c4 ?c5
  case k6 => k_is
  case k7 => k_is
  case k8 => (show dep < _); omega
  case k9 => exact BindsTo.of_eq rfl
  case c5 => decide
  case kB => exact locs rfl
  case c2 => exact rfl
  case c3 => exact rfl
  case c4 => exact rfl
  intro g' L' h' FG' F' N' B' X' T'
  (try dsimp only)
  (try k_fold)
  k_steps
  exact h _ _ _ (by assumption) (by assumption)
theorem kwC1x2 : True := by
  k_with "call ref" => (k_here; k_dflt (refine wpAny_call ?_; refine' t_kind ?k1z0b7 ?k2z0b7 ?k3z0b7 ?k4z0b7 ?k5z0b7 ?krz0b7 ?kuz0b7 ?_; (case k1z0b7 => k_asm); (case k2z0b7 => k_asm); (case k3z0b7 => k_asm); (case k4z0b7 => k_asm); (case k5z0b7 => k_asm); (case krz0b7 => k_room); (case kuz0b7 => k_units); k_whole); intro h'z0b7 tk'z0b7 t'z0b7 F'z0b7 N'z0b7; (try k_sweep); (try dsimp only))
  trivial
set_option maxRecDepth 100000 in
set_option maxHeartbeats 4000000 in
theorem t_fspath {p : Program} {loose : List Str} {mean : ExcName → Option Value} {mg mb : Str → Option Value} {w : World} {A₀ : Around} {dep un : Nat} {gs : Option (List Code)} {s : Shared} {base h₀ : Heap} {outer : List Env} {nms : List (Str × NameKind)} {ig ic : Bool} {mo : List (Str × Const)} {loc glo bi : Addr} {cel : List (Str × Addr)} {qu : Str} {fn : Option Addr} {cod : Value} {L : Addr} {m : Str → Option Value} {news : List (Addr × Obj)} {R : Result → Shared → Prop} {x n : Str} {t u : Tok}
    (B : Below A₀ base outer h₀) (F : Fr h₀ L s.heap m) (X : (KF w.params).In h₀) (N : News h₀ L s.heap news) (T : Top p loose mean mg mb h₀) (hroom : dep + 6 < recursionLimit) (hun : un + 18 < cLine)
    (h : ∀ h' tk, Fr h₀ L h' m → News h₀ L h' news → R (.ok (.ret (.str x t))) { s with heap := h', toks := tk }) :
    codeAny (model PySem.Challenge.rw_nq0205_01.prog w) ⟨none, dep, some ((⟨⟨.function, nms, ig, ic, mo⟩, loc, glo, cel, qu, fn, cod, some L, bi⟩ : Env) :: outer), gs, un⟩ (.call (.ref 58) ⟨[.str n u, .str x t], []⟩) R s := by
  revert X; k_fill; intro X
  refine' code_def B F X N T rfl rfl rfl ?k6 ?k7 ?k8 ?k9 ?kB ?_ ?c2 ?c3 ?c4 ?c5
  case k6 => k_is
  case k7 => k_is
  case k8 => (show dep < _); omega
  case k9 => exact BindsTo.of_eq rfl
  case c5 => decide
  case kB => exact locs rfl
  case c2 => exact rfl
  case c3 => exact rfl
  case c4 => exact rfl
  intro g' L' h' FG' F' N' B' X' T'
  (try dsimp only)
  (try k_fold)
  k_steps
  exact h _ _ (by assumption) (by assumption)
theorem kwC1x3 : True := by
  k_with "call ref" => (k_here; k_dflt (refine wpAny_call ?_; refine' t_fspath ?k1z5a4 ?k2z5a4 ?k3z5a4 ?k4z5a4 ?k5z5a4 ?krz5a4 ?kuz5a4 ?_; (case k1z5a4 => k_asm); (case k2z5a4 => k_asm); (case k3z5a4 => k_asm); (case k4z5a4 => k_asm); (case k5z5a4 => k_asm); (case krz5a4 => k_room); (case kuz5a4 => k_units); k_whole); intro h'z5a4 tk'z5a4 F'z5a4 N'z5a4; (try k_sweep); (try dsimp only))
  trivial
set_option maxRecDepth 100000 in
set_option maxHeartbeats 4000000 in
theorem t_basename {p : Program} {loose : List Str} {mean : ExcName → Option Value} {mg mb : Str → Option Value} {w : World} {A₀ : Around} {dep un : Nat} {gs : Option (List Code)} {s : Shared} {base h₀ : Heap} {outer : List Env} {nms : List (Str × NameKind)} {ig ic : Bool} {mo : List (Str × Const)} {loc glo bi : Addr} {cel : List (Str × Addr)} {qu : Str} {fn : Option Addr} {cod : Value} {L : Addr} {m : Str → Option Value} {news : List (Addr × Obj)} {R : Result → Shared → Prop} {x : Str} {t : Tok}
    (B : Below A₀ base outer h₀) (F : Fr h₀ L s.heap m) (X : (KF w.params).In h₀) (N : News h₀ L s.heap news) (T : Top p loose mean mg mb h₀) (hroom : dep + 9 < recursionLimit) (hun : un + 27 < cLine)
    (hx : x.length ≤ sizeLine) (h : ∀ h' tk t', Fr h₀ L h' m → News h₀ L h' news → R (.ok (.ret (.str (Txt.slice x (some (Txt.rfind x (Str.ofString "/") + 1)) none) t'))) { s with heap := h', toks := tk }) :
    codeAny (model PySem.Challenge.rw_nq0205_01.prog w) ⟨none, dep, some ((⟨⟨.function, nms, ig, ic, mo⟩, loc, glo, cel, qu, fn, cod, some L, bi⟩ : Env) :: outer), gs, un⟩ (.call (.ref 93) ⟨[.str x t], []⟩) R s := by
  revert X; k_fill; intro X
  refine' code_def B F X N T rfl rfl rfl ?k6 ?k7 ?k8 ?k9 ?kB ?_ ?c2 ?c3 ?c4 ?c5
  case k6 => k_is
  case k7 => k_is
  case k8 => (show dep < _); omega
  case k9 => exact BindsTo.of_eq rfl
  case c5 => decide
  case kB => exact locs rfl
  case c2 => exact rfl
  case c3 => exact rfl
  case c4 => exact rfl
  intro g' L' h' FG' F' N' B' X' T'
  (try dsimp only)
  (try k_fold)
  k_steps
  exact h _ _ _ (by assumption) (by assumption)
theorem kwC1x4 : True := by
  k_with "call ref" => (k_here; k_dflt (refine wpAny_call ?_; refine' t_basename ?k1za24 ?k2za24 ?k3za24 ?k4za24 ?k5za24 ?krza24 ?kuza24 ?kxza24 ?_; (case k1za24 => k_asm); (case k2za24 => k_asm); (case k3za24 => k_asm); (case k4za24 => k_asm); (case k5za24 => k_asm); (case krza24 => k_room); (case kuza24 => k_units); (case kxza24 => assumption); k_whole); intro h'za24 tk'za24 t'za24 F'za24 N'za24; (try k_sweep); (try dsimp only))
  trivial
noncomputable def rootHit (x : Str) : Prop := ∃ n : Int, 0 ≤ n ∧ Txt.rfind x (Str.ofString "/") + 1 + 1 * n < Txt.rfind x (Str.ofString ".") ∧ (Txt.slice x (some (Txt.rfind x (Str.ofString "/") + 1 + 1 * n)) (some (Txt.rfind x (Str.ofString "/") + 1 + 1 * n + 1)) != Str.ofString ".") = true
open Classical in
noncomputable def rootOf (x : Str) : Str := if rootHit x then Txt.slice x none (some (Txt.rfind x (Str.ofString "."))) else x
theorem root_yes {x : Str} {n : Int} (h1 : 0 ≤ n) (h2 : Txt.rfind x (Str.ofString "/") + 1 + 1 * n < Txt.rfind x (Str.ofString ".")) (h3 : (Txt.slice x (some (Txt.rfind x (Str.ofString "/") + 1 + 1 * n)) (some (Txt.rfind x (Str.ofString "/") + 1 + 1 * n + 1)) != Str.ofString ".") = true) :
    Txt.slice x none (some (Txt.rfind x (Str.ofString "."))) = rootOf x := (if_pos ⟨n, h1, h2, h3⟩).symm
theorem root_no {x : Str} {n : Int} {e : Int → Bool} (h1 : Passed (fun j => decide (Txt.rfind x (Str.ofString "/") + 1 + 1 * j < Txt.rfind x (Str.ofString "."))) e n) (he : ∀ j, e j = false → (Txt.slice x (some (Txt.rfind x (Str.ofString "/") + 1 + 1 * j)) (some (Txt.rfind x (Str.ofString "/") + 1 + 1 * j + 1)) != Str.ofString ".") = false)
    (h2 : Txt.rfind x (Str.ofString ".") ≤ Txt.rfind x (Str.ofString "/") + 1 + 1 * n) : x = rootOf x := by
  refine (if_neg ?_).symm
  rintro ⟨j, a, b, c⟩
  have := he j (h1 j a (by omega)).2
  rw [c] at this; cases this
theorem root_no' {x : Str} (h : Txt.rfind x (Str.ofString ".") ≤ Txt.rfind x (Str.ofString "/")) : x = rootOf x := by
  refine (if_neg ?_).symm
  rintro ⟨j, a, b, c⟩
  omega
theorem root_len {x y : Str} (h : y = rootOf x) : y.length ≤ x.length := by
  subst h
  unfold rootOf
  split
  · exact PyProof.Txt.length_slice_le _ _ _
  · exact Nat.le_refl _
set_option maxRecDepth 100000 in
set_option maxHeartbeats 4000000 in
theorem t_splitext {p : Program} {loose : List Str} {mean : ExcName → Option Value} {mg mb : Str → Option Value} {w : World} {A₀ : Around} {dep un : Nat} {gs : Option (List Code)} {s : Shared} {base h₀ : Heap} {outer : List Env} {nms : List (Str × NameKind)} {ig ic : Bool} {mo : List (Str × Const)} {loc glo bi : Addr} {cel : List (Str × Addr)} {qu : Str} {fn : Option Addr} {cod : Value} {L : Addr} {m : Str → Option Value} {news : List (Addr × Obj)} {R : Result → Shared → Prop} {x : Str} {t : Tok}
    (B : Below A₀ base outer h₀) (F : Fr h₀ L s.heap m) (X : (KF w.params).In h₀) (N : News h₀ L s.heap news) (T : Top p loose mean mg mb h₀) (hroom : dep + 9 < recursionLimit) (hun : un + 27 < cLine)
    (hx : x.length ≤ sizeLine) (h : ∀ h' tk D a b t1 t2, a = rootOf x → Fr h₀ L h' m → News h₀ L h' ((D, { cls := .type "tuple", data := .seq #[.str a t1, .str b t2] }) :: news) → (∀ p ∈ news, p.1 < D) → R (.ok (.ret (.ref D))) { s with heap := h', toks := tk }) :
    codeAny (model PySem.Challenge.rw_nq0205_01.prog w) ⟨none, dep, some ((⟨⟨.function, nms, ig, ic, mo⟩, loc, glo, cel, qu, fn, cod, some L, bi⟩ : Env) :: outer), gs, un⟩ (.call (.ref 86) ⟨[.str x t], []⟩) R s := by
  revert X; k_fill; intro X
  refine' code_def B F X N T rfl rfl rfl ?k6 ?k7 ?k8 ?k9 ?kB ?_ ?c2 ?c3 ?c4 ?c5
  case k6 => k_is
  case k7 => k_is
  case k8 => (show dep < _); omega
  case k9 => exact BindsTo.of_eq rfl
  case c5 => decide
  case kB => exact locs rfl
  case c2 => exact rfl
  case c3 => exact rfl
  case c4 => exact rfl
  intro g' L' h' FG' F' N' B' X' T'
  (try dsimp only)
  (try k_fold)
  k_steps
  all_goals first
    | exact h _ _ _ _ _ _ _ (root_yes (by assumption) (by assumption) (by assumption)) (by assumption) (by assumption) (by assumption)
    | exact h _ _ _ _ _ _ _ (root_no (by assumption) (by intro j hj; revert hj; cases hq : (Txt.slice x (some (Txt.rfind x (Str.ofString "/") + 1 + 1 * j)) (some (Txt.rfind x (Str.ofString "/") + 1 + 1 * j + 1)) != Str.ofString ".") <;> simp) (by assumption)) (by assumption) (by assumption) (by assumption)
    | exact h _ _ _ _ _ _ _ (root_no' (by omega)) (by assumption) (by assumption) (by assumption)
theorem kwC1x5 : True := by
  k_with "call ref" => (k_here; k_dflt (refine wpAny_call ?_; refine' t_splitext ?k1z5b5 ?k2z5b5 ?k3z5b5 ?k4z5b5 ?k5z5b5 ?krz5b5 ?kuz5b5 ?kxz5b5 ?_; (case k1z5b5 => k_asm); (case k2z5b5 => k_asm); (case k3z5b5 => k_asm); (case k4z5b5 => k_asm); (case k5z5b5 => k_asm); (case krz5b5 => k_room); (case kuz5b5 => k_units); (case kxz5b5 => assumption); k_whole); intro h'z5b5 tk'z5b5 D'z5b5 a'z5b5 b'z5b5 t1'z5b5 t2'z5b5 hr'z5b5 F'z5b5 N'z5b5 l1z5b5; (try k_lt l1z5b5); (try k_sweep); (try dsimp only))
  trivial
theorem News.less1 {h₀ h : Heap} {L : Addr} {q : Addr × Obj} {l : List (Addr × Obj)} (N : News h₀ L h (q :: l)) : News h₀ L h l := fun p hp => N p (.tail _ hp)
set_option maxRecDepth 100000 in
set_option maxHeartbeats 4000000 in
theorem t_modname {p : Program} {loose : List Str} {mean : ExcName → Option Value} {mg mb : Str → Option Value} {w : World} {A₀ : Around} {dep un : Nat} {gs : Option (List Code)} {s : Shared} {base h₀ : Heap} {outer : List Env} {nms : List (Str × NameKind)} {ig ic : Bool} {mo : List (Str × Const)} {loc glo bi : Addr} {cel : List (Str × Addr)} {qu : Str} {fn : Option Addr} {cod : Value} {L : Addr} {m : Str → Option Value} {news : List (Addr × Obj)} {R : Result → Shared → Prop} {x : Str} {t : Tok}
    (B : Below A₀ base outer h₀) (F : Fr h₀ L s.heap m) (X : (KF w.params).In h₀) (N : News h₀ L s.heap news) (T : Top p loose mean mg mb h₀) (hroom : dep + 12 < recursionLimit) (hun : un + 36 < cLine)
    (hx : x.length ≤ sizeLine) (h : ∀ h' tk t', Fr h₀ L h' m → News h₀ L h' news → R (.ok (.ret (.str (rootOf (Txt.slice x (some (Txt.rfind x (Str.ofString "/") + 1)) none)) t'))) { s with heap := h', toks := tk }) :
    codeAny (model PySem.Challenge.rw_nq0205_01.prog w) ⟨none, dep, some ((⟨⟨.function, nms, ig, ic, mo⟩, loc, glo, cel, qu, fn, cod, some L, bi⟩ : Env) :: outer), gs, un⟩ (.call (.ref 107) ⟨[.str x t], []⟩) R s := by
  revert X; k_fill; intro X
  refine' code_def B F X N T rfl rfl rfl ?k6 ?k7 ?k8 ?k9 ?kB ?_ ?c2 ?c3 ?c4 ?c5
  case k6 => k_is
  case k7 => k_is
  case k8 => (show dep < _); omega
  case k9 => exact BindsTo.of_eq rfl
  case c5 => decide
  case kB => exact locs rfl
  case c2 => exact rfl
  case c3 => exact rfl
  case c4 => exact rfl
  intro g' L' h' FG' F' N' B' X' T'
  (try dsimp only)
  (try k_fold)
  have hx2 : (Txt.slice x (some (Txt.rfind x (Str.ofString "/") + 1)) none).length ≤ sizeLine := Nat.le_trans (PyProof.Txt.length_slice_le _ _ _) hx
  k_steps
  rename _ = rootOf _ => hr
  rw [hr]
  exact h _ _ _ (by assumption) (News.less1 (by assumption))
theorem kwC1x6 : True := by
  k_with "call ref" => (k_here; k_dflt (refine wpAny_call ?_; refine' t_modname ?k1zd7c ?k2zd7c ?k3zd7c ?k4zd7c ?k5zd7c ?krzd7c ?kuzd7c ?kxzd7c ?_; (case k1zd7c => k_asm); (case k2zd7c => k_asm); (case k3zd7c => k_asm); (case k4zd7c => k_asm); (case k5zd7c => k_asm); (case krzd7c => k_room); (case kuzd7c => k_units); (case kxzd7c => assumption); k_whole); intro h'zd7c tk'zd7c t'zd7c F'zd7c N'zd7c; (try k_sweep); (try dsimp only))
  trivial
end Mine
end PartC1
theorem Mine.flushS1 : True := by
  w_top off
  trivial
section PartS1
open PySem PySem.W PyProof.Rows PySem.Calls
namespace Mine
/-! the pattern of the sign that wants quoting, over any text -/
noncomputable def reCode : Array Nat := #[14, 17, 4, 1, 1, 21, 9, 0, 604043296, 1, 0, 0, 0, 0, 0, 8, 4, 0, 13, 14, 21, 9, 0, 604043296, 1, 0, 0, 0, 0, 0, 8, 4, 0, 1]
noncomputable def safeC (c : Nat) : Bool := Sre.isWord c || c == 37 || c == 43 || c == 44 || c == 45 || c == 46 || c == 47 || c == 58 || c == 61 || c == 64
noncomputable def bitsC (c : Nat) : Bool := c < 256 && (reCode.getD (6 + (1 + c / 32)) 0).testBit (c % 32)
theorem bits_safe (c : Nat) : (bitsC c || Sre.isWord c) = safeC c := by
  by_cases h : c < 256
  · revert h
    revert c
    decide +kernel
  · have h1 : bitsC c = false := by unfold bitsC; rw [decide_eq_false h]; rfl
    rw [h1]
    unfold safeC Sre.isWord Sre.isDigit
    have : ∀ k, k < 256 → (c == k) = false := fun k hk => beq_eq_false_iff_ne.mpr (by omega)
    simp only [this 37 (by omega), this 43 (by omega), this 44 (by omega), this 45 (by omega), this 46 (by omega), this 47 (by omega), this 58 (by omega), this 61 (by omega), this 64 (by omega), Bool.or_false, Bool.false_or]
theorem inSet_gen (i : Nat) (hi : i = 5 ∨ i = 20) (c : Nat) (seen : Sre.Seen) : ∃ seen', Sre.inSet reCode c reCode.size i true seen = .ok (!safeC c, seen') := by
  rw [← bits_safe]
  rcases hi with rfl | rfl
  · have e1 : ∀ sn, Sre.inSet reCode c reCode.size 5 true sn = Sre.inSet reCode c 33 6 false (sn.add 21) := fun sn => by kernel_rfl
    have e2 : ∀ sn, Sre.inSet reCode c 33 6 false sn = if bitsC c then .ok (false, sn.add 9) else Sre.inSet reCode c 32 15 false (sn.add 9) := fun sn => by kernel_rfl
    have e3 : ∀ sn, Sre.inSet reCode c 32 15 false sn = if Sre.isWord c then .ok (false, (sn.add 8).add 59) else Sre.inSet reCode c 31 17 false ((sn.add 8).add 59) := fun sn => by
      show (do if ← Sre.category 4 c then pure (false, _) else Sre.inSet reCode c 31 17 false _) = _
      have : Sre.category 4 c = .ok (Sre.isWord c) := by
        show Except.ok (Sre.isWord c != false) = _
        cases Sre.isWord c <;> rfl
      rw [this]
      cases Sre.isWord c <;> rfl
    have e4 : ∀ sn, Sre.inSet reCode c 31 17 false sn = .ok (true, sn.add 0) := fun sn => by kernel_rfl
    rw [e1, e2]
    cases bitsC c with
    | true => exact ⟨_, rfl⟩
    | false =>
      simp only [Bool.false_eq_true, if_false, Bool.false_or]
      rw [e3]
      cases Sre.isWord c with
      | true => exact ⟨_, rfl⟩
      | false => simp only [Bool.false_eq_true, if_false]; rw [e4]; exact ⟨_, rfl⟩
  · have hb : bitsC c = (c < 256 && (reCode.getD (21 + (1 + c / 32)) 0).testBit (c % 32)) := by
      unfold bitsC
      by_cases h : c < 256
      · revert h; revert c; decide +kernel
      · rw [decide_eq_false h]; rfl
    have e1 : ∀ sn, Sre.inSet reCode c reCode.size 20 true sn = Sre.inSet reCode c 33 21 false (sn.add 21) := fun sn => by kernel_rfl
    have e2 : ∀ sn, Sre.inSet reCode c 33 21 false sn = if (c < 256 && (reCode.getD (21 + (1 + c / 32)) 0).testBit (c % 32)) then .ok (false, sn.add 9) else Sre.inSet reCode c 32 30 false (sn.add 9) := fun sn => by kernel_rfl
    have e3 : ∀ sn, Sre.inSet reCode c 32 30 false sn = if Sre.isWord c then .ok (false, (sn.add 8).add 59) else Sre.inSet reCode c 31 32 false ((sn.add 8).add 59) := fun sn => by
      show (do if ← Sre.category 4 c then pure (false, _) else Sre.inSet reCode c 31 32 false _) = _
      have : Sre.category 4 c = .ok (Sre.isWord c) := by
        show Except.ok (Sre.isWord c != false) = _
        cases Sre.isWord c <;> rfl
      rw [this]
      cases Sre.isWord c <;> rfl
    have e4 : ∀ sn, Sre.inSet reCode c 31 32 false sn = .ok (true, sn.add 0) := fun sn => by kernel_rfl
    rw [e1, e2, ← hb]
    cases bitsC c with
    | true => exact ⟨_, rfl⟩
    | false =>
      simp only [Bool.false_eq_true, if_false, Bool.false_or]
      rw [e3]
      cases Sre.isWord c with
      | true => exact ⟨_, rfl⟩
      | false => simp only [Bool.false_eq_true, if_false]; rw [e4]; exact ⟨_, rfl⟩

theorem admitted_spec (m : Sre.M) (hc : m.code = reCode) (hl : m.lim = m.text.size) : ∀ (fuel s : Nat) (seen : Sre.Seen), s + fuel = m.lim + 1 →
    (∃ seen', Sre.M.admitted m fuel s seen = .ok (none, seen') ∧ ∀ j, s ≤ j → j < m.lim → safeC (m.text.getD j 0) = true) ∨
    (∃ j seen', Sre.M.admitted m fuel s seen = .ok (some j, seen') ∧ s ≤ j ∧ j < m.lim ∧ safeC (m.text.getD j 0) = false)
  | 0, s, seen, h => .inl ⟨seen, rfl, fun j h1 h2 => by omega⟩
  | fuel + 1, s, seen, h => by
    unfold Sre.M.admitted
    by_cases hs : s ≥ m.lim
    · rw [if_pos hs]
      exact .inl ⟨seen, rfl, fun j h1 h2 => by omega⟩
    · rw [if_neg hs, hc]
      obtain ⟨seen', e⟩ := inSet_gen 5 (.inl rfl) (m.text.getD s 0) seen
      rw [e]
      cases hq : safeC (m.text.getD s 0) with
      | false => exact .inr ⟨s, seen', rfl, Nat.le_refl _, by omega, hq⟩
      | true =>
        rcases admitted_spec m hc hl fuel (s + 1) seen' (by omega) with ⟨sn, e1, e2⟩ | ⟨j, sn, e1, e2, e3, e4⟩
        · refine .inl ⟨sn, e1, fun j h1 h2 => ?_⟩
          by_cases hj : j = s
          · rw [hj]; exact hq
          · exact e2 j (by omega) h2
        · exact .inr ⟨j, sn, e1, by omega, e3, e4⟩
theorem exec_in (m : Sre.M) (hcode : m.code = reCode) (hpc : m.pc = 18) (hpos : m.pos < m.lim) {sn : Sre.Seen} (he : Sre.inSet reCode (m.text.getD m.pos 0) reCode.size 20 true (m.seen.add 13) = .ok (true, sn)) :
    m.exec = { m with seen := sn, pc := 33, pos := m.pos + 1 } := by
  obtain ⟨code, text, lim, start, lastStart, wholeText, mustAdvance, pc, pos, handed, outermost, marks, lastmark, lastindex, loops, inner, frames, weight, answer, seen, outcome⟩ := m
  dsimp only at hcode hpc hpos he
  subst hcode hpc
  show (if pos ≥ lim then _ else match Sre.inSet reCode (text.getD pos 0) reCode.size 20 true (seen.add 13) with
    | .error why => _
    | .ok (false, seen) => _
    | .ok (true, seen) => _) = _
  rw [if_neg (by omega), he]
  rfl
noncomputable def reStart (text : Array Nat) : Sre.M := { code := reCode, text := text, lim := text.size, start := 0, pc := 18, pos := 0, handed := 0, marks := #[], mustAdvance := false, seen := ({} : Sre.Seen).add 14, lastStart := text.size }
theorem forSearch_eq (text : Array Nat) (h : 1 ≤ text.size) : Sre.forSearch reCode text 0 0 text.size false = (reStart text).attemptFrom 0 true := by
  have h1 : (0 > text.size || text.size - 0 < 1) = false := Bool.or_eq_false_iff.mpr ⟨decide_eq_false (by omega), decide_eq_false (by omega)⟩
  show (if (0 > text.size || text.size - 0 < 1) = true then _ else _) = _
  rw [h1]
  rfl
theorem search_run (text : Array Nat) (h : 1 ≤ text.size) :
    ((∀ j, j < text.size → safeC (text.getD j 0) = true) ∧ ∃ m, (Sre.forSearch reCode text 0 0 text.size false).runFor 4 = m ∧ m.outcome = some .failed) ∨
    ((∃ j, j < text.size ∧ safeC (text.getD j 0) = false) ∧ ∃ m, (Sre.forSearch reCode text 0 0 text.size false).runFor 4 = m ∧ m.outcome = some .matched) := by
  rw [forSearch_eq text h]
  have e0 : (reStart text).attemptFrom 0 true = match Sre.M.admitted (reStart text) (text.size + 1 - 0) 0 (({} : Sre.Seen).add 14) with
    | .ok (some s, seen) => { reStart text with mustAdvance := false, seen }.attemptAt s true
    | .ok (none, seen) => { reStart text with seen }.say false
    | .error why => (reStart text).stick why := by rfl
  rcases admitted_spec (reStart text) rfl rfl (text.size + 1 - 0) 0 (({} : Sre.Seen).add 14) (by show _ = text.size + 1; omega) with ⟨sn, e1, e2⟩ | ⟨j, sn, e1, e2, e3, e4⟩
  · refine .inl ⟨fun j hj => e2 j (Nat.zero_le _) hj, _, rfl, ?_⟩
    rw [e0, e1]
    rfl
  · refine .inr ⟨⟨j, e3, e4⟩, _, rfl, ?_⟩
    rw [e0, e1]
    have e3' : j < text.size := e3
    have e4' : safeC (text.getD j 0) = false := e4
    obtain ⟨sn', e5⟩ := inSet_gen 20 (.inr rfl) (text.getD j 0) (sn.add 13)
    rw [e4'] at e5
    show ((Sre.M.mk reCode text text.size j text.size false false 18 j j true #[] (-1) (-1) #[] none [{ wait := .nextStart, pc := 18, pos := j, outermost := true }] (0 + 1 + 0) none sn none).runFor 4).outcome = _
    generalize hm : Sre.M.mk reCode text text.size j text.size false false 18 j j true #[] (-1) (-1) #[] none [{ wait := .nextStart, pc := 18, pos := j, outermost := true }] (0 + 1 + 0) none sn none = m
    have s1 : m.step = { m with seen := sn', pc := 33, pos := m.pos + 1 } := by
      subst hm
      exact exec_in (Sre.M.mk reCode text text.size j text.size false false 18 j j true #[] (-1) (-1) #[] none [{ wait := .nextStart, pc := 18, pos := j, outermost := true }] (0 + 1 + 0) none sn none) rfl rfl e3' e5
    have hf : m.outcome = none := by subst hm; rfl
    have r1 : m.runFor 4 = m.step.runFor 3 := by
      show (if m.outcome.isSome = true then m else m.step.runFor 3) = _
      rw [hf]; rfl
    rw [r1, s1]
    subst hm
    rfl
end Mine
end PartS1
theorem Mine.flushS2 : True := by
  w_top off
  trivial
section PartS2
open PySem PySem.W PyProof.Rows PySem.Calls
namespace Mine
noncomputable abbrev SET (w : World) : Setting := ⟨PySem.Challenge.rw_nq0205_01.prog, w.params⟩
theorem pk_check (w : World) (x : Str) (t : Tok) : peek (KF w.params) (SET w) (checkBoundCall "re.Pattern.search" ⟨[.ref 112, .str x t], []⟩) = some () := by kernel_rfl
theorem pk_target (w : World) (x : Str) (t : Tok) : peek (KF w.params) (SET w) (Builtin.Re.reTarget "re.Pattern.search" "search" ⟨[.ref 112, .str x t], []⟩) = some { pattern := .ref 112, string := .str x t, code := reCode, text := x.cps, kind := 0, groups := 0, pos := min (0 : Int).toNat x.cps.size, lim := min ((2 ^ 63 - 1 : Int)).toNat x.cps.size } := by kernel_rfl
theorem wpAny_rules {M : Model} {A : Around} {E : Value → Shared → Prop} {s : Shared} {Q : PUnit → Shared → Prop} (p : Nat → Bool) (n : Nat → String) (h : Q ⟨⟩ s) : ∀ l : List Nat, wpAny M A (forIn l PUnit.unit fun i _ => if p i = true then (do rule (n i); pure (ForInStep.yield PUnit.unit)) else pure (ForInStep.yield PUnit.unit)) Q E s
  | [] => wpAny_pure h
  | i :: l => by
    rw [List.forIn_cons]
    refine wpAny_bind ?_
    by_cases hp : p i = true
    · rw [if_pos hp]
      exact wpAny_bind (wpAny_rule (wpAny_pure (wpAny_rules p n h l)))
    · rw [if_neg hp]
      exact wpAny_pure (wpAny_rules p n h l)
theorem drive_eq (m m' : Sre.M) (h1 : m.runFor 4 = m') (h2 : m'.outcome.isSome = true) : Builtin.Re.reDrive (2 ^ 64) m = pure m' := by
  rw [show (2 ^ 64 : Nat) = (2 ^ 64 - 1) + 1 by decide]
  unfold Builtin.Re.reDrive
  show (if (m.runFor 4).outcome.isSome = true then pure (m.runFor 4) else _) = _
  rw [h1, if_pos h2]
theorem t_search {w : World} {A : Around} {s : Shared} {h₀ : Heap} {L : Addr} {mm : Str → Option Value} {news : List (Addr × Obj)} {R : Result → Shared → Prop} {x : Str} {t : Tok}
    (F : Fr h₀ L s.heap mm) (X : (KF w.params).In h₀) (N : News h₀ L s.heap news) (hx : 1 ≤ x.cps.size) (hx2 : x.length ≤ sizeLine)
    (h0 : (∀ j, j < x.cps.size → safeC (x.cps.getD j 0) = true) → R (.ok (.ret .none)) s)
    (h1 : (∃ j, j < x.cps.size ∧ safeC (x.cps.getD j 0) = false) → ∀ h' D, Fr h₀ L h' mm → News h₀ L h' news → R (.ok (.ret (.ref D))) { s with heap := h' }) :
    codeAny (model PySem.Challenge.rw_nq0205_01.prog w) A (.call (.ref 773) ⟨[.str x t], []⟩) R s := by
  have X' : (KF w.params).In s.heap := X.keeps F.keep
  have ho : s.heap.get? 773 = some _ := X' 773 _ (by kernel_rfl : (KF w.params).lookup 773 = some ⟨.type "builtin_function_or_method", none, .fields #[.builtin "re.Pattern.search", .ref 112], #[]⟩)
  refine codeAny_of_tree ?_
  show wpAny _ _ (callAny (.ref 773) _) _ _ _
  unfold callAny
  refine wpAny_bind (wpAny_load ho ?_)
  show wpAny _ _ (do checkBoundCall "re.Pattern.search" ⟨[.ref 112, .str x t], []⟩; return ← again (.builtin "re.Pattern.search" ⟨[.ref 112, .str x t], []⟩)) _ _ s
  refine wpAny_bind (Looks.here (Looks.of_peek X' (pk_check w x t)) ?_)
  refine wpAny_pure ⟨plainId_quiet (by decide +kernel) _, ?_⟩
  refine codeAny_builtin (b := Builtin.«re.Pattern.search») (entryFor_of_fast (by kernel_rfl)) ?_
  unfold Builtin.«re.Pattern.search»
  refine wpAny_bind (Looks.here (Looks.of_peek X' (pk_target w x t)) ?_)
  have e1 : min (0 : Int).toNat x.cps.size = 0 := by simp
  have e2 : min ((2 ^ 63 - 1 : Int)).toNat x.cps.size = x.cps.size := by
    have := hx2
    rw [sizeLine_eq] at this
    have h3 : x.cps.size ≤ 16777216 := this
    have h4 : ((2 ^ 63 - 1 : Int)).toNat = 9223372036854775807 := by decide
    omega
  dsimp only
  rw [e1, e2]
  unfold Builtin.Re.reAnswer Builtin.Re.reRunToEnd
  rcases search_run x.cps hx with ⟨hs, m, r1, r2⟩ | ⟨hs, m, r1, r2⟩
  · dsimp only
    rw [drive_eq _ m r1 (by rw [r2]; rfl)]
    refine wpAny_bind (wpAny_bind (wpAny_pure ?_))
    refine wpAny_bind (wpAny_rules _ _ ?_ _)
    rw [r2]
    exact wpAny_pure (wpAny_pure (h0 hs))
  · dsimp only
    rw [drive_eq _ m r1 (by rw [r2]; rfl)]
    refine wpAny_bind (wpAny_bind (wpAny_pure ?_))
    refine wpAny_bind (wpAny_rules _ _ ?_ _)
    rw [r2]
    refine wpAny_pure ?_
    unfold Builtin.Re.reNewMatch
    dsimp only [List.range_zero, List.flatMap_nil, List.any_nil]
    show wpAny _ _ (do
      let v ← (do
        if false = true then Builtin.Re.reWrongSpan
        let tp ← newTuple (rawInt m.start :: rawInt m.handed :: [])
        newFields "re.Match" [.str x t, .ref 112, rawInt (0 : Nat), rawInt (x.cps.size : Nat), rawInt m.lastindex, tp])
      ret v) _ _ s
    rw [if_neg Bool.false_ne_true]
    refine wpAny_bind (wpAny_bind ?_)
    refine newTuple_N F N (fun h' F' N' => ?_) (by size_fits)
    refine wpAny_newObj_type ?_ (by size_fits)
    refine wpAny_pure (h1 hs _ _ (F'.push _) fun p hp => ?_)
    exact (N'.push F' _) p (.tail _ (.tail _ hp))
end Mine
end PartS2
theorem Mine.flushP1 : True := by
  w_top off
  trivial
section PartP1
open PySem PySem.W PyProof.Rows PySem.Calls
namespace Mine
/-! plain texts -/
noncomputable def rep (c : Nat) (z : List Nat) (l : List Nat) : List Nat := l.flatMap fun d => if d = c then z else [d]
theorem rep_append (c : Nat) (z a b : List Nat) : rep c z (a ++ b) = rep c z a ++ rep c z b := List.flatMap_append ..
theorem rep_free (c : Nat) (z : List Nat) : ∀ l : List Nat, c ∉ l → rep c z l = l
  | [], _ => rfl
  | d :: l, h => by
    have h1 : d ≠ c := fun e => h (e ▸ List.mem_cons_self)
    show (if d = c then z else [d]) ++ rep c z l = d :: l
    rw [if_neg h1, rep_free c z l fun e => h (List.mem_cons_of_mem _ e)]
    rfl
theorem rep_join (c : Nat) (z : Str) : ∀ parts : List Str, (∀ p ∈ parts, c ∉ p.cps.toList) → rep c z.cps.toList (Str.join ⟨#[c]⟩ parts).cps.toList = (Str.join z parts).cps.toList
  | [], _ => rfl
  | [p], h => rep_free c _ _ (h p (by simp))
  | p :: q :: r, h => by
    show rep c z.cps.toList (p ++ ⟨#[c]⟩ ++ Str.join ⟨#[c]⟩ (q :: r)).cps.toList = (p ++ z ++ Str.join z (q :: r)).cps.toList
    rw [Str.cps_append, Str.cps_append, Str.cps_append, Str.cps_append, Array.toList_append, Array.toList_append, Array.toList_append, Array.toList_append, rep_append, rep_append, rep_free c _ _ (h p (by simp)), rep_join c z (q :: r) fun x hx => h x (by simp [hx])]
    simp [rep]
theorem replace_rep (x z : Str) (c : Nat) : (Txt.replace x ⟨#[c]⟩ z).cps.toList = rep c z.cps.toList x.cps.toList := by
  have h := rep_join c z (Txt.split x ⟨#[c]⟩) (StrLaws.split_free x c)
  rw [StrLaws.join_split] at h
  rw [StrLaws.replace_one, h]
noncomputable def quoteL (l : List Nat) : List Nat := if l = [] then [39, 39] else if l.all safeC then l else 39 :: rep 39 [39, 34, 39, 34, 39] l ++ [39]
noncomputable def quoteS (x : Str) : Str := ⟨(quoteL x.cps.toList).toArray⟩
theorem rep_len (z : List Nat) (hz : z.length ≤ 5) (c : Nat) : ∀ l : List Nat, (rep c z l).length ≤ 5 * l.length
  | [] => Nat.le_refl _
  | d :: l => by
    show ((if d = c then z else [d]) ++ rep c z l).length ≤ 5 * (l.length + 1)
    have := rep_len z hz c l
    rw [List.length_append]
    split
    · omega
    · simp only [List.length_cons, List.length_nil]; omega
theorem qlit : (Str.ofString "'") = ⟨#[39]⟩ := by decide +kernel
theorem qlit5 : (Str.ofString "'\"'\"'") = ⟨#[39, 34, 39, 34, 39]⟩ := by decide +kernel
theorem qlen1 : (Str.ofString "'").length = 1 := by rw [qlit]; rfl
theorem qrep_len (x : Str) : (Txt.replace x (Str.ofString "'") (Str.ofString "'\"'\"'")).length ≤ 5 * x.length := by
  rw [qlit, qlit5]
  have := rep_len [39, 34, 39, 34, 39] (by decide) 39 x.cps.toList
  show (Txt.replace x _ _).cps.size ≤ 5 * x.cps.size
  rw [← Array.length_toList, ← Array.length_toList, replace_rep]
  exact this
theorem all_safe {x : Str} (h : ∀ j, j < x.cps.size → safeC (x.cps.getD j 0) = true) : x.cps.toList.all safeC = true := by
  rw [List.all_eq_true]
  intro c hc
  obtain ⟨j, hj, rfl⟩ := List.getElem_of_mem hc
  have hj' : j < x.cps.size := by simpa using hj
  have := h j hj'
  rw [Array.getD_eq_getD_getElem?, Array.getElem?_eq_getElem hj'] at this
  simpa using this
theorem not_safe {x : Str} (h : ∃ j, j < x.cps.size ∧ safeC (x.cps.getD j 0) = false) : x.cps.toList.all safeC = false := by
  obtain ⟨j, hj, e⟩ := h
  rw [Array.getD_eq_getD_getElem?, Array.getElem?_eq_getElem hj] at e
  cases q : x.cps.toList.all safeC with
  | false => rfl
  | true =>
    have := List.all_eq_true.mp q x.cps[j] (by simp)
    simp only [Option.getD_some] at e
    rw [e] at this; cases this
theorem mk_toList (x : Str) : (⟨x.cps.toList.toArray⟩ : Str) = x := by cases x; simp
theorem ne_of_len {x : Str} (h : ((x.length : Nat) : Int) ≠ 0) : x.cps.toList ≠ [] := by
  intro e
  apply h
  have : x.cps.size = 0 := by rw [← Array.length_toList, e]; rfl
  show ((x.cps.size : Nat) : Int) = 0
  omega
theorem quote_safe {x : Str} (h0 : ((x.length : Nat) : Int) ≠ 0) (h : ∀ j, j < x.cps.size → safeC (x.cps.getD j 0) = true) : x = quoteS x := by
  unfold quoteS quoteL
  rw [if_neg (ne_of_len h0), if_pos (all_safe h), mk_toList]
theorem quote_marked {x : Str} (h0 : ((x.length : Nat) : Int) ≠ 0) (h : ∃ j, j < x.cps.size ∧ safeC (x.cps.getD j 0) = false) : Str.ofString "'" ++ Txt.replace x (Str.ofString "'") (Str.ofString "'\"'\"'") ++ Str.ofString "'" = quoteS x := by
  unfold quoteS quoteL
  rw [if_neg (ne_of_len h0), if_neg (by rw [not_safe h]; exact Bool.false_ne_true)]
  apply Str.ext'
  rw [Str.cps_append, Str.cps_append]
  apply Array.toList_inj.mp
  rw [Array.toList_append, Array.toList_append, qlit, qlit5, replace_rep]
  simp
theorem quote_none {x : Str} (h0 : ((x.length : Nat) : Int) = 0) : Str.ofString "''" = quoteS x := by
  have : x.cps.toList = [] := by
    apply List.eq_nil_of_length_eq_zero
    rw [Array.length_toList]
    have : ((x.cps.size : Nat) : Int) = 0 := h0
    omega
  unfold quoteS quoteL
  rw [if_pos this]
  decide +kernel
end Mine
end PartP1
theorem Mine.flushC2 : True := by
  w_top off
  trivial
section PartC2
open PySem PySem.W PyProof.Rows PySem.Calls
set_option Elab.async false
namespace Mine
theorem kwC2x0 : True := by
  k_with_none
  k_with "size_fits" => first | (with_reducible assumption) | ((try simp only [PySem.Str.length_append, sizeLine_eq]); omega)
  k_with "k_steps" => repeat' (first | (k_unfold; (try dsimp only)) | ((fail_if_success (with_reducible show WhlRest _ _ _ _ _ _ _ _ _ _ _)); (first | walk1 | (dsimp only; walk1))))
  k_with "k_room" => ((try simp only [Around.deeper, Around.mark, depth_under_make, depth_under_kw, depth_in1, depth_deeper, depth_caller, depth_mark]); omega)
  k_with "k_units" => ((try simp only [Around.deeper, Around.mark, units_in1, units_deeper, units_caller, Around.mark_units]); omega)
  k_with "call ref" => (k_here; (k_dflt (refine wpAny_call ?_; refine' t_search ?k1zec4 ?k2zec4 ?k3zec4 ?k4zec4 ?k5zec4 ?_ ?_; (case k1zec4 => k_asm); (case k2zec4 => k_asm); (case k3zec4 => k_asm); (case k4zec4 => first | assumption | (simp only [PySem.Str.length] at *; omega)); (case k5zec4 => assumption))) <;> ((first | (intro hs'zec4 h'zec4 D'zec4 F'zec4 N'zec4; (try k_sweep)) | (intro hs'zec4)); (try dsimp only)))
  trivial
theorem pk_keeper (w : World) : peek (KF w.params) (SET w) (keeperOf (.ref 773)) = some .machine := by kernel_rfl
theorem callWith_search {w : World} {A : Around} {E : Value → Shared → Prop} {s : Shared} {env : Env} {pos : Pos} {first : List Value} {Q : Value → Shared → Prop} {e : Expr} {rest : List Expr} (h : wpAny (model PySem.Challenge.rw_nq0205_01.prog w) A (spliced (backTo pos (starEach (e :: rest) env))) (fun vs s₁ => (KF w.params).In s₁.heap ∧ wpAny (model PySem.Challenge.rw_nq0205_01.prog w) A (call (.ref 773) (first ++ vs)) Q E s₁) E s)
    (he : starEach (e :: rest) env = (false, eval e env) :: starEach rest env := by rfl) (hplain : (backTo pos (starEach rest env)).any (·.1) = false := by rfl) :
    wpAny (model PySem.Challenge.rw_nq0205_01.prog w) A (callWith pos (.ref 773) first (backTo pos (starEach (e :: rest) env)) []) Q E s := by
  rw [he] at h ⊢
  exact callWith_of (P := (KF w.params).In) (by show ((false || (backTo pos (starEach rest env)).any (·.1)) || false) = false; rw [hplain]; rfl) (fun h X => ⟨.machine, .inr (.inl rfl), Looks.of_peek X (pk_keeper w)⟩) (evalArgs_plain h)
theorem kwC2x1 : True := by
  k_with "callWith ref" => (k_here; k_dflt (refine callWith_search ?_))
  trivial
set_option maxRecDepth 100000 in
set_option maxHeartbeats 4000000 in
theorem t_quote {p : Program} {loose : List Str} {mean : ExcName → Option Value} {mg mb : Str → Option Value} {w : World} {A₀ : Around} {dep un : Nat} {gs : Option (List Code)} {s : Shared} {base h₀ : Heap} {outer : List Env} {nms : List (Str × NameKind)} {ig ic : Bool} {mo : List (Str × Const)} {loc glo bi : Addr} {cel : List (Str × Addr)} {qu : Str} {fn : Option Addr} {cod : Value} {L : Addr} {m : Str → Option Value} {news : List (Addr × Obj)} {R : Result → Shared → Prop} {x : Str} {t : Tok}
    (B : Below A₀ base outer h₀) (F : Fr h₀ L s.heap m) (X : (KF w.params).In h₀) (N : News h₀ L s.heap news) (T : Top p loose mean mg mb h₀) (hroom : dep + 9 < recursionLimit) (hun : un + 27 < cLine)
    (hx : x.length ≤ 1000) (h : ∀ h' tk t' v, v = quoteS x → Fr h₀ L h' m → News h₀ L h' news → R (.ok (.ret (.str v t'))) { s with heap := h', toks := tk }) :
    codeAny (model PySem.Challenge.rw_nq0205_01.prog w) ⟨none, dep, some ((⟨⟨.function, nms, ig, ic, mo⟩, loc, glo, cel, qu, fn, cod, some L, bi⟩ : Env) :: outer), gs, un⟩ (.call (.ref 780) ⟨[.str x t], []⟩) R s := by
  revert X; k_fill; intro X
  refine' code_def B F X N T rfl rfl rfl ?k6 ?k7 ?k8 ?k9 ?kB ?_ ?c2 ?c3 ?c4 ?c5
  case k6 => k_is
  case k7 => k_is
  case k8 => (show dep < _); omega
  case k9 => exact BindsTo.of_eq rfl
  case c5 => decide
  case kB => exact locs rfl
  case c2 => exact rfl
  case c3 => exact rfl
  case c4 => exact rfl
  intro g' L' h' FG' F' N' B' X' T'
  (try dsimp only)
  (try k_fold)
  have hx2 : x.length ≤ sizeLine := by rw [sizeLine_eq]; omega
  have hq1 := qlen1
  have hq5 := qrep_len x
  k_steps
  all_goals first
    | exact h _ _ _ _ (quote_safe (by assumption) (by assumption)) (by assumption) (by assumption)
    | exact h _ _ _ _ (quote_marked (by assumption) (by assumption)) (by assumption) (by assumption)
    | exact h _ _ _ _ (quote_none (by assumption)) (by assumption) (by assumption)
end Mine
end PartC2
theorem Mine.flushC3 : True := by
  w_top off
  trivial
section PartC3
open PySem PySem.W PyProof.Rows PySem.Calls
set_option Elab.async false
namespace Mine
theorem kwC3x0 : True := by
  k_with_none
  k_with "size_fits" => first | (with_reducible assumption) | ((try simp only [PySem.Str.length_append, sizeLine_eq]); omega)
  k_with "k_steps" => repeat' (first | (k_unfold; (try dsimp only)) | ((fail_if_success (with_reducible show WhlRest _ _ _ _ _ _ _ _ _ _ _)); (first | walk1 | (dsimp only; walk1))))
  k_with "k_room" => ((try simp only [Around.deeper, Around.mark, depth_under_make, depth_under_kw, depth_in1, depth_deeper, depth_caller, depth_mark]); omega)
  k_with "k_units" => ((try simp only [Around.deeper, Around.mark, units_in1, units_deeper, units_caller, Around.mark_units]); omega)
  trivial
theorem News.pure {h₀ h g h' : Heap} {L L' : Addr} {news : List (Addr × Obj)} {m' : Str → Option Value} (N : News h₀ L h news) (G : GSub h g []) (F : Fr g L' h' m') : News h₀ L h' news :=
  fun p hp => ⟨F.keep _ _ (G _ _ (N p hp).1 (by intro q; cases q)), (N p hp).2⟩
theorem pk_onew_check (w : World) : peek (KF w.params) (SET w) (checkBuiltinCall "object.__new__" ⟨[.ref 660], []⟩) = some () := by kernel_rfl
theorem pk_onew (w : World) : peekA (KF w.params) (SET w) (Builtin.«object.__new__» ⟨[.ref 660], []⟩) = some (emptyDict, fun a => (do ret (← newObj (.ref 660) .plain (some a)))) := by kernel_rfl
theorem pk_hasDel (w : World) : peek (KF w.params) (SET w) (classHasDel 660) = some false := by kernel_rfl
theorem onew_sio {w : World} {A : Around} {E : Value → Shared → Prop} {s : Shared} {h₀ : Heap} {L : Addr} {m : Str → Option Value} {news : List (Addr × Obj)} {Q : Value → Shared → Prop} (F : Fr h₀ L s.heap m) (X : (KF w.params).In h₀) (N : News h₀ L s.heap news)
    (h : ∀ x dx h', Fr h₀ L h' m → News h₀ L h' ((x, instObj 660 dx) :: (dx, dictOf [] 0) :: news) → (∀ p ∈ news, p.1 < dx) → dx < x → Q (.ref x) { s with heap := h' }) :
    wpAny (model PySem.Challenge.rw_nq0205_01.prog w) A (call (.builtin "object.__new__") [.ref 660]) Q E s := by
  have X' : (KF w.params).In s.heap := X.keeps F.keep
  refine wpAny_call (codeAny_call_builtin (b := Builtin.«object.__new__») (by decide +kernel) (entryFor_of_fast (by kernel_rfl)) ?_)
  refine Looks.here (Looks.of_peek X' (pk_onew_check w)) ?_
  refine wp_of_peekA F N X' rfl _ _ (pk_onew w) fun h' F' N' l1 => ?_
  refine wpAny_bind ?_
  show wpAny _ _ (newObjAsIs _ _ _) _ _ _
  unfold newObjAsIs
  refine wpAny_bind (wpAny_alloc (wpAny_bind (Looks.here (Looks.of_peek ((X.keeps F'.keep).keeps fun b o e => Heap.get?_push_of_some _ e) (pk_hasDel w)) ?_)))
  refine wpAny_pure (wpAny_pure ?_)
  refine h _ _ _ (F'.push _) (N'.push F' _) l1 ?_
  exact Heap.lt_size (N' _ (.head _)).1
theorem kwC3x1 : True := by
  k_with "call builtin:object.__new__" => (k_here; k_dflt (refine' onew_sio ?k1zb66 ?k2zb66 ?k3zb66 ?_; (case k1zb66 => k_asm); (case k2zb66 => k_asm); (case k3zb66 => k_asm)); intro x'zb66 d'zb66 h'zb66 F'zb66 N'zb66 l1zb66 l2zb66; (try k_lt l1zb66); (try k_lt2 l2zb66); (try k_sweep); (try dsimp only))
  trivial
theorem News.mid2 {h₀ h : Heap} {L : Addr} {a b c d : Addr × Obj} {l : List (Addr × Obj)} (N : News h₀ L h (a :: b :: c :: d :: l)) : News h₀ L h (a :: b :: l) := fun p hp => by
  rcases List.mem_cons.mp hp with rfl | hp
  · exact N _ (.head _)
  · rcases List.mem_cons.mp hp with rfl | hp
    · exact N _ (.tail _ (.head _))
    · exact N _ (.tail _ (.tail _ (.tail _ (.tail _ hp))))
theorem allLt_mem {d : Nat} : ∀ {l : List (Addr × Obj)}, AllLt d l → ∀ p ∈ l, p.1 < d
  | [], _, p, h => nomatch h
  | _ :: _, x, p, h => by
    rcases List.mem_cons.mp h with rfl | h
    · exact x.1
    · exact allLt_mem x.2 p h
theorem kwC3x2 : True := by
  k_with "k_all" => (first | (with_reducible assumption) | exact (fun p hp => Nat.ne_of_lt (by first | (with_reducible assumption) | exact (‹∀ p ∈ _, p.1 < _› p hp))))
  trivial
set_option maxRecDepth 100000 in
set_option maxHeartbeats 4000000 in
theorem t_new {p : Program} {loose : List Str} {mean : ExcName → Option Value} {mg mb : Str → Option Value} {w : World} {A₀ : Around} {dep un : Nat} {gs : Option (List Code)} {s : Shared} {base h₀ : Heap} {outer : List Env} {nms : List (Str × NameKind)} {ig ic : Bool} {mo : List (Str × Const)} {loc glo bi : Addr} {cel : List (Str × Addr)} {qu : Str} {fn : Option Addr} {cod : Value} {L : Addr} {m : Str → Option Value} {news : List (Addr × Obj)} {R : Result → Shared → Prop} {x : Str} {t : Tok}
    (B : Below A₀ base outer h₀) (F : Fr h₀ L s.heap m) (X : (KF w.params).In h₀) (N : News h₀ L s.heap news) (T : Top p loose mean mg mb h₀) (hroom : dep + 5 < recursionLimit) (hun : un + 15 < cLine)
    (h : ∀ h' tk D dx, Fr h₀ L h' m → News h₀ L h' ((D, instObj 660 dx) :: (dx, dictOf [] 0) :: news) → (∀ p ∈ news, p.1 < dx) → dx < D → R (.ok (.ret (.ref D))) { s with heap := h', toks := tk }) :
    codeAny (model PySem.Challenge.rw_nq0205_01.prog w) ⟨none, dep, some ((⟨⟨.function, nms, ig, ic, mo⟩, loc, glo, cel, qu, fn, cod, some L, bi⟩ : Env) :: outer), gs, un⟩ (.call (.ref 153) ⟨[.ref 660, .str x t], []⟩) R s := by
  revert X; k_fill; intro X
  k_enter
  k_steps
  rename _ ∧ _ ∧ AllLt _ _ => hl
  exact h _ _ _ _ (by assumption) (News.mid2 (by assumption)) (allLt_mem hl.2.2) (by assumption)
noncomputable abbrev sioE (P : Params) (k1 k2 k3 nl : Tok) (x : Str) (t : Tok) (pos : Int) (tp : Tok) : List DictEntry :=
  [⟨PyData.keyHash P (Str.ofString "_StringIO__newline"), .str (Str.ofString "_StringIO__newline") k1, .str (Str.ofString "\n") nl⟩,
   ⟨PyData.keyHash P (Str.ofString "_StringIO__buf"), .str (Str.ofString "_StringIO__buf") k2, .str x t⟩,
   ⟨PyData.keyHash P (Str.ofString "_StringIO__pos"), .str (Str.ofString "_StringIO__pos") k3, .int pos tp⟩]
set_option maxRecDepth 100000 in
set_option maxHeartbeats 4000000 in
theorem t_init {p : Program} {loose : List Str} {mean : ExcName → Option Value} {mg mb : Str → Option Value} {w : World} {A₀ : Around} {dep un : Nat} {gs : Option (List Code)} {s : Shared} {base h₀ : Heap} {outer : List Env} {nms : List (Str × NameKind)} {ig ic : Bool} {mo : List (Str × Const)} {loc glo bi : Addr} {cel : List (Str × Addr)} {qu : Str} {fn : Option Addr} {cod : Value} {L : Addr} {m : Str → Option Value} {news : List (Addr × Obj)} {R : Result → Shared → Prop} {x : Str} {t : Tok} {D dx : Addr}
    (B : Below A₀ base outer h₀) (F : Fr h₀ L s.heap m) (X : (KF w.params).In h₀) (N : News h₀ L s.heap ((D, instObj 660 dx) :: (dx, dictOf [] 0) :: news)) (T : Top p loose mean mg mb h₀) (hroom : dep + 10 < recursionLimit) (hun : un + 30 < cLine)
    (hx : x.length ≤ sizeLine) (hd : dx < D) (hl : ∀ p ∈ news, p.1 < dx) (h : ∀ h' tk k1 k2 k3 nl tp, Fr h₀ L h' m → News h₀ L h' ((D, instObj 660 dx) :: (dx, dictOf (sioE w.params k1 k2 k3 nl x t 0 tp) 3) :: news) → R (.ok (.ret .none)) { s with heap := h', toks := tk }) :
    codeAny (model PySem.Challenge.rw_nq0205_01.prog w) ⟨none, dep, some ((⟨⟨.function, nms, ig, ic, mo⟩, loc, glo, cel, qu, fn, cod, some L, bi⟩ : Env) :: outer), gs, un⟩ (.call (.ref 430) ⟨[.ref D, .str x t], []⟩) R s := by
  revert X; k_fill; intro X
  refine' code_def B F X N T rfl rfl rfl ?k6 ?k7 ?k8 ?k9 ?kB ?_ ?c2 ?c3 ?c4 ?c5
  case k6 => k_is
  case k7 => k_is
  case k8 => (show dep < _); omega
  case k9 => exact binds_K (X.keeps F.keep) rfl (by k_is) rfl rfl rfl
  case c5 => decide
  case kB => exact locs rfl
  case c2 => exact rfl
  case c3 => exact rfl
  case c4 => exact rfl
  intro g' L' h' FG' F' N' B' X' T'
  (try dsimp only)
  (try k_fold)
  have hne : @Ne Nat D dx := by intro e; exact Nat.lt_irrefl dx (by rw [e] at hd; exact hd)
  k_steps
  exact h _ _ _ _ _ _ _ (by assumption) (by assumption)
/-- the tree behind its first readings of what is written -/
noncomputable def strip {α : Type} (K : Frag) (S : Setting) : Sem α → Sem α
  | .rule _ k => strip K S (k ())
  | .point _ k => strip K S (k ())
  | .at _ k => strip K S (k ())
  | .ask k => strip K S (k S)
  | .load a p k => (match K.lookup a with
      | some o => strip K S (k o)
      | none => .load a p k)
  | t => t
theorem wp_strip {α : Type} {K : Frag} {M : Model} {A : Around} {E : Value → Shared → Prop} {Q : α → Shared → Prop} {s : Shared} (X : K.In s.heap) : ∀ t : Sem α, wpAny M A (strip K ⟨M.prog, M.w.params⟩ t) Q E s → wpAny M A t Q E s := by
  intro t
  induction t with
  | rule _ k ih => intro q Γ p hΓ; exact ih () q Γ p hΓ
  | point _ k ih => intro q Γ p hΓ; exact ih () q Γ p hΓ
  | «at» p' k ih => intro q Γ p hΓ; exact ih () q Γ p' hΓ
  | ask k ih => intro q Γ p hΓ; exact ih _ q Γ p hΓ
  | load a p' k ih =>
    intro q Γ p hΓ
    simp only [strip] at q
    split at q
    · rename_i o ho; exact ⟨o, X _ _ ho, ih o q Γ p hΓ⟩
    · exact q Γ p hΓ
  | _ => intro q; exact q
theorem pk_sio_call (w : World) (x : Str) (t : Tok) : peek (KF w.params) (SET w) (callAny (.ref 660) ⟨[.str x t], []⟩) = some (.again (.call (.builtin "type.__call__") ⟨[.ref 660, .str x t], []⟩)) := by kernel_rfl
theorem pk_sio_check (w : World) (x : Str) (t : Tok) : peek (KF w.params) (SET w) (checkBuiltinCall "type.__call__" ⟨[.ref 660, .str x t], []⟩) = some () := by kernel_rfl
theorem pk_sio_mro (w : World) : peek (KF w.params) (SET w) (mroOf (.ref 660)) = some [.ref 660, .ref 183, .ref 156, .type "object"] := by kernel_rfl
theorem pk_sio_made (w : World) : peek (KF w.params) (SET w) (Bind.madeBy (.ref 660)) = some none := by kernel_rfl
theorem pk_sio_sub (w : World) : peek (KF w.params) (SET w) (isSubtype (.ref 660) (.ref 660)) = some true := by kernel_rfl
theorem pk_sio_init (w : World) : peek (KF w.params) (SET w) (typeLookup (.ref 660) "__init__") = some (some (.ref 430)) := by kernel_rfl
theorem pk_sio_bind (w : World) (v : Value) : peek (KF w.params) (SET w) (bindSpecial (.ref 430) v) = some (.ref 430, [v]) := by kernel_rfl
set_option maxRecDepth 100000 in
set_option maxHeartbeats 4000000 in
theorem t_sio {p : Program} {loose : List Str} {mean : ExcName → Option Value} {mg mb : Str → Option Value} {w : World} {A₀ : Around} {dep un : Nat} {gs : Option (List Code)} {s : Shared} {base h₀ : Heap} {outer : List Env} {nms : List (Str × NameKind)} {ig ic : Bool} {mo : List (Str × Const)} {loc glo bi : Addr} {cel : List (Str × Addr)} {qu : Str} {fn : Option Addr} {cod : Value} {L : Addr} {m : Str → Option Value} {news : List (Addr × Obj)} {R : Result → Shared → Prop} {x : Str} {t : Tok}
    (B : Below A₀ base outer h₀) (F : Fr h₀ L s.heap m) (X : (KF w.params).In h₀) (N : News h₀ L s.heap news) (T : Top p loose mean mg mb h₀) (hroom : dep + 15 < recursionLimit) (hun : un + 45 < cLine) (hx : x.length ≤ sizeLine)
    (h : ∀ h' tk D dx k1 k2 k3 nl tp, Fr h₀ L h' m → News h₀ L h' ((D, instObj 660 dx) :: (dx, dictOf (sioE w.params k1 k2 k3 nl x t 0 tp) 3) :: news) → (∀ p ∈ news, p.1 < dx) → dx < D → R (.ok (.ret (.ref D))) { s with heap := h', toks := tk }) :
    codeAny (model PySem.Challenge.rw_nq0205_01.prog w) ⟨none, dep, some ((⟨⟨.function, nms, ig, ic, mo⟩, loc, glo, cel, qu, fn, cod, some L, bi⟩ : Env) :: outer), gs, un⟩ (.call (.ref 660) ⟨[.str x t], []⟩) R s := by
  obtain ⟨hh, gg, dd, tt, oo⟩ := s
  dsimp only at F N h ⊢
  have X' : (KF w.params).In hh := X.keeps F.keep
  refine codeAny_of_tree ?_
  show wpAny _ _ (callAny (.ref 660) _) _ _ _
  refine Looks.here (Looks.of_peek X' (pk_sio_call w x t)) (And.intro rfl ?_)
  refine codeAny_call_builtin_at (Code.quiet_builtin _ (by decide +kernel)) entry_typeCall ?_
  refine Looks.here (Looks.of_peek X' (pk_sio_check w x t)) ?_
  have hm := Looks.of_peek (M := model PySem.Challenge.rw_nq0205_01.prog w) X' (pk_sio_mro w)
  have made := Looks.of_peek (M := model PySem.Challenge.rw_nq0205_01.prog w) X' (pk_sio_made w)
  unfold Builtin.«type.__call__»
  repeat (first | simp only [List.isEmpty_cons, Bool.false_eq_true, if_false] | ((fail_if_success (with_reducible show wpAny _ _ (getAttr _ _ _) _ _ _)); lk))
  revert X; k_fill; intro X
  refine cls_sm F X (by k_is) (by k_is) (by k_is) (by k_is) (by k_handed) ?_
  refine wpAny_bind (wpAny_holding (wpAny_call ?_))
  have hcu : (Code.builtin "type.__call__" ⟨[.ref 660, .str x t], []⟩).cUnits = 1 := by kernel_rfl
  refine t_new B F X N T (by show dep + 1 + 5 < _; omega) (by show un + _ + 15 < _; rw [hcu]; omega) ?_
  intro h' tk D dx F' N' l1 l2
  dsimp only
  have X1 : (KF w.params).In h' := X.keeps F'.keep
  have t1 : Looks (model PySem.Challenge.rw_nq0205_01.prog w) h' (typeOf (.ref D)) (.ref 660) := (Looks.ld (N' _ (.head _)).1).andThen .now
  have s1 := Looks.of_peek (M := model PySem.Challenge.rw_nq0205_01.prog w) X1 (pk_sio_sub w)
  have i1 := Looks.of_peek (M := model PySem.Challenge.rw_nq0205_01.prog w) X1 (pk_sio_init w)
  have b1 := Looks.of_peek (M := model PySem.Challenge.rw_nq0205_01.prog w) X1 (pk_sio_bind w (.ref D))
  unfold isInstance callSpecial? specialOf
  repeat (first | with_reducible refine wpAny_call ?_ | lk)
  refine t_init B F' X N' T (by show dep + 1 + 10 < _; omega) (by show un + _ + 30 < _; rw [hcu]; omega) hx l2 l1 ?_
  intro h'' tk' k1 k2 k3 nl tp F'' N''
  exact wpAny_pure (wpAny_pure (h _ _ _ _ _ _ _ _ _ F'' N'' l1 l2))
end Mine
end PartC3
theorem Mine.flushDQ : True := by
  w_top off
  trivial
section PartDQ
open PySem PySem.W PyProof.Rows PySem.Calls
set_option Elab.async false
namespace Mine
noncomputable abbrev dqObj : Obj := { cls := .type "collections.deque", data := .fields #[.none, rawInt 0] }
theorem update_same {h : Heap} {a : Addr} {f : Obj → Obj} {o : Obj} (e : h.get? a = some o) (ef : f o = o) : h.update a f = h := by
  obtain ⟨objs, l⟩ := h
  have e' : objs[a]? = some o := by
    simp only [Heap.get?] at e
    split at e
    · cases e
    · exact e
  show (⟨objs.modify a f, l⟩ : Heap) = ⟨objs, l⟩
  congr 1
  refine Array.ext_getElem? fun i => ?_
  rw [Array.getElem?_modify]
  split
  · rename_i h; subst h; rw [e']; simp [ef]
  · rfl
theorem pk_dq_check (w : World) : peek (KF w.params) (SET w) (checkBuiltinCall "type.__call__" ⟨[.type "collections.deque"], []⟩) = some () := by kernel_rfl
theorem pk_dq_tc (w : World) : peek (KF w.params) (SET w) (checkTypeCall "collections.deque" ⟨[], []⟩) = some () := by kernel_rfl
theorem pk_dq_mro (w : World) : peek (KF w.params) (SET w) (mroOf (.type "collections.deque")) = some [.type "collections.deque", .type "object"] := by kernel_rfl
theorem pk_dq_made (w : World) : peek (KF w.params) (SET w) (Bind.madeBy (.type "collections.deque")) = some (some "collections.deque.__new__") := by kernel_rfl
theorem pk_dq_sub (w : World) : peek (KF w.params) (SET w) (isSubtype (.type "collections.deque") (.type "collections.deque")) = some true := by kernel_rfl
theorem pk_dq_init (w : World) : peek (KF w.params) (SET w) (typeLookup (.type "collections.deque") "__init__") = some (some (.builtin "collections.deque.__init__")) := by kernel_rfl
theorem pk_dq_bind (w : World) (v : Value) : peek (KF w.params) (SET w) (bindSpecial (.builtin "collections.deque.__init__") v) = some (.builtin "collections.deque.__init__", [v]) := by kernel_rfl
theorem pk_dq_new (w : World) : peekA (KF w.params) (SET w) (Builtin.«collections.deque.__new__» ⟨[.type "collections.deque"], []⟩) = some (dqObj, fun a => (do ret (.ref a))) := by kernel_rfl

theorem pk_dq_ncheck (w : World) : peek (KF w.params) (SET w) (checkBuiltinCall "collections.deque.__new__" ⟨[.type "collections.deque"], []⟩) = some () := by kernel_rfl
theorem look_check_dq {w : World} {h : Heap} {x : Addr} {id n : String} (hk : builtinKind id = some .slot) (hs : splitId id = some ("collections.deque", n))
    (ha : argsOk id ⟨[.ref x], []⟩) (X : (KF w.params).In h) (hx : h.get? x = some dqObj) : Looks (model PySem.Challenge.rw_nq0205_01.prog w) h (checkBuiltinCall id ⟨[.ref x], []⟩) () := by
  have t1 : Looks (model PySem.Challenge.rw_nq0205_01.prog w) h (typeOf (.ref x)) (.type "collections.deque") := (Looks.ld hx).andThen .now
  have s1 := Looks.of_peek (M := model PySem.Challenge.rw_nq0205_01.prog w) X (pk_dq_sub w)
  simp only [checkBuiltinCall, hk, hs]
  refine Looks.andThen (a := true) ?_ ?_
  · unfold isInstance; exact Looks.andThen t1 s1
  · simp only [Bool.not_true, Bool.false_eq_true, if_false]
    cases hsig : Manifest.signature? id with
    | none => exact .now
    | some sig =>
      simp only [argsOk, hsig] at ha
      have h2 : Bind.checkArgs id sig ⟨[.ref x], []⟩ = pure () := ha
      show Looks _ _ (Bind.checkArgs id sig ⟨[.ref x], []⟩) _
      rw [h2]; exact .now
theorem dq_init_eq (x : Addr) : Builtin.«collections.deque.__init__» ⟨[.ref x], []⟩ = (do setField (.ref x) 0 .none; Builtin.Deque.clear (.ref x); ret .none) := by kernel_rfl
theorem dq_init {M : Model} {A : Around} {E : Value → Shared → Prop} {Q : PySem.Fin → Shared → Prop} {h : Heap} {g : Array GenState} {d : Drawn} {t : Tok} {o : OsState} {x : Addr} (hx : h.get? x = some dqObj) (hq : Q (.done (.ret .none)) ⟨h, g, d, t, o⟩) : wpAny M A (Builtin.«collections.deque.__init__» ⟨[.ref x], []⟩) Q E ⟨h, g, d, t, o⟩ := by
  rw [dq_init_eq]
  have hu : h.update x (Obj.mapFields (·.setIfInBounds 0 .none)) = h := update_same hx rfl
  unfold setField updateField Builtin.Deque.clear Builtin.Deque.items fieldsOf
  refine wpAny_bind ?_
  dsimp only
  refine wpAny_bind (wpAny_load hx ?_)
  dsimp only
  rw [if_pos (by decide)]
  refine wpAny_update hx ?_
  dsimp only
  rw [hu]
  refine wpAny_bind ?_
  refine wpAny_bind (wpAny_bind (wpAny_bind (wpAny_load hx ?_)))
  dsimp only
  refine wpAny_pure (wpAny_pure ?_)
  rw [if_neg (by decide)]
  exact wpAny_pure (wpAny_pure hq)
theorem ck_i1 : builtinKind "collections.deque.__init__" = some .slot := by kernel_rfl
theorem ck_i2 : splitId "collections.deque.__init__" = some ("collections.deque", "__init__") := by kernel_rfl
theorem ck_i3 (x : Addr) : argsOk "collections.deque.__init__" ⟨[.ref x], []⟩ := by kernel_rfl
theorem ck_l1 : builtinKind "collections.deque.__len__" = some .slot := by kernel_rfl
theorem ck_l2 : splitId "collections.deque.__len__" = some ("collections.deque", "__len__") := by kernel_rfl
theorem ck_l3 (x : Addr) : argsOk "collections.deque.__len__" ⟨[.ref x], []⟩ := by kernel_rfl
theorem dq_len_eq (x : Addr) : Builtin.«collections.deque.__len__» ⟨[.ref x], []⟩ = (do retInt (← Builtin.Deque.size (.ref x))) := by kernel_rfl
theorem dq_len {M : Model} {A : Around} {E : Value → Shared → Prop} {Q : PySem.Fin → Shared → Prop} {h : Heap} {g : Array GenState} {d : Drawn} {t : Tok} {o : OsState} {x : Addr} (hx : h.get? x = some dqObj) (hq : Q (.done (.ret (.int (0 : Nat) t))) ⟨h, g, d, t + 1, o⟩) : wpAny M A (Builtin.«collections.deque.__len__» ⟨[.ref x], []⟩) Q E ⟨h, g, d, t, o⟩ := by
  rw [dq_len_eq]
  unfold Builtin.Deque.size fieldsOf
  dsimp only
  refine wpAny_bind (wpAny_bind (wpAny_bind (wpAny_load hx ?_)))
  dsimp only
  refine wpAny_pure (wpAny_pure ?_)
  exact wpAny_bind (wpAny_mkInt (wpAny_pure hq))
noncomputable abbrev dqDecides (t : String) : Option Bool := (Manifest.find? t).bind fun b => if b.noNew then some true else if b.attrs.any (·.1 == "__new__") then some false else none
theorem dq_decides : ((Manifest.find? "collections.deque").bind (·.mro.findSome? dqDecides)).getD false = false := by kernel_rfl
set_option maxRecDepth 100000 in
set_option maxHeartbeats 400000 in
theorem t_deque {w : World} {A : Around} {E : Value → Shared → Prop} {s : Shared} {h₀ : Heap} {L : Addr} {m : Str → Option Value} {news : List (Addr × Obj)} {Q : Value → Shared → Prop} (F : Fr h₀ L s.heap m) (X : (KF w.params).In h₀) (N : News h₀ L s.heap news)
    (h : ∀ x h', Fr h₀ L h' m → News h₀ L h' ((x, dqObj) :: news) → (∀ p ∈ news, p.1 < x) → Q (.ref x) { s with heap := h' }) :
    wpAny (model PySem.Challenge.rw_nq0205_01.prog w) A (call (.type "collections.deque") []) Q E s := by
  obtain ⟨hh, gg, dd, tt, oo⟩ := s
  dsimp only at F N h ⊢
  have X' : (KF w.params).In hh := X.keeps F.keep
  refine wpAny_call (codeAny_of_tree ?_)
  show wpAny _ _ (again (.builtin "type.__call__" ⟨[.type "collections.deque"], []⟩)) _ _ _
  refine wpAny_pure (And.intro (Code.quiet_builtin _ (by decide +kernel)) ?_)
  refine codeAny_builtin entry_typeCall ?_
  have hm := Looks.of_peek (M := model PySem.Challenge.rw_nq0205_01.prog w) X' (pk_dq_mro w)
  have made := Looks.of_peek (M := model PySem.Challenge.rw_nq0205_01.prog w) X' (pk_dq_made w)
  have tc := Looks.of_peek (M := model PySem.Challenge.rw_nq0205_01.prog w) X' (pk_dq_tc w)
  unfold Builtin.«type.__call__»
  dsimp only
  rw [if_neg (show ¬ (Value.type "collections.deque" == Value.type "type") = true by decide)]
  split
  · rename_i hq; exact absurd (hq.symm.trans dq_decides) (by decide)
  repeat (first | simp only [List.isEmpty_cons, Bool.false_eq_true, if_false] | ((fail_if_success (with_reducible show wpAny _ _ (call _ _ _) _ _ _)); lk))
  refine wpAny_call (codeAny_call_builtin (b := Builtin.«collections.deque.__new__») (by decide +kernel) (entryFor_of_fast (by kernel_rfl)) ?_)
  refine Looks.here (Looks.of_peek X' (pk_dq_ncheck w)) ?_
  refine wp_of_peekA F N X' rfl _ _ (pk_dq_new w) fun h' F' N' l1 => ?_
  refine wpAny_pure ?_
  dsimp only
  have hx := (N' _ (.head _)).1
  generalize hh.objs.size = x at *
  have X1 : (KF w.params).In h' := X.keeps F'.keep
  have t1 : Looks (model PySem.Challenge.rw_nq0205_01.prog w) h' (typeOf (.ref x)) (.type "collections.deque") := (Looks.ld hx).andThen .now
  have s1 := Looks.of_peek (M := model PySem.Challenge.rw_nq0205_01.prog w) X1 (pk_dq_sub w)
  have i1 := Looks.of_peek (M := model PySem.Challenge.rw_nq0205_01.prog w) X1 (pk_dq_init w)
  have b1 := Looks.of_peek (M := model PySem.Challenge.rw_nq0205_01.prog w) X1 (pk_dq_bind w (.ref x))
  unfold isInstance callSpecial? specialOf
  repeat (first | with_reducible refine wpAny_call ?_ | lk)
  refine codeAny_call_builtin (b := Builtin.«collections.deque.__init__») (by decide +kernel) (entryFor_of_fast (by kernel_rfl)) ?_
  refine Looks.here (look_check_dq (id := "collections.deque.__init__") (n := "__init__") ck_i1 ck_i2 (ck_i3 x) X1 hx) ?_
  refine dq_init hx ?_
  refine wpAny_pure ?_
  dsimp only
  rw [if_neg (by decide)]
  exact wpAny_pure (h _ _ F' N' l1)
theorem pk_dq_nobool (w : World) : peek (KF w.params) (SET w) (typeLookup (.type "collections.deque") "__bool__") = some none := by kernel_rfl
theorem pk_dq_len (w : World) : peek (KF w.params) (SET w) (typeLookup (.type "collections.deque") "__len__") = some (some (.builtin "collections.deque.__len__")) := by kernel_rfl
theorem pk_dq_lbind (w : World) (v : Value) : peek (KF w.params) (SET w) (bindSpecial (.builtin "collections.deque.__len__") v) = some (.builtin "collections.deque.__len__", [v]) := by kernel_rfl
set_option maxRecDepth 100000 in
set_option maxHeartbeats 400000 in
theorem truthy_dq {w : World} {A : Around} {E : Value → Shared → Prop} {s : Shared} {h₀ : Heap} {L x : Addr} {m : Str → Option Value} {news : List (Addr × Obj)} {Q : Bool → Shared → Prop} (F : Fr h₀ L s.heap m) (X : (KF w.params).In h₀) (N : News h₀ L s.heap news)
    (hm : (x, dqObj) ∈ news) (h : ∀ tk, Q false { s with toks := tk }) :
    wpAny (model PySem.Challenge.rw_nq0205_01.prog w) A (truthy (.ref x)) Q E s := by
  obtain ⟨hh, gg, dd, tt, oo⟩ := s
  dsimp only at F N h ⊢
  have hx : hh.get? x = some dqObj := (N _ hm).1
  have X1 : (KF w.params).In hh := X.keeps F.keep
  have t1 : Looks (model PySem.Challenge.rw_nq0205_01.prog w) hh (typeOf (.ref x)) (.type "collections.deque") := (Looks.ld hx).andThen .now
  have i1 := Looks.of_peek (M := model PySem.Challenge.rw_nq0205_01.prog w) X1 (pk_dq_nobool w)
  have i2 := Looks.of_peek (M := model PySem.Challenge.rw_nq0205_01.prog w) X1 (pk_dq_len w)
  have b1 := Looks.of_peek (M := model PySem.Challenge.rw_nq0205_01.prog w) X1 (pk_dq_lbind w (.ref x))
  unfold truthy callSpecial? specialOf
  repeat (first | with_reducible refine wpAny_runValue ?_ | lk)
  refine codeAny_builtin entry_len ?_
  rw [Around.under_plainId plain_len _]
  unfold Builtin.«len» oneArg
  repeat (first | with_reducible refine wpAny_call ?_ | lk)
  refine codeAny_call_builtin (b := Builtin.«collections.deque.__len__») (by decide +kernel) (entryFor_of_fast (by kernel_rfl)) ?_
  refine Looks.here (look_check_dq (id := "collections.deque.__len__") (n := "__len__") ck_l1 ck_l2 (ck_l3 x) X1 hx) ?_
  refine dq_len hx ?_
  refine wpAny_pure ?_
  dsimp only
  refine wpAny_bind (wpAny_holding (wpAny_pure ?_))
  refine wpAny_bind (wpAny_letGo ?_)
  show wpAny _ _ (if ((0 : Nat) : Int) < 0 then _ else _) _ _ _
  rw [if_neg (by omega)]
  show wpAny _ _ (if ((0 : Nat) : Int) ≥ 2 ^ 63 then _ else _) _ _ _
  rw [if_neg (by omega)]
  refine wpAny_bind (wpAny_mkInt (wpAny_pure ?_))
  exact wpAny_pure (h _)
end Mine
end PartDQ
theorem Mine.flushC5 : True := by
  w_top off
  trivial
section PartC5
open PySem PySem.W PyProof.Rows PySem.Calls
set_option Elab.async false
namespace Mine
theorem kwC5x0 : True := by
  k_with_none
  k_with "size_fits" => first | (with_reducible assumption) | ((try simp only [PySem.Str.length_append, sizeLine_eq]); omega)
  k_with "k_steps" => repeat' (first | (k_unfold; (try dsimp only)) | ((fail_if_success (with_reducible show WhlRest _ _ _ _ _ _ _ _ _ _ _)); (first | walk1 | (dsimp only; walk1))))
  k_with "k_room" => ((try simp only [depth_under_make, depth_under_kw, depth_in1, depth_deeper, depth_caller, depth_mark]); omega)
  trivial
theorem units_under_kw (A : Around) (C : Addr) (vals : List Value) (kw : List (Str × Value)) : (A.under (.builtin "type.__call__" ⟨.ref C :: vals, kw⟩)).units = A.units + 1 := rfl
theorem kwC5x1 : True := by
  k_with "k_units" => ((try simp only [units_under_kw, units_in1, units_deeper, units_caller, Around.mark_units]); omega)
  trivial
structure LT where
  wc : Str
  k0 : Tok
  k1 : Tok
  k2 : Tok
  k3 : Tok
  k4 : Tok
  k5 : Tok
  k6 : Tok
  k7 : Tok
  k8 : Tok
  k9 : Tok
  k10 : Tok
  k11 : Tok
  k12 : Tok
  k13 : Tok
  k14 : Tok
  k15 : Tok
  k16 : Tok
  k17 : Tok
  k18 : Tok
  v0 : Tok
  v1 : Tok
  v2 : Tok
  v3 : Tok
  v4 : Tok
  v5 : Tok
  v6 : Tok
  v7 : Tok
noncomputable abbrev lexE (P : Params) (l : LT) (D q1 q2 : Addr) (st : Value) (ln : Int) (tl : Tok) (tok : Str) (tt : Tok) : List DictEntry :=
  [⟨PyData.keyHash P (Str.ofString "instream"), .str (Str.ofString "instream") l.k0, .ref D⟩,
   ⟨PyData.keyHash P (Str.ofString "infile"), .str (Str.ofString "infile") l.k1, .none⟩,
   ⟨PyData.keyHash P (Str.ofString "posix"), .str (Str.ofString "posix") l.k2, .bool true⟩,
   ⟨PyData.keyHash P (Str.ofString "eof"), .str (Str.ofString "eof") l.k3, .none⟩,
   ⟨PyData.keyHash P (Str.ofString "commenters"), .str (Str.ofString "commenters") l.k4, .str (Str.ofString "") l.v0⟩,
   ⟨PyData.keyHash P (Str.ofString "wordchars"), .str (Str.ofString "wordchars") l.k5, .str l.wc l.v1⟩,
   ⟨PyData.keyHash P (Str.ofString "whitespace"), .str (Str.ofString "whitespace") l.k6, .str (Str.ofString " \t\r\n") l.v2⟩,
   ⟨PyData.keyHash P (Str.ofString "whitespace_split"), .str (Str.ofString "whitespace_split") l.k7, .bool true⟩,
   ⟨PyData.keyHash P (Str.ofString "quotes"), .str (Str.ofString "quotes") l.k8, .str (Str.ofString "'\"") l.v3⟩,
   ⟨PyData.keyHash P (Str.ofString "escape"), .str (Str.ofString "escape") l.k9, .str (Str.ofString "\\") l.v4⟩,
   ⟨PyData.keyHash P (Str.ofString "escapedquotes"), .str (Str.ofString "escapedquotes") l.k10, .str (Str.ofString "\"") l.v5⟩,
   ⟨PyData.keyHash P (Str.ofString "state"), .str (Str.ofString "state") l.k11, st⟩,
   ⟨PyData.keyHash P (Str.ofString "pushback"), .str (Str.ofString "pushback") l.k12, .ref q2⟩,
   ⟨PyData.keyHash P (Str.ofString "lineno"), .str (Str.ofString "lineno") l.k13, .int ln tl⟩,
   ⟨PyData.keyHash P (Str.ofString "debug"), .str (Str.ofString "debug") l.k14, .int 0 l.v6⟩,
   ⟨PyData.keyHash P (Str.ofString "token"), .str (Str.ofString "token") l.k15, .str tok tt⟩,
   ⟨PyData.keyHash P (Str.ofString "filestack"), .str (Str.ofString "filestack") l.k16, .ref q1⟩,
   ⟨PyData.keyHash P (Str.ofString "source"), .str (Str.ofString "source") l.k17, .none⟩,
   ⟨PyData.keyHash P (Str.ofString "_punctuation_chars"), .str (Str.ofString "_punctuation_chars") l.k18, .str (Str.ofString "") l.v7⟩]
noncomputable abbrev lexN (P : Params) (l : LT) (lx dx D ds q1 q2 : Addr) (k1 k2 k3 nl : Tok) (x : Str) (t : Tok) (pos : Int) (tp : Tok) (st : Value) (ln : Int) (tl : Tok) (tok : Str) (tt : Tok) : List (Addr × Obj) :=
  [(q1, dqObj), (q2, dqObj), (D, instObj 660 ds), (ds, dictOf (sioE P k1 k2 k3 nl x t pos tp) 3), (lx, instObj 753 dx), (dx, dictOf (lexE P l D q1 q2 st ln tl tok tt) 19)]
set_option maxRecDepth 100000 in
set_option maxHeartbeats 4000000 in
theorem t_read_end {p : Program} {loose : List Str} {mean : ExcName → Option Value} {mg mb : Str → Option Value} {w : World} {A₀ : Around} {dep un : Nat} {gs : Option (List Code)} {s : Shared} {base h₀ : Heap} {outer : List Env} {nms : List (Str × NameKind)} {ig ic : Bool} {mo : List (Str × Const)} {loc glo bi : Addr} {cel : List (Str × Addr)} {qu : Str} {fn : Option Addr} {cod : Value} {L : Addr} {m : Str → Option Value} {R : Result → Shared → Prop} {l : LT} {lx dx D ds q1 q2 : Addr} {k1 k2 k3 nl : Tok} {x : Str} {t : Tok} {pos : Int} {tp : Tok} {st : Value} {ln : Int} {tl : Tok} {tok : Str} {tt : Tok} {u : Tok}
    (B : Below A₀ base outer h₀) (F : Fr h₀ L s.heap m) (X : (KF w.params).In h₀) (N : News h₀ L s.heap (lexN w.params l lx dx D ds q1 q2 k1 k2 k3 nl x t pos tp st ln tl tok tt)) (T : Top p loose mean mg mb h₀) (hroom : dep + 15 < recursionLimit) (hun : un + 45 < cLine)
    (o1 : dx < lx) (o2 : lx < ds) (o3 : ds < D) (o4 : D < q2) (o5 : q2 < q1) (hx : x.length ≤ 1000) (hp : ¬ pos < x.length) (h0 : 0 ≤ pos) (h : ∀ h' tk t', Fr h₀ L h' m → News h₀ L h' (lexN w.params l lx dx D ds q1 q2 k1 k2 k3 nl x t pos tp st ln tl tok tt) → R (.ok (.ret (.str (Str.ofString "") t'))) { s with heap := h', toks := tk }) :
    codeAny (model PySem.Challenge.rw_nq0205_01.prog w) ⟨none, dep, some ((⟨⟨.function, nms, ig, ic, mo⟩, loc, glo, cel, qu, fn, cod, some L, bi⟩ : Env) :: outer), gs, un⟩ (.call (.ref 606) ⟨[.ref D, .int 1 u], []⟩) R s := by
  revert X; k_fill; intro X
  refine' code_def B F X N T rfl rfl rfl ?k6 ?k7 ?k8 ?k9 ?kB ?_ ?c2 ?c3 ?c4 ?c5
  case k6 => k_is
  case k7 => k_is
  case k8 => (show dep < _); omega
  case k9 => exact binds_K (X.keeps F.keep) rfl (by k_is) rfl rfl rfl
  case c5 => decide
  case kB => exact locs rfl
  case c2 => exact rfl
  case c3 => exact rfl
  case c4 => exact rfl
  intro g' L' h' FG' F' N' B' X' T'
  (try dsimp only)
  (try k_fold)
  replace o1 := ltN o1; replace o2 := ltN o2; replace o3 := ltN o3; replace o4 := ltN o4; replace o5 := ltN o5
  have hx2 : x.length ≤ sizeLine := by rw [sizeLine_eq]; omega
  k_steps
  exact h _ _ _ (by assumption) (by assumption)
set_option maxRecDepth 100000 in
set_option maxHeartbeats 4000000 in
theorem t_read_more {p : Program} {loose : List Str} {mean : ExcName → Option Value} {mg mb : Str → Option Value} {w : World} {A₀ : Around} {dep un : Nat} {gs : Option (List Code)} {s : Shared} {base h₀ : Heap} {outer : List Env} {nms : List (Str × NameKind)} {ig ic : Bool} {mo : List (Str × Const)} {loc glo bi : Addr} {cel : List (Str × Addr)} {qu : Str} {fn : Option Addr} {cod : Value} {L : Addr} {m : Str → Option Value} {R : Result → Shared → Prop} {l : LT} {lx dx D ds q1 q2 : Addr} {k1 k2 k3 nl : Tok} {x : Str} {t : Tok} {pos : Int} {tp : Tok} {st : Value} {ln : Int} {tl : Tok} {tok : Str} {tt : Tok} {u : Tok}
    (B : Below A₀ base outer h₀) (F : Fr h₀ L s.heap m) (X : (KF w.params).In h₀) (N : News h₀ L s.heap (lexN w.params l lx dx D ds q1 q2 k1 k2 k3 nl x t pos tp st ln tl tok tt)) (T : Top p loose mean mg mb h₀) (hroom : dep + 15 < recursionLimit) (hun : un + 45 < cLine)
    (o1 : dx < lx) (o2 : lx < ds) (o3 : ds < D) (o4 : D < q2) (o5 : q2 < q1) (hx : x.length ≤ 1000) (hp : pos < x.length) (h0 : 0 ≤ pos) (h : ∀ h' tk t' tp', Fr h₀ L h' m → News h₀ L h' (lexN w.params l lx dx D ds q1 q2 k1 k2 k3 nl x t (pos + 1) tp' st ln tl tok tt) → R (.ok (.ret (.str (Txt.slice x (some pos) (some (pos + 1))) t'))) { s with heap := h', toks := tk }) :
    codeAny (model PySem.Challenge.rw_nq0205_01.prog w) ⟨none, dep, some ((⟨⟨.function, nms, ig, ic, mo⟩, loc, glo, cel, qu, fn, cod, some L, bi⟩ : Env) :: outer), gs, un⟩ (.call (.ref 606) ⟨[.ref D, .int 1 u], []⟩) R s := by
  revert X; k_fill; intro X
  refine' code_def B F X N T rfl rfl rfl ?k6 ?k7 ?k8 ?k9 ?kB ?_ ?c2 ?c3 ?c4 ?c5
  case k6 => k_is
  case k7 => k_is
  case k8 => (show dep < _); omega
  case k9 => exact binds_K (X.keeps F.keep) rfl (by k_is) rfl rfl rfl
  case c5 => decide
  case kB => exact locs rfl
  case c2 => exact rfl
  case c3 => exact rfl
  case c4 => exact rfl
  intro g' L' h' FG' F' N' B' X' T'
  (try dsimp only)
  (try k_fold)
  replace o1 := ltN o1; replace o2 := ltN o2; replace o3 := ltN o3; replace o4 := ltN o4; replace o5 := ltN o5
  have hx2 : x.length ≤ sizeLine := by rw [sizeLine_eq]; omega
  k_steps
  · exact h _ _ _ _ (by assumption) (by assumption)
  · have e : pos + 1 = (x.length : Int) := by omega
    rw [e] at h
    exact h _ _ _ _ (by assumption) (by assumption)
end Mine
end PartC5
theorem Mine.flushL1 : True := by
  w_top off
  trivial
section PartL1
open PySem PySem.W PyProof.Rows PySem.Calls
set_option Elab.async false
namespace Mine
/-- the states of a shlex: blank, word, between apostrophes, between quotation marks, at the end -/
inductive LS where | sp | a | q | d | no
  deriving DecidableEq
noncomputable def LS.val (tk : Tok) : LS → Value
  | .sp => .str (Str.ofString " ") tk
  | .a => .str (Str.ofString "a") tk
  | .q => .str (Str.ofString "'") tk
  | .d => .str (Str.ofString "\"") tk
  | .no => .none
noncomputable def chS (c : Nat) : Str := ⟨#[c]⟩
noncomputable def finT (tok : Str) (q : Bool) : Option Str := if q = false ∧ tok = Str.ofString "" then none else some tok
/-- one token read: the state, what is left, and the token (none: the end); none: no closing mark -/
noncomputable def rtok : List Nat → LS → Str → Bool → Option (LS × List Nat × Option Str)
  | cs, .no, _, q => some (.no, cs, finT (Str.ofString "") q)
  | [], .sp, tok, q => some (.no, [], finT tok q)
  | [], .a, tok, q => some (.no, [], finT tok q)
  | [], .q, _, _ => none
  | [], .d, _, _ => none
  | c :: cs, .sp, tok, q => if c = 32 then rtok cs .sp tok q else if c = 39 then rtok cs .q tok q else if c = 34 then rtok cs .d tok q else rtok cs .a (chS c) q
  | c :: cs, .a, tok, q => if c = 32 then some (.sp, cs, finT tok q) else if c = 39 then rtok cs .q tok q else if c = 34 then rtok cs .d tok q else rtok cs .a (tok ++ chS c) q
  | c :: cs, .q, tok, _ => if c = 39 then rtok cs .a tok true else rtok cs .q (tok ++ chS c) true
  | c :: cs, .d, tok, _ => if c = 34 then rtok cs .a tok true else rtok cs .d (tok ++ chS c) true
noncomputable def safeN (c : Nat) : Bool := ((Str.ofString "abcdefghijklmnopqrstuvwxyzABCDEFGHIJKLMNOPQRSTUVWXYZ0123456789_@%+=:,./-").cps.toList).contains c
/-- outside of marks: safe signs, blanks and marks alone; between quotation marks: apostrophes alone -/
noncomputable def lexOk : List Nat → LS → Bool
  | [], _ => true
  | _ :: _, .no => false
  | c :: cs, .sp => if c = 32 then lexOk cs .sp else if c = 39 then lexOk cs .q else if c = 34 then lexOk cs .d else safeN c && lexOk cs .a
  | c :: cs, .a => if c = 32 then lexOk cs .sp else if c = 39 then lexOk cs .q else if c = 34 then lexOk cs .d else safeN c && lexOk cs .a
  | c :: cs, .q => if c = 39 then lexOk cs .a else lexOk cs .q
  | c :: cs, .d => if c = 34 then lexOk cs .a else c == 39 && lexOk cs .d
noncomputable abbrev nin (W c : Str) : Bool := (Builtin.Str.occurrences W c 0 W.length 1).isEmpty
theorem safe_facts {c : Nat} (h : safeN c = true) : (chS c == Str.ofString "\n") = false ∧ nin (Str.ofString " \t\r\n") (chS c) = true ∧ nin (Str.ofString "") (chS c) = true ∧ nin (Str.ofString "\\") (chS c) = true ∧ nin (Str.ofString "'\"") (chS c) = true := by
  have : ∀ c ∈ (Str.ofString "abcdefghijklmnopqrstuvwxyzABCDEFGHIJKLMNOPQRSTUVWXYZ0123456789_@%+=:,./-").cps.toList, (chS c == Str.ofString "\n") = false ∧ nin (Str.ofString " \t\r\n") (chS c) = true ∧ nin (Str.ofString "") (chS c) = true ∧ nin (Str.ofString "\\") (chS c) = true ∧ nin (Str.ofString "'\"") (chS c) = true := by decide +kernel
  exact this c (List.contains_iff_mem.mp h)
theorem chS_length (c : Nat) : (chS c).length = 1 := rfl
theorem chS_32 : chS 32 = Str.ofString " " := by decide +kernel
theorem chS_39 : chS 39 = Str.ofString "'" := by decide +kernel
theorem chS_34 : chS 34 = Str.ofString "\"" := by decide +kernel
theorem chS_ne {c : Nat} (h : c ≠ 39) : (chS c == Str.ofString "'") = false := by
  rw [← chS_39]
  refine beq_eq_false_iff_ne.mpr fun e => h ?_
  have : (chS c).cps.toList = (chS 39).cps.toList := by rw [e]
  simpa [chS] using this
theorem slice_ch {x : Str} {n : Nat} {c : Nat} {cs : List Nat} (h : x.cps.toList.drop n = c :: cs) : Txt.slice x (some (n : Int)) (some ((n : Int) + 1)) = chS c := by
  have hl : n + 1 ≤ x.length := by
    have := congrArg List.length h
    simp [Str.length] at this ⊢
    omega
  have e : Txt.slice x (some (n : Int)) (some ((n : Int) + 1)) = StrLaws.sliceText x (some (n : Int)) (some ((n + 1 : Nat) : Int)) := rfl
  rw [e, StrLaws.sliceText_nat x (Nat.le_succ n) hl, h, Nat.succ_sub (Nat.le_refl n), Nat.sub_self]
  rfl
theorem drop_next {x : Str} {n : Nat} {c : Nat} {cs : List Nat} (h : x.cps.toList.drop n = c :: cs) : x.cps.toList.drop (n + 1) = cs ∧ n < x.length := by
  refine ⟨?_, ?_⟩
  · rw [← List.drop_drop, h]; rfl
  · have := congrArg List.length h
    simp [Str.length] at this ⊢
    omega
theorem drop_end {x : Str} {n : Nat} (h : x.cps.toList.drop n = []) : ¬ n < x.length := by
  have := congrArg List.length h
  simp [Str.length] at this ⊢
  omega
end Mine
end PartL1
theorem Mine.flushC6 : True := by
  w_top off
  trivial
section PartC6
open PySem PySem.W PyProof.Rows PySem.Calls
set_option Elab.async false
namespace Mine
theorem kwC6x0 : True := by
  k_with_none
  k_with "size_fits" => first | (with_reducible assumption) | ((try simp only [PySem.Str.length_append, sizeLine_eq]); omega)
  k_with "k_steps" => repeat' (first | (k_unfold; (try dsimp only)) | ((fail_if_success (with_reducible show WhlRest _ _ _ _ _ _ _ _ _ _ _)); (first | walk1 | (dsimp only; walk1))))
  k_with "k_room" => ((try simp only [depth_under_make, depth_under_kw, depth_in1, depth_deeper, depth_caller, depth_mark]); omega)
  k_with "k_units" => ((try simp only [units_under_kw, units_in1, units_deeper, units_caller, Around.mark_units]); omega)
  k_with "call type:collections.deque" => (k_here; k_dflt (refine' t_deque ?k1z6a6 ?k2z6a6 ?k3z6a6 ?_; (case k1z6a6 => k_asm); (case k2z6a6 => k_asm); (case k3z6a6 => k_asm)); intro x'z6a6 h'z6a6 F'z6a6 N'z6a6 l1z6a6; (try k_lt l1z6a6); (try k_sweep); (try dsimp only))
  k_with "truthy ref" => (k_here; k_dflt (refine' truthy_dq ?k1zd64 ?k2zd64 ?k3zd64 ?mzd64 ?_; (case k1zd64 => k_asm); (case k2zd64 => k_asm); (case k3zd64 => k_asm); (case mzd64 => k_mem)); intro tk'zd64; (try dsimp only))
  trivial
set_option maxRecDepth 100000 in
set_option maxHeartbeats 4000000 in
theorem t_read_c {p : Program} {loose : List Str} {mean : ExcName → Option Value} {mg mb : Str → Option Value} {w : World} {A₀ : Around} {dep un : Nat} {gs : Option (List Code)} {s : Shared} {base h₀ : Heap} {outer : List Env} {nms : List (Str × NameKind)} {ig ic : Bool} {mo : List (Str × Const)} {loc glo bi : Addr} {cel : List (Str × Addr)} {qu : Str} {fn : Option Addr} {cod : Value} {L : Addr} {m : Str → Option Value} {R : Result → Shared → Prop} {l : LT} {lx dx D ds q1 q2 : Addr} {k1 k2 k3 nl : Tok} {x : Str} {t : Tok} {pos : Int} {tp : Tok} {st : Value} {ln : Int} {tl : Tok} {tok : Str} {tt : Tok} {u : Tok} {c : Str}
    (B : Below A₀ base outer h₀) (F : Fr h₀ L s.heap m) (X : (KF w.params).In h₀) (N : News h₀ L s.heap (lexN w.params l lx dx D ds q1 q2 k1 k2 k3 nl x t pos tp st ln tl tok tt)) (T : Top p loose mean mg mb h₀) (hroom : dep + 15 < recursionLimit) (hun : un + 45 < cLine)
    (o1 : dx < lx) (o2 : lx < ds) (o3 : ds < D) (o4 : D < q2) (o5 : q2 < q1) (hx : x.length ≤ 1000) (hc : Txt.slice x (some pos) (some (pos + 1)) = c) (hp : pos < x.length) (h0 : 0 ≤ pos) (h : ∀ h' tk t' tp', Fr h₀ L h' m → News h₀ L h' (lexN w.params l lx dx D ds q1 q2 k1 k2 k3 nl x t (pos + 1) tp' st ln tl tok tt) → R (.ok (.ret (.str c t'))) { s with heap := h', toks := tk }) :
    codeAny (model PySem.Challenge.rw_nq0205_01.prog w) ⟨none, dep, some ((⟨⟨.function, nms, ig, ic, mo⟩, loc, glo, cel, qu, fn, cod, some L, bi⟩ : Env) :: outer), gs, un⟩ (.call (.ref 606) ⟨[.ref D, .int 1 u], []⟩) R s := by
  subst hc
  exact t_read_more B F X N T hroom hun o1 o2 o3 o4 o5 hx hp h0 h
theorem kwC6x1 : True := by
  k_with "call ref" => (k_here; k_dflt (refine wpAny_call ?_; refine' t_read_end ?k1z1b1 ?k2z1b1 ?k3z1b1 ?k4z1b1 ?k5z1b1 ?krz1b1 ?kuz1b1 ?ko1z1b1 ?ko2z1b1 ?ko3z1b1 ?ko4z1b1 ?ko5z1b1 ?kxz1b1 ?kh0z1b1 ?kh1z1b1 ?_; (case k1z1b1 => k_asm); (case k2z1b1 => k_asm); (case k3z1b1 => k_asm); (case k4z1b1 => k_asm); (case k5z1b1 => k_asm); (case krz1b1 => k_room); (case kuz1b1 => k_units); (case ko1z1b1 => assumption); (case ko2z1b1 => assumption); (case ko3z1b1 => assumption); (case ko4z1b1 => assumption); (case ko5z1b1 => assumption); (case kxz1b1 => assumption); (case kh0z1b1 => assumption); (case kh1z1b1 => assumption); k_whole); intro h'z1b1 tk'z1b1 t'z1b1 F'z1b1 N'z1b1; (try k_sweep); (try dsimp only))
  k_with "call ref" => (k_here; k_dflt (refine wpAny_call ?_; refine' t_read_c ?k1zd41 ?k2zd41 ?k3zd41 ?k4zd41 ?k5zd41 ?krzd41 ?kuzd41 ?ko1zd41 ?ko2zd41 ?ko3zd41 ?ko4zd41 ?ko5zd41 ?kxzd41 ?kh0zd41 ?kh1zd41 ?kh2zd41 ?_; (case k1zd41 => k_asm); (case k2zd41 => k_asm); (case k3zd41 => k_asm); (case k4zd41 => k_asm); (case k5zd41 => k_asm); (case krzd41 => k_room); (case kuzd41 => k_units); (case ko1zd41 => assumption); (case ko2zd41 => assumption); (case ko3zd41 => assumption); (case ko4zd41 => assumption); (case ko5zd41 => assumption); (case kxzd41 => assumption); (case kh0zd41 => assumption); (case kh1zd41 => assumption); (case kh2zd41 => assumption); k_whole); intro h'zd41 tk'zd41 t'zd41 tp'zd41 F'zd41 N'zd41; (try k_sweep); (try dsimp only))
  k_with "exec If" => refine wpAny_If ?_
  trivial
theorem ite_t {b : Bool} {P Q : Prop} (e : b = true) (h : P) : if b = true then P else Q := by rw [if_pos e]; exact h
theorem ite_f {b : Bool} {P Q : Prop} (e : b = false) (h : Q) : if b = true then P else Q := by rw [if_neg (by rw [e]; exact Bool.false_ne_true)]; exact h
theorem kwC6x2 : True := by
  k_with "ite" => first | with_reducible refine ite_t (by assumption) ?_ | with_reducible refine ite_f (by assumption) ?_ | (k_closed; first | refine ite_t (by decide +kernel) ?_ | refine ite_f (by decide +kernel) ?_)
  trivial
theorem whl_ind2 {prog : Program} {w : World} {A : Around} {E : Value → Shared → Prop} {s : Shared} {env : Env} {test : PySem.Expr} {body orelse : List Stmt} {Q : Flow → Shared → Prop} {k : Nat} (Inv : Nat → Shared → Prop)
    (turn : ∀ n s, Inv n s → (∀ n' s', n' < n → Inv n' s' → WhlRest prog w A E env test body orelse Q 0 s') → WhlRest prog w A E env test body orelse Q 1 s) {n : Nat} (h : Inv n s) : WhlRest prog w A E env test body orelse Q k s := by
  show WhlRest prog w A E env test body orelse Q 0 s
  induction n using Nat.strongRecOn generalizing s with
  | ind n ih => exact turn n s h fun n' s' hn hi => ih n' hn hi
theorem Fr.cong {h₀ h : Heap} {L : Addr} {m m' : Str → Option Value} (F : Fr h₀ L h m) (e : ∀ y, m y = m' y) : Fr h₀ L h m' := by
  have : m = m' := funext e
  subst this; exact F
/-- the names of read_token's frame -/
noncomputable abbrev rtF (lx : Addr) (nc : Option Value) (q : Bool) (te : Tok) : Str → Option Value := fun y =>
  if y = Str.ofString "nextchar" then nc else if y = Str.ofString "escapedstate" then some (.str (Str.ofString " ") te) else if y = Str.ofString "quoted" then some (.bool q) else if y = Str.ofString "self" then some (.ref lx) else none
theorem lookup_self {y : Str} {v : Value} (h : y ≠ Str.ofString "self") : List.lookup y [(Str.ofString "self", v)] = none := by simp [List.lookup, beq_eq_false_iff_ne.mpr h]
theorem kwC6x3 : True := by
  k_with "fr_same" => (intro yzf3b; by_cases e1 : yzf3b = Str.ofString "nextchar"; (subst e1; kernel_rfl); by_cases e2 : yzf3b = Str.ofString "escapedstate"; (subst e2; first | (with_unfolding_all rfl) | kernel_rfl); by_cases e3 : yzf3b = Str.ofString "quoted"; (subst e3; kernel_rfl); by_cases e4 : yzf3b = Str.ofString "self"; (subst e4; kernel_rfl); (simp only [rtF, if_neg e1, if_neg e2, if_neg e3, if_neg e4]); (try with_unfolding_all exact lookup_self e4))
  k_with "truthy str" => refine SBL.truthy (by omega) ?_
  trivial
theorem chS_nonempty (c : Nat) : chS c ≠ Str.ofString "" := by intro e; have := congrArg Str.length e; cases this
noncomputable def optV (t : Tok) : Option Str → Value
  | none => .none
  | some y => .str y t
theorem Fr.congn {h₀ h : Heap} {L lx : Addr} {nc : Option Value} {v : Value} {q : Bool} {te : Tok} (F : Fr h₀ L h (fun y => if y = Str.ofString "nextchar" then some v else rtF lx nc q te y)) : Fr h₀ L h (rtF lx (some v) q te) :=
  Fr.cong F fun y => by
    dsimp only [rtF]
    split <;> rfl
theorem Fr.congq {h₀ h : Heap} {L lx : Addr} {nc : Option Value} {v : Value} {q : Bool} {te : Tok} (F : Fr h₀ L h (fun y => if y = Str.ofString "quoted" then some (.bool true) else if y = Str.ofString "nextchar" then some v else rtF lx nc q te y)) : Fr h₀ L h (rtF lx (some v) true te) :=
  Fr.cong F fun y => by
    by_cases e : y = Str.ofString "quoted"
    · subst e; kernel_rfl
    · dsimp only [rtF]
      rw [if_neg e, if_neg e]
      split <;> rfl
theorem finT_t (tok : Str) : finT tok true = some tok := by unfold finT; rw [if_neg (by rintro ⟨h, _⟩; cases h)]
theorem finT_n {tok : Str} {q : Bool} (h : tok ≠ Str.ofString "") : finT tok q = some tok := by unfold finT; rw [if_neg (fun e => h e.2)]
theorem rt_a_nil {tok : Str} {q : Bool} {v : Option Str} (h : finT tok q = v) : rtok [] .a tok q = some (.no, [], v) := by subst h; rfl
theorem rt_a_bl {tok : Str} {q : Bool} {v : Option Str} {cs : List Nat} (h : finT tok q = v) : rtok (32 :: cs) .a tok q = some (.sp, cs, v) := by subst h; rfl
theorem rt_sf_sp {c : Nat} {cs : List Nat} {tok : Str} {q : Bool} (e1 : c ≠ 32) (e2 : c ≠ 39) (e3 : c ≠ 34) : rtok cs .a (chS c) q = rtok (c :: cs) .sp tok q := by simp [rtok, e1, e2, e3]
theorem rt_sf_a {c : Nat} {cs : List Nat} {tok : Str} {q : Bool} (e1 : c ≠ 32) (e2 : c ≠ 39) (e3 : c ≠ 34) : rtok cs .a (tok ++ chS c) q = rtok (c :: cs) .a tok q := by simp [rtok, e1, e2, e3]
theorem rt_in_q {c : Nat} {cs : List Nat} {tok : Str} {q : Bool} (e2 : c ≠ 39) : rtok cs .q (tok ++ chS c) true = rtok (c :: cs) .q tok q := by simp [rtok, e2]
theorem rt_in_d {cs : List Nat} {tok : Str} {q : Bool} : rtok cs .d (tok ++ Str.ofString "'") true = rtok (39 :: cs) .d tok q := by rw [← chS_39]; rfl
theorem lx_in_q {c : Nat} {cs : List Nat} (e2 : c ≠ 39) (h : lexOk (c :: cs) .q = true) : lexOk cs .q = true := by simpa [lexOk, e2] using h
theorem app_nonempty {tok : Str} {q : Bool} {c : Nat} (h : tok ≠ Str.ofString "" ∨ q = true) : tok ++ chS c ≠ Str.ofString "" ∨ q = true := Or.inl (by intro e; have := congrArg Str.length e; rw [Str.length_append, chS_length] at this; cases this)
theorem bne_len {tok : Str} (h : tok ≠ Str.ofString "") : ((tok.length : Int) != 0) = true := by
  refine bne_iff_ne.mpr fun e => h ?_
  apply Str.ext'
  apply Array.toList_inj.mp
  have h1 : tok.cps.size = 0 := by have : ((tok.cps.size : Nat) : Int) = 0 := e; omega
  have h2 : tok.cps.toList = [] := List.eq_nil_of_length_eq_zero (by rw [Array.length_toList]; exact h1)
  rw [h2]; rfl
theorem beq_emp {tok : Str} (h : tok ≠ Str.ofString "") : (tok == Str.ofString "") = false := beq_eq_false_iff_ne.mpr h
theorem kwC6x4 : True := by
  k_with "exec Raise some none" => (k_here; (with_reducible show wpAny _ _ (exec (Stmt.Raise (some (Expr.Call (Expr.Name ("ValueError" : Str) _) _ [] _)) none _) _) _ _ _); k_dflt (refine Raise_madeB PySem.F.excCall_ValueError PySem.F.excRaise_ValueError rfl ?_))
  k_with "leaving ref" => (k_here; refine' leave_raiseS ?k1zbc5 ?k0zbc5 ?k2zbc5 News.nil ?_; (case k0zbc5 => first | assumption | exact Heap.MadeExc.of (by assumption)); (case k2zbc5 => assumption); (case k1zbc5 => assumption); k_whole; intro h'zbc5 t'zbc5 S'zbc5 R'zbc5 U'zbc5; (try dsimp only at S'zbc5 R'zbc5 U'zbc5 ⊢))
  trivial
set_option maxRecDepth 100000 in
set_option maxHeartbeats 4000000 in
theorem t_tok {p : Program} {loose : List Str} {mean : ExcName → Option Value} {mg mb : Str → Option Value} {w : World} {A₀ : Around} {dep un : Nat} {gs : Option (List Code)} {s : Shared} {base h₀ : Heap} {outer : List Env} {nms : List (Str × NameKind)} {ig ic : Bool} {mo : List (Str × Const)} {loc glo bi : Addr} {cel : List (Str × Addr)} {qu : Str} {fn : Option Addr} {cod : Value} {L : Addr} {m : Str → Option Value} {R : Result → Shared → Prop} {l : LT} {lx dx D ds q1 q2 : Addr} {k1 k2 k3 nl : Tok} {x : Str} {t : Tok} {pos : Int} {tp : Tok} {st : Value} {ln : Int} {tl : Tok} {tok : Str} {tt : Tok} {n0 : Nat} {ls0 : LS} {ts0 : Tok} {cs0 : List Nat}
    (B : Below A₀ base outer h₀) (F : Fr h₀ L s.heap m) (X : (KF w.params).In h₀) (N : News h₀ L s.heap (lexN w.params l lx dx D ds q1 q2 k1 k2 k3 nl x t (n0 : Nat) tp (ls0.val ts0) ln tl (Str.ofString "") tt)) (T : Top p loose mean mg mb h₀) (hroom : dep + 25 < recursionLimit) (hun : un + 75 < cLine)
    (o1 : dx < lx) (o2 : lx < ds) (o3 : ds < D) (o4 : D < q2) (o5 : q2 < q1) (hx : x.length ≤ 1000) (hd0 : x.cps.toList.drop n0 = cs0) (hn0 : n0 ≤ x.length) (hok0 : lexOk cs0 ls0 = true) (hls0 : ls0 = .sp ∨ ls0 = .no) (hw1 : nin l.wc (Str.ofString "'") = true) (hw2 : nin l.wc (Str.ofString "\"") = true)
    (h : ∀ h' tk r tr cs' n' ls' ts' tp' ln' tl' tt', rtok cs0 ls0 (Str.ofString "") false = some (ls', cs', r) → x.cps.toList.drop n' = cs' → n' ≤ x.length → lexOk cs' ls' = true → (ls' = .sp ∨ ls' = .no) → Fr h₀ L h' m → News h₀ L h' (lexN w.params l lx dx D ds q1 q2 k1 k2 k3 nl x t (n' : Nat) tp' (ls'.val ts') ln' tl' (Str.ofString "") tt') → R (.ok (.ret (optV tr r))) { s with heap := h', toks := tk })
    (hE : rtok cs0 ls0 (Str.ofString "") false = none → ∀ g' h' tk e t te, Fr h₀ L g' m → RaisedS base g' ((⟨⟨.function, nms, ig, ic, mo⟩, loc, glo, cel, qu, fn, cod, some L, bi⟩ : Env) :: outer) e (.type "ValueError") t [.str (Str.ofString "No closing quotation") te] [] h' → g'.UpToSlots h' → R (.error (.ref e)) { s with heap := h', toks := tk }) :
    codeAny (model PySem.Challenge.rw_nq0205_01.prog w) ⟨none, dep, some ((⟨⟨.function, nms, ig, ic, mo⟩, loc, glo, cel, qu, fn, cod, some L, bi⟩ : Env) :: outer), gs, un⟩ (.call (.ref 721) ⟨[.ref lx], []⟩) R s := by
  revert X; k_fill; intro X
  refine' code_def B F X N T rfl rfl rfl ?k6 ?k7 ?k8 ?k9 ?kB ?_ ?c2 ?c3 ?c4 ?c5
  case k6 => k_is
  case k7 => k_is
  case k8 => (show dep < _); omega
  case k9 => exact BindsTo.of_eq rfl
  case c5 => decide
  case kB => exact locs rfl
  case c2 => exact rfl
  case c3 => exact rfl
  case c4 => exact rfl
  intro g' L' h' FG' F' N' B' X' T'
  (try dsimp only)
  (try k_fold)
  replace o1 := ltN o1; replace o2 := ltN o2; replace o3 := ltN o3; replace o4 := ltN o4; replace o5 := ltN o5
  have hx2 : x.length ≤ sizeLine := by rw [sizeLine_eq]; omega
  k_steps
  rename Fr _ L' _ _ => F1
  rename News _ L' _ _ => N1
  refine whl_ind2 (Inv := fun n s' => ∃ (nc : Option Value) (q : Bool) (te : Tok) (pn : Nat) (tp : Tok) (ls : LS) (ts : Tok) (ln : Int) (tl : Tok) (tok : Str) (tt : Tok) (hh : Heap) (tk : Tok) (cs : List Nat), s' = { s with heap := hh, toks := tk } ∧ n = cs.length ∧ x.cps.toList.drop pn = cs ∧ lexOk cs ls = true ∧ (ls = .sp ∨ ls = .no → tok = Str.ofString "" ∧ q = false) ∧ (ls = .a → tok ≠ Str.ofString "" ∨ q = true) ∧ tok.length ≤ pn ∧ pn ≤ x.length ∧ rtok cs ls tok q = rtok cs0 ls0 (Str.ofString "") false ∧ Fr g' L' hh (rtF lx nc q te) ∧ News g' L' hh (lexN w.params l lx dx D ds q1 q2 k1 k2 k3 nl x t pn tp (ls.val ts) ln tl tok tt)) ?turn ?init (n := cs0.length)
  case init => exact ⟨none, false, _, n0, _, ls0, _, _, _, _, _, _, _, cs0, rfl, rfl, hd0, hok0, fun _ => ⟨rfl, rfl⟩, (fun e => by rcases hls0 with e' | e' <;> rw [e'] at e <;> cases e), Nat.zero_le _, hn0, rfl, Fr.cong F1 (by walk_at "fr_same"), N1⟩
  clear N1 F1 N F
  rintro n s' ⟨nc, q, te, pn, tp, ls, ts, ln, tl, tok, tt, hh, tk, cs, rfl, rfl, hd, hok, hsp, ha, htl, hpn, hrt, F1, N1⟩ next
  have h0 : (0 : Int) ≤ (pn : Int) := by omega
  have htl1 : tok.length ≤ 1000 := by omega
  have htl2 : tok.length ≤ sizeLine := by rw [sizeLine_eq]; omega
  cases ls with
  | sp =>
    obtain ⟨rfl, rfl⟩ := hsp (Or.inl rfl)
    dsimp only [LS.val] at N1
    cases cs with
    | nil =>
      have hp := drop_end hd
      have hp' : ¬ (pn : Int) < x.length := by omega
      refine whl_turn (by first | passes_own | with_unfolding_all passes_own) ?_
      k_steps
      refine h _ _ none 0 [] pn .no 0 _ _ _ _ ?_ hd hpn rfl (Or.inr rfl) (by assumption) (by assumption)
      rw [← hrt]; rfl
    | cons c cs =>
      obtain ⟨hd', hp⟩ := drop_next hd
      have hp' : (pn : Int) < x.length := by omega
      have hc := slice_ch hd
      by_cases e32 : c = 32
      · subst e32
        rw [chS_32] at hc
        refine whl_turn (by first | passes_own | with_unfolding_all passes_own) ?_
        k_steps
        exact next _ _ (by simp) ⟨some _, false, te, pn + 1, _, .sp, _, _, _, (Str.ofString ""), _, _, _, cs, rfl, rfl, hd', (by first | exact hok | exact hsf.2 | exact lx_in_q e39 hok), (by first | (intro _; exact ⟨rfl, rfl⟩) | (intro e; rcases e with e | e <;> cases e)), (by first | (intro e; cases e; done) | (intro _; right; rfl) | (intro _; left; exact chS_nonempty _) | (intro _; exact app_nonempty haa)), (by first | exact Nat.zero_le _ | exact Nat.succ_le_succ (Nat.zero_le _) | omega | (rw [Str.length_append, chS_length]; omega) | (rw [Str.length_append, qlen1]; omega)), hp, (by rw [← hrt]; first | rfl | exact rt_sf_sp e32 e39 e34 | exact rt_sf_a e32 e39 e34 | exact rt_in_q e39 | exact rt_in_d), (by first | exact Fr.congn (by assumption) | exact Fr.congq (by assumption)), by first | assumption | exact News.less1 (by assumption)⟩
      by_cases e39 : c = 39
      · subst e39
        rw [chS_39] at hc
        refine whl_turn (by first | passes_own | with_unfolding_all passes_own) ?_
        k_steps
        exact next _ _ (by simp) ⟨some _, false, te, pn + 1, _, .q, _, _, _, (Str.ofString ""), _, _, _, cs, rfl, rfl, hd', (by first | exact hok | exact hsf.2 | exact lx_in_q e39 hok), (by first | (intro _; exact ⟨rfl, rfl⟩) | (intro e; rcases e with e | e <;> cases e)), (by first | (intro e; cases e; done) | (intro _; right; rfl) | (intro _; left; exact chS_nonempty _) | (intro _; exact app_nonempty haa)), (by first | exact Nat.zero_le _ | exact Nat.succ_le_succ (Nat.zero_le _) | omega | (rw [Str.length_append, chS_length]; omega) | (rw [Str.length_append, qlen1]; omega)), hp, (by rw [← hrt]; first | rfl | exact rt_sf_sp e32 e39 e34 | exact rt_sf_a e32 e39 e34 | exact rt_in_q e39 | exact rt_in_d), (by first | exact Fr.congn (by assumption) | exact Fr.congq (by assumption)), by first | assumption | exact News.less1 (by assumption)⟩
      by_cases e34 : c = 34
      · subst e34
        rw [chS_34] at hc
        refine whl_turn (by first | passes_own | with_unfolding_all passes_own) ?_
        k_steps
        exact next _ _ (by simp) ⟨some _, false, te, pn + 1, _, .d, _, _, _, (Str.ofString ""), _, _, _, cs, rfl, rfl, hd', (by first | exact hok | exact hsf.2 | exact lx_in_q e39 hok), (by first | (intro _; exact ⟨rfl, rfl⟩) | (intro e; rcases e with e | e <;> cases e)), (by first | (intro e; cases e; done) | (intro _; right; rfl) | (intro _; left; exact chS_nonempty _) | (intro _; exact app_nonempty haa)), (by first | exact Nat.zero_le _ | exact Nat.succ_le_succ (Nat.zero_le _) | omega | (rw [Str.length_append, chS_length]; omega) | (rw [Str.length_append, qlen1]; omega)), hp, (by rw [← hrt]; first | rfl | exact rt_sf_sp e32 e39 e34 | exact rt_sf_a e32 e39 e34 | exact rt_in_q e39 | exact rt_in_d), (by first | exact Fr.congn (by assumption) | exact Fr.congq (by assumption)), by first | assumption | exact News.less1 (by assumption)⟩
      have hsf : safeN c = true ∧ lexOk cs .a = true := by simpa [lexOk, e32, e39, e34] using hok
      obtain ⟨f0, f1, f2, f3, f4⟩ := safe_facts hsf.1
      have hcl := chS_length c
      have e2 : (((chS c).length : Int) != 0) = true := rfl
      generalize hcc : chS c = cc at *
      refine whl_turn (by first | passes_own | with_unfolding_all passes_own) ?_
      k_steps
      all_goals subst hcc
      all_goals exact next _ _ (by simp) ⟨some _, false, te, pn + 1, _, .a, _, _, _, (chS c), _, _, _, cs, rfl, rfl, hd', (by first | exact hok | exact hsf.2 | exact lx_in_q e39 hok), (by first | (intro _; exact ⟨rfl, rfl⟩) | (intro e; rcases e with e | e <;> cases e)), (by first | (intro e; cases e; done) | (intro _; right; rfl) | (intro _; left; exact chS_nonempty _) | (intro _; exact app_nonempty haa)), (by first | exact Nat.zero_le _ | exact Nat.succ_le_succ (Nat.zero_le _) | omega | (rw [Str.length_append, chS_length]; omega) | (rw [Str.length_append, qlen1]; omega)), hp, (by rw [← hrt]; first | rfl | exact rt_sf_sp e32 e39 e34 | exact rt_sf_a e32 e39 e34 | exact rt_in_q e39 | exact rt_in_d), (by first | exact Fr.congn (by assumption) | exact Fr.congq (by assumption)), by first | assumption | exact News.less1 (by assumption)⟩
  | a =>
    have haa := ha rfl
    dsimp only [LS.val] at N1
    cases cs with
    | nil =>
      have hp := drop_end hd
      have hp' : ¬ (pn : Int) < x.length := by omega
      rcases Bool.eq_false_or_eq_true q with hq | hq
      · subst hq
        by_cases htk : tok = Str.ofString ""
        · subst htk
          refine whl_turn (by first | passes_own | with_unfolding_all passes_own) ?_
          k_steps
          all_goals first | (exact h _ _ (some (Str.ofString "")) _ [] pn .no 0 _ _ _ _ (by rw [← hrt]; first | exact rt_a_nil (finT_t _) | exact rt_a_nil (finT_n htk) | exact rt_a_bl (finT_t _) | exact rt_a_bl (finT_n htk)) hd hpn rfl (Or.inr rfl) (by assumption) (by first | assumption | exact News.less1 (by assumption))) 
        · have hb1 := bne_len htk
          have hb2 := beq_emp htk
          refine whl_turn (by first | passes_own | with_unfolding_all passes_own) ?_
          k_steps
          all_goals first | (exact h _ _ (some tok) _ [] pn .no 0 _ _ _ _ (by rw [← hrt]; first | exact rt_a_nil (finT_t _) | exact rt_a_nil (finT_n htk) | exact rt_a_bl (finT_t _) | exact rt_a_bl (finT_n htk)) hd hpn rfl (Or.inr rfl) (by assumption) (by first | assumption | exact News.less1 (by assumption))) 
      · subst hq
        have htk : tok ≠ Str.ofString "" := haa.resolve_right (by decide)
        have hb1 := bne_len htk
        have hb2 := beq_emp htk
        refine whl_turn (by first | passes_own | with_unfolding_all passes_own) ?_
        k_steps
        all_goals first | (exact h _ _ (some tok) _ [] pn .no 0 _ _ _ _ (by rw [← hrt]; first | exact rt_a_nil (finT_t _) | exact rt_a_nil (finT_n htk) | exact rt_a_bl (finT_t _) | exact rt_a_bl (finT_n htk)) hd hpn rfl (Or.inr rfl) (by assumption) (by first | assumption | exact News.less1 (by assumption))) 
    | cons c cs =>
      obtain ⟨hd', hp⟩ := drop_next hd
      have hp' : (pn : Int) < x.length := by omega
      have hc := slice_ch hd
      by_cases e32 : c = 32
      · subst e32
        rw [chS_32] at hc
        rcases Bool.eq_false_or_eq_true q with hq | hq
        · subst hq
          by_cases htk : tok = Str.ofString ""
          · subst htk
            refine whl_turn (by first | passes_own | with_unfolding_all passes_own) ?_
            k_steps
            all_goals first | (exact h _ _ (some (Str.ofString "")) _ cs (pn + 1) .sp _ _ _ _ _ (by rw [← hrt]; first | exact rt_a_nil (finT_t _) | exact rt_a_nil (finT_n htk) | exact rt_a_bl (finT_t _) | exact rt_a_bl (finT_n htk)) hd' hp hok (Or.inl rfl) (by assumption) (by first | assumption | exact News.less1 (by assumption))) 
          · have hb1 := bne_len htk
            have hb2 := beq_emp htk
            refine whl_turn (by first | passes_own | with_unfolding_all passes_own) ?_
            k_steps
            all_goals first | (exact h _ _ (some tok) _ cs (pn + 1) .sp _ _ _ _ _ (by rw [← hrt]; first | exact rt_a_nil (finT_t _) | exact rt_a_nil (finT_n htk) | exact rt_a_bl (finT_t _) | exact rt_a_bl (finT_n htk)) hd' hp hok (Or.inl rfl) (by assumption) (by first | assumption | exact News.less1 (by assumption))) 
        · subst hq
          have htk : tok ≠ Str.ofString "" := haa.resolve_right (by decide)
          have hb1 := bne_len htk
          have hb2 := beq_emp htk
          refine whl_turn (by first | passes_own | with_unfolding_all passes_own) ?_
          k_steps
          all_goals first | (exact h _ _ (some tok) _ cs (pn + 1) .sp _ _ _ _ _ (by rw [← hrt]; first | exact rt_a_nil (finT_t _) | exact rt_a_nil (finT_n htk) | exact rt_a_bl (finT_t _) | exact rt_a_bl (finT_n htk)) hd' hp hok (Or.inl rfl) (by assumption) (by first | assumption | exact News.less1 (by assumption)))
      by_cases e39 : c = 39
      · subst e39
        rw [chS_39] at hc
        refine whl_turn (by first | passes_own | with_unfolding_all passes_own) ?_
        k_steps
        exact next _ _ (by simp) ⟨some _, q, te, pn + 1, _, .q, _, _, _, tok, _, _, _, cs, rfl, rfl, hd', (by first | exact hok | exact hsf.2 | exact lx_in_q e39 hok), (by first | (intro _; exact ⟨rfl, rfl⟩) | (intro e; rcases e with e | e <;> cases e)), (by first | (intro e; cases e; done) | (intro _; right; rfl) | (intro _; left; exact chS_nonempty _) | (intro _; exact app_nonempty haa)), (by first | exact Nat.zero_le _ | exact Nat.succ_le_succ (Nat.zero_le _) | omega | (rw [Str.length_append, chS_length]; omega) | (rw [Str.length_append, qlen1]; omega)), hp, (by rw [← hrt]; first | rfl | exact rt_sf_sp e32 e39 e34 | exact rt_sf_a e32 e39 e34 | exact rt_in_q e39 | exact rt_in_d), (by first | exact Fr.congn (by assumption) | exact Fr.congq (by assumption)), by first | assumption | exact News.less1 (by assumption)⟩
      by_cases e34 : c = 34
      · subst e34
        rw [chS_34] at hc
        refine whl_turn (by first | passes_own | with_unfolding_all passes_own) ?_
        k_steps
        exact next _ _ (by simp) ⟨some _, q, te, pn + 1, _, .d, _, _, _, tok, _, _, _, cs, rfl, rfl, hd', (by first | exact hok | exact hsf.2 | exact lx_in_q e39 hok), (by first | (intro _; exact ⟨rfl, rfl⟩) | (intro e; rcases e with e | e <;> cases e)), (by first | (intro e; cases e; done) | (intro _; right; rfl) | (intro _; left; exact chS_nonempty _) | (intro _; exact app_nonempty haa)), (by first | exact Nat.zero_le _ | exact Nat.succ_le_succ (Nat.zero_le _) | omega | (rw [Str.length_append, chS_length]; omega) | (rw [Str.length_append, qlen1]; omega)), hp, (by rw [← hrt]; first | rfl | exact rt_sf_sp e32 e39 e34 | exact rt_sf_a e32 e39 e34 | exact rt_in_q e39 | exact rt_in_d), (by first | exact Fr.congn (by assumption) | exact Fr.congq (by assumption)), by first | assumption | exact News.less1 (by assumption)⟩
      have hsf : safeN c = true ∧ lexOk cs .a = true := by simpa [lexOk, e32, e39, e34] using hok
      obtain ⟨f0, f1, f2, f3, f4⟩ := safe_facts hsf.1
      have hcl := chS_length c
      have e2 : (((chS c).length : Int) != 0) = true := rfl
      generalize hcc : chS c = cc at *
      refine whl_turn (by first | passes_own | with_unfolding_all passes_own) ?_
      k_steps
      all_goals subst hcc
      all_goals exact next _ _ (by simp) ⟨some _, q, te, pn + 1, _, .a, _, _, _, (tok ++ chS c), _, _, _, cs, rfl, rfl, hd', (by first | exact hok | exact hsf.2 | exact lx_in_q e39 hok), (by first | (intro _; exact ⟨rfl, rfl⟩) | (intro e; rcases e with e | e <;> cases e)), (by first | (intro e; cases e; done) | (intro _; right; rfl) | (intro _; left; exact chS_nonempty _) | (intro _; exact app_nonempty haa)), (by first | exact Nat.zero_le _ | exact Nat.succ_le_succ (Nat.zero_le _) | omega | (rw [Str.length_append, chS_length]; omega) | (rw [Str.length_append, qlen1]; omega)), hp, (by rw [← hrt]; first | rfl | exact rt_sf_sp e32 e39 e34 | exact rt_sf_a e32 e39 e34 | exact rt_in_q e39 | exact rt_in_d), (by first | exact Fr.congn (by assumption) | exact Fr.congq (by assumption)), by first | assumption | exact News.less1 (by assumption)⟩
  | q =>
    dsimp only [LS.val] at N1
    cases cs with
    | nil =>
      have hp := drop_end hd
      have hp' : ¬ (pn : Int) < x.length := by omega
      refine whl_turn (by first | passes_own | with_unfolding_all passes_own) ?_
      k_steps
      exact hE (by rw [← hrt]; rfl) _ _ _ _ _ _ (by assumption) (by assumption) (by assumption)
    | cons c cs =>
      obtain ⟨hd', hp⟩ := drop_next hd
      have hp' : (pn : Int) < x.length := by omega
      have hc := slice_ch hd
      by_cases e39 : c = 39
      · subst e39
        rw [chS_39] at hc
        refine whl_turn (by first | passes_own | with_unfolding_all passes_own) ?_
        k_steps
        all_goals exact next _ _ (by simp) ⟨some _, true, te, pn + 1, _, .a, _, _, _, tok, _, _, _, cs, rfl, rfl, hd', (by first | exact hok | exact hsf.2 | exact lx_in_q e39 hok), (by first | (intro _; exact ⟨rfl, rfl⟩) | (intro e; rcases e with e | e <;> cases e)), (by first | (intro e; cases e; done) | (intro _; right; rfl) | (intro _; left; exact chS_nonempty _) | (intro _; exact app_nonempty haa)), (by first | exact Nat.zero_le _ | exact Nat.succ_le_succ (Nat.zero_le _) | omega | (rw [Str.length_append, chS_length]; omega) | (rw [Str.length_append, qlen1]; omega)), hp, (by rw [← hrt]; first | rfl | exact rt_sf_sp e32 e39 e34 | exact rt_sf_a e32 e39 e34 | exact rt_in_q e39 | exact rt_in_d), (by first | exact Fr.congn (by assumption) | exact Fr.congq (by assumption)), by first | assumption | exact News.less1 (by assumption)⟩
      have hcl := chS_length c
      have e2 : (((chS c).length : Int) != 0) = true := rfl
      have e3 := chS_ne e39
      have hnx : tok.length + 1 ≤ sizeLine := by rw [sizeLine_eq]; omega
      generalize hcc : chS c = cc at *
      refine whl_turn (by first | passes_own | with_unfolding_all passes_own) ?_
      k_steps
      all_goals subst hcc
      all_goals exact next _ _ (by simp) ⟨some _, true, te, pn + 1, _, .q, _, _, _, (tok ++ chS c), _, _, _, cs, rfl, rfl, hd', (by first | exact hok | exact hsf.2 | exact lx_in_q e39 hok), (by first | (intro _; exact ⟨rfl, rfl⟩) | (intro e; rcases e with e | e <;> cases e)), (by first | (intro e; cases e; done) | (intro _; right; rfl) | (intro _; left; exact chS_nonempty _) | (intro _; exact app_nonempty haa)), (by first | exact Nat.zero_le _ | exact Nat.succ_le_succ (Nat.zero_le _) | omega | (rw [Str.length_append, chS_length]; omega) | (rw [Str.length_append, qlen1]; omega)), hp, (by rw [← hrt]; first | rfl | exact rt_sf_sp e32 e39 e34 | exact rt_sf_a e32 e39 e34 | exact rt_in_q e39 | exact rt_in_d), (by first | exact Fr.congn (by assumption) | exact Fr.congq (by assumption)), by first | assumption | exact News.less1 (by assumption)⟩
  | d =>
    dsimp only [LS.val] at N1
    cases cs with
    | nil =>
      have hp := drop_end hd
      have hp' : ¬ (pn : Int) < x.length := by omega
      refine whl_turn (by first | passes_own | with_unfolding_all passes_own) ?_
      k_steps
      exact hE (by rw [← hrt]; rfl) _ _ _ _ _ _ (by assumption) (by assumption) (by assumption)
    | cons c cs =>
      obtain ⟨hd', hp⟩ := drop_next hd
      have hp' : (pn : Int) < x.length := by omega
      have hc := slice_ch hd
      by_cases e34 : c = 34
      · subst e34
        rw [chS_34] at hc
        refine whl_turn (by first | passes_own | with_unfolding_all passes_own) ?_
        k_steps
        all_goals exact next _ _ (by simp) ⟨some _, true, te, pn + 1, _, .a, _, _, _, tok, _, _, _, cs, rfl, rfl, hd', (by first | exact hok | exact hsf.2 | exact lx_in_q e39 hok), (by first | (intro _; exact ⟨rfl, rfl⟩) | (intro e; rcases e with e | e <;> cases e)), (by first | (intro e; cases e; done) | (intro _; right; rfl) | (intro _; left; exact chS_nonempty _) | (intro _; exact app_nonempty haa)), (by first | exact Nat.zero_le _ | exact Nat.succ_le_succ (Nat.zero_le _) | omega | (rw [Str.length_append, chS_length]; omega) | (rw [Str.length_append, qlen1]; omega)), hp, (by rw [← hrt]; first | rfl | exact rt_sf_sp e32 e39 e34 | exact rt_sf_a e32 e39 e34 | exact rt_in_q e39 | exact rt_in_d), (by first | exact Fr.congn (by assumption) | exact Fr.congq (by assumption)), by first | assumption | exact News.less1 (by assumption)⟩
      have e39 : c = 39 := by
        have := hok
        simp only [lexOk, if_neg e34] at this
        simp at this
        exact this.1
      have hok' : lexOk cs .d = true := by
        have := hok
        simp only [lexOk, if_neg e34] at this
        simp at this
        exact this.2
      subst e39
      have hok := hok'
      rw [chS_39] at hc
      refine whl_turn (by first | passes_own | with_unfolding_all passes_own) ?_
      k_steps
      all_goals first | (exact next _ _ (by simp) ⟨some _, true, te, pn + 1, _, .d, _, _, _, (tok ++ Str.ofString "'"), _, _, _, cs, rfl, rfl, hd', (by first | exact hok | exact hsf.2 | exact lx_in_q e39 hok), (by first | (intro _; exact ⟨rfl, rfl⟩) | (intro e; rcases e with e | e <;> cases e)), (by first | (intro e; cases e; done) | (intro _; right; rfl) | (intro _; left; exact chS_nonempty _) | (intro _; exact app_nonempty haa)), (by first | exact Nat.zero_le _ | exact Nat.succ_le_succ (Nat.zero_le _) | omega | (rw [Str.length_append, chS_length]; omega) | (rw [Str.length_append, qlen1]; omega)), hp, (by rw [← hrt]; first | rfl | exact rt_sf_sp e32 e39 e34 | exact rt_sf_a e32 e39 e34 | exact rt_in_q e39 | exact rt_in_d), (by first | exact Fr.congn (by assumption) | exact Fr.congq (by assumption)), by first | assumption | exact News.less1 (by assumption)⟩)
  | no =>
    dsimp only [LS.val] at N1
    obtain ⟨rfl, rfl⟩ := hsp (Or.inr rfl)
    have hcn : cs = [] := by
      cases cs with
      | nil => rfl
      | cons c cs => simp [lexOk] at hok
    subst hcn
    have hp := drop_end hd
    have hp' : ¬ (pn : Int) < x.length := by omega
    refine whl_turn (by first | passes_own | with_unfolding_all passes_own) ?_
    k_steps
    all_goals first | exact h _ _ none 0 [] pn .no 0 _ _ _ _ (by rw [← hrt]; rfl) hd hpn rfl (Or.inr rfl) (by assumption) (by assumption) 
end Mine
end PartC6
theorem Mine.flushC7 : True := by
  w_top off
  trivial
section PartC7
open PySem PySem.W PyProof.Rows PySem.Calls
set_option Elab.async false
namespace Mine
theorem kwC7x0 : True := by
  k_with_none
  k_with "size_fits" => first | (with_reducible assumption) | ((try simp only [PySem.Str.length_append, sizeLine_eq]); omega)
  k_with "k_room" => ((try simp only [depth_under_make, depth_under_kw, depth_in1, depth_deeper, depth_caller, depth_mark]); omega)
  k_with "k_units" => ((try simp only [units_under_kw, units_in1, units_deeper, units_caller, Around.mark_units]); omega)
  k_with "call type:collections.deque" => (k_here; k_dflt (refine' t_deque ?k1z6a6 ?k2z6a6 ?k3z6a6 ?_; (case k1z6a6 => k_asm); (case k2z6a6 => k_asm); (case k3z6a6 => k_asm)); intro x'z6a6 h'z6a6 F'z6a6 N'z6a6 l1z6a6; (try k_lt l1z6a6); (try k_sweep); (try dsimp only))
  k_with "truthy ref" => (k_here; k_dflt (refine' truthy_dq ?k1zd64 ?k2zd64 ?k3zd64 ?mzd64 ?_; (case k1zd64 => k_asm); (case k2zd64 => k_asm); (case k3zd64 => k_asm); (case mzd64 => k_mem)); intro tk'zd64; (try dsimp only))
  k_with "exec If" => refine wpAny_If ?_
  k_with "ite" => first | with_reducible refine ite_t (by assumption) ?_ | with_reducible refine ite_f (by assumption) ?_ | (k_closed; first | refine ite_t (by decide +kernel) ?_ | refine ite_f (by decide +kernel) ?_)
  k_with "leaving ref" => (k_here; first
    | (refine' leave_onS ?k1zf95 ?k2zf95 ?k3zf95 ?k4zf95 ?_; (case k3zf95 => assumption); (case k2zf95 => assumption); (case k1zf95 => assumption); (case k4zf95 => assumption); k_whole; intro h'zf95 S'zf95 R'zf95 U'zf95; clear R'zf95; (try dsimp only at S'zf95 U'zf95 ⊢))
    | (refine' leave_raiseS ?k1zf95 ?k0zf95 ?k2zf95 ?k3zf95 ?_; (case k0zf95 => first | assumption | exact Heap.MadeExc.of (by assumption)); (case k2zf95 => assumption); (case k1zf95 => assumption); (case k3zf95 => k_asm); k_whole; intro h'zf95 t'zf95 S'zf95 R'zf95 U'zf95; clear R'zf95; (try dsimp only at S'zf95 U'zf95 ⊢)))
  k_with "truthy str" => refine SBL.truthy (by omega) ?_
  trivial
set_option maxRecDepth 100000 in
set_option maxHeartbeats 4000000 in
theorem t_tok3 {p : Program} {loose : List Str} {mean : ExcName → Option Value} {mg mb : Str → Option Value} {w : World} {A₀ : Around} {dep un : Nat} {gs : Option (List Code)} {s : Shared} {base h₀ : Heap} {outer : List Env} {nms : List (Str × NameKind)} {ig ic : Bool} {mo : List (Str × Const)} {loc glo bi : Addr} {cel : List (Str × Addr)} {qu : Str} {fn : Option Addr} {cod : Value} {L : Addr} {m : Str → Option Value} {R : Result → Shared → Prop} {l : LT} {lx dx D ds q1 q2 : Addr} {k1 k2 k3 nl : Tok} {x : Str} {t : Tok} {tp : Tok} {ln : Int} {tl : Tok} {tt : Tok} {n0 : Nat} {ls0 : LS} {ts0 : Tok} {cs0 : List Nat}
    (B : Below A₀ base outer h₀) (F : Fr h₀ L s.heap m) (X : (KF w.params).In h₀) (N : News h₀ L s.heap (lexN w.params l lx dx D ds q1 q2 k1 k2 k3 nl x t (n0 : Nat) tp (ls0.val ts0) ln tl (Str.ofString "") tt)) (T : Top p loose mean mg mb h₀) (hroom : dep + 25 < recursionLimit) (hun : un + 75 < cLine)
    (o1 : dx < lx) (o2 : lx < ds) (o3 : ds < D) (o4 : D < q2) (o5 : q2 < q1) (hx : x.length ≤ 1000) (hd0 : x.cps.toList.drop n0 = cs0) (hn0 : n0 ≤ x.length) (hok0 : lexOk cs0 ls0 = true) (hls0 : ls0 = .sp ∨ ls0 = .no) (hw1 : nin l.wc (Str.ofString "'") = true) (hw2 : nin l.wc (Str.ofString "\"") = true)
    (hN : ∀ h' tk cs' n' ls' ts' tp' ln' tl' tt', rtok cs0 ls0 (Str.ofString "") false = some (ls', cs', none) → x.cps.toList.drop n' = cs' → n' ≤ x.length → lexOk cs' ls' = true → (ls' = .sp ∨ ls' = .no) → Fr h₀ L h' m → News h₀ L h' (lexN w.params l lx dx D ds q1 q2 k1 k2 k3 nl x t (n' : Nat) tp' (ls'.val ts') ln' tl' (Str.ofString "") tt') → R (.ok (.ret .none)) { s with heap := h', toks := tk })
    (hS : ∀ h' tk y tr cs' n' ls' ts' tp' ln' tl' tt', rtok cs0 ls0 (Str.ofString "") false = some (ls', cs', some y) → x.cps.toList.drop n' = cs' → n' ≤ x.length → lexOk cs' ls' = true → (ls' = .sp ∨ ls' = .no) → Fr h₀ L h' m → News h₀ L h' (lexN w.params l lx dx D ds q1 q2 k1 k2 k3 nl x t (n' : Nat) tp' (ls'.val ts') ln' tl' (Str.ofString "") tt') → R (.ok (.ret (.str y tr))) { s with heap := h', toks := tk })
    (hE : rtok cs0 ls0 (Str.ofString "") false = none → ∀ g' h' tk e t te, Fr h₀ L g' m → RaisedS base g' ((⟨⟨.function, nms, ig, ic, mo⟩, loc, glo, cel, qu, fn, cod, some L, bi⟩ : Env) :: outer) e (.type "ValueError") t [.str (Str.ofString "No closing quotation") te] [] h' → g'.UpToSlots h' → R (.error (.ref e)) { s with heap := h', toks := tk }) :
    codeAny (model PySem.Challenge.rw_nq0205_01.prog w) ⟨none, dep, some ((⟨⟨.function, nms, ig, ic, mo⟩, loc, glo, cel, qu, fn, cod, some L, bi⟩ : Env) :: outer), gs, un⟩ (.call (.ref 721) ⟨[.ref lx], []⟩) R s := by
  refine t_tok (pos := 0) (st := .none) (tok := Str.ofString "") B F X N T hroom hun o1 o2 o3 o4 o5 hx hd0 hn0 hok0 hls0 hw1 hw2 ?_ hE
  intro h' tk r tr cs' n' ls' ts' tp' ln' tl' tt' e1 e2 e3 e4 e5 F' N'
  cases r with
  | none => exact hN _ _ _ _ _ _ _ _ _ _ e1 e2 e3 e4 e5 F' N'
  | some y => exact hS _ _ _ _ _ _ _ _ _ _ _ _ e1 e2 e3 e4 e5 F' N'
theorem kwC7x1 : True := by
  k_with "call ref" => (k_here; (k_dflt (refine wpAny_call ?_; refine' t_tok3 ?k1zc7b ?k2zc7b ?k3zc7b ?k4zc7b ?k5zc7b ?krzc7b ?kuzc7b ?ko1zc7b ?ko2zc7b ?ko3zc7b ?ko4zc7b ?ko5zc7b ?kxzc7b ?kdzc7b ?knzc7b ?kokzc7b ?klszc7b ?kw1zc7b ?kw2zc7b ?_ ?_ ?_; (case k1zc7b => k_asm); (case k2zc7b => k_asm); (case k3zc7b => k_asm); (case k4zc7b => k_asm); (case k5zc7b => k_asm); (case krzc7b => k_room); (case kuzc7b => k_units); (case ko1zc7b => assumption); (case ko2zc7b => assumption); (case ko3zc7b => assumption); (case ko4zc7b => assumption); (case ko5zc7b => assumption); (case kxzc7b => assumption); (case kdzc7b => assumption); (case knzc7b => assumption); (case kokzc7b => assumption); (case klszc7b => assumption); (case kw1zc7b => assumption); (case kw2zc7b => assumption))) <;> (intros; (try k_sweep); (try dsimp only)))
  trivial
set_option maxRecDepth 100000 in
set_option maxHeartbeats 4000000 in
theorem t_get {p : Program} {loose : List Str} {mean : ExcName → Option Value} {mg mb : Str → Option Value} {w : World} {A₀ : Around} {dep un : Nat} {gs : Option (List Code)} {s : Shared} {base h₀ : Heap} {outer : List Env} {nms : List (Str × NameKind)} {ig ic : Bool} {mo : List (Str × Const)} {loc glo bi : Addr} {cel : List (Str × Addr)} {qu : Str} {fn : Option Addr} {cod : Value} {L : Addr} {m : Str → Option Value} {R : Result → Shared → Prop} {l : LT} {lx dx D ds q1 q2 : Addr} {k1 k2 k3 nl : Tok} {x : Str} {t : Tok} {tp : Tok} {ln : Int} {tl : Tok} {tt : Tok} {n0 : Nat} {ls0 : LS} {ts0 : Tok} {cs0 : List Nat}
    (B : Below A₀ base outer h₀) (F : Fr h₀ L s.heap m) (X : (KF w.params).In h₀) (N : News h₀ L s.heap (lexN w.params l lx dx D ds q1 q2 k1 k2 k3 nl x t (n0 : Nat) tp (ls0.val ts0) ln tl (Str.ofString "") tt)) (T : Top p loose mean mg mb h₀) (hroom : dep + 30 < recursionLimit) (hun : un + 90 < cLine)
    (o1 : dx < lx) (o2 : lx < ds) (o3 : ds < D) (o4 : D < q2) (o5 : q2 < q1) (hx : x.length ≤ 1000) (hd0 : x.cps.toList.drop n0 = cs0) (hn0 : n0 ≤ x.length) (hok0 : lexOk cs0 ls0 = true) (hls0 : ls0 = .sp ∨ ls0 = .no) (hw1 : nin l.wc (Str.ofString "'") = true) (hw2 : nin l.wc (Str.ofString "\"") = true)
    (hN : ∀ h' tk cs' n' ls' ts' tp' ln' tl' tt', rtok cs0 ls0 (Str.ofString "") false = some (ls', cs', none) → x.cps.toList.drop n' = cs' → n' ≤ x.length → lexOk cs' ls' = true → (ls' = .sp ∨ ls' = .no) → Fr h₀ L h' m → News h₀ L h' (lexN w.params l lx dx D ds q1 q2 k1 k2 k3 nl x t (n' : Nat) tp' (ls'.val ts') ln' tl' (Str.ofString "") tt') → R (.ok (.ret .none)) { s with heap := h', toks := tk })
    (hS : ∀ h' tk y tr cs' n' ls' ts' tp' ln' tl' tt', rtok cs0 ls0 (Str.ofString "") false = some (ls', cs', some y) → x.cps.toList.drop n' = cs' → n' ≤ x.length → lexOk cs' ls' = true → (ls' = .sp ∨ ls' = .no) → Fr h₀ L h' m → News h₀ L h' (lexN w.params l lx dx D ds q1 q2 k1 k2 k3 nl x t (n' : Nat) tp' (ls'.val ts') ln' tl' (Str.ofString "") tt') → R (.ok (.ret (.str y tr))) { s with heap := h', toks := tk })
    (hE : rtok cs0 ls0 (Str.ofString "") false = none → ∀ g' h' tk e t te, Fr h₀ L g' m → RaisedS base g' ((⟨⟨.function, nms, ig, ic, mo⟩, loc, glo, cel, qu, fn, cod, some L, bi⟩ : Env) :: outer) e (.type "ValueError") t [.str (Str.ofString "No closing quotation") te] [] h' → g'.UpToSlots h' → R (.error (.ref e)) { s with heap := h', toks := tk }) :
    codeAny (model PySem.Challenge.rw_nq0205_01.prog w) ⟨none, dep, some ((⟨⟨.function, nms, ig, ic, mo⟩, loc, glo, cel, qu, fn, cod, some L, bi⟩ : Env) :: outer), gs, un⟩ (.call (.ref 714) ⟨[.ref lx], []⟩) R s := by
  revert X; k_fill; intro X
  refine' code_def B F X N T rfl rfl rfl ?k6 ?k7 ?k8 ?k9 ?kB ?_ ?c2 ?c3 ?c4 ?c5
  case k6 => k_is
  case k7 => k_is
  case k8 => (show dep < _); omega
  case k9 => exact BindsTo.of_eq rfl
  case c5 => decide
  case kB => exact locs rfl
  case c2 => exact rfl
  case c3 => exact rfl
  case c4 => exact rfl
  intro g' L' h' FG' F' N' B' X' T'
  (try dsimp only)
  (try k_fold)
  replace o1 := ltN o1; replace o2 := ltN o2; replace o3 := ltN o3; replace o4 := ltN o4; replace o5 := ltN o5
  have hx2 : x.length ≤ sizeLine := by rw [sizeLine_eq]; omega
  k_steps
  all_goals first
    | exact hN _ _ _ _ _ _ _ _ _ _ (by assumption) (by assumption) (by assumption) (by assumption) (by assumption) (by assumption) (by assumption)
    | exact hS _ _ _ _ _ _ _ _ _ _ _ _ (by assumption) (by assumption) (by assumption) (by assumption) (by assumption) (by assumption) (by assumption)
    | exact hE (by assumption) _ _ _ _ _ _ (by assumption) (by assumption) (by assumption)
theorem kwC7x2 : True := by
  k_with "call ref" => (k_here; (k_dflt (refine wpAny_call ?_; refine' t_get ?k1z77a ?k2z77a ?k3z77a ?k4z77a ?k5z77a ?krz77a ?kuz77a ?ko1z77a ?ko2z77a ?ko3z77a ?ko4z77a ?ko5z77a ?kxz77a ?kdz77a ?knz77a ?kokz77a ?klsz77a ?kw1z77a ?kw2z77a ?_ ?_ ?_; (case k1z77a => k_asm); (case k2z77a => k_asm); (case k3z77a => k_asm); (case k4z77a => k_asm); (case k5z77a => k_asm); (case krz77a => k_room); (case kuz77a => k_units); (case ko1z77a => assumption); (case ko2z77a => assumption); (case ko3z77a => assumption); (case ko4z77a => assumption); (case ko5z77a => assumption); (case kxz77a => assumption); (case kdz77a => assumption); (case knz77a => assumption); (case kokz77a => assumption); (case klsz77a => assumption); (case kw1z77a => assumption); (case kw2z77a => assumption))) <;> (intros; (try k_sweep); (try dsimp only)))
  trivial
noncomputable def HSub (g h : Heap) : Prop := ∀ b o, g.get? b = some o → h.get? b = some o
theorem GSub.sub {a g h : Heap} {l : List Addr} (G : GSub a g l) (H : HSub g h) : GSub a h l := fun b o e n => H b o (G b o e n)
theorem leaveK_k {h₀ g : Heap} {L L' : Addr} {m m' : Str → Option Value} {news' : List (Addr × Obj)} {R : Result → Shared → Prop} {v : Value} {s' : Shared} (F' : Fr g L' s'.heap m') (N' : News g L' s'.heap news')
    (k : HSub g s'.heap → Fr h₀ L s'.heap m → News h₀ L s'.heap news' → R (.ok (.ret v)) s') : LeaveK h₀ L m g R v s' := ⟨L', m', news', F', N', k F'.keep⟩
theorem kwC7x3 : True := by
  k_with "LeaveK" => (k_dflt (refine' leaveK_k ?k1z0b8 ?k2z0b8 ?_; (case k1z0b8 => k_asm); (case k2z0b8 => k_asm); k_whole); intro kkz0b8 kFz0b8 kNz0b8; (try dsimp only at kkz0b8 kFz0b8 kNz0b8 ⊢))
  trivial
set_option maxRecDepth 100000 in
set_option maxHeartbeats 4000000 in
theorem t_next {p : Program} {loose : List Str} {mean : ExcName → Option Value} {mg mb : Str → Option Value} {w : World} {A₀ : Around} {dep un : Nat} {gs : Option (List Code)} {s : Shared} {base h₀ : Heap} {outer : List Env} {nms : List (Str × NameKind)} {ig ic : Bool} {mo : List (Str × Const)} {loc glo bi : Addr} {cel : List (Str × Addr)} {qu : Str} {fn : Option Addr} {cod : Value} {L : Addr} {m : Str → Option Value} {R : Result → Shared → Prop} {l : LT} {lx dx D ds q1 q2 : Addr} {k1 k2 k3 nl : Tok} {x : Str} {t : Tok} {tp : Tok} {ln : Int} {tl : Tok} {tt : Tok} {n0 : Nat} {ls0 : LS} {ts0 : Tok} {cs0 : List Nat}
    (B : Below A₀ base outer h₀) (F : Fr h₀ L s.heap m) (X : (KF w.params).In h₀) (N : News h₀ L s.heap (lexN w.params l lx dx D ds q1 q2 k1 k2 k3 nl x t (n0 : Nat) tp (ls0.val ts0) ln tl (Str.ofString "") tt)) (T : Top p loose mean mg mb h₀) (hroom : dep + 35 < recursionLimit) (hun : un + 105 < cLine)
    (o1 : dx < lx) (o2 : lx < ds) (o3 : ds < D) (o4 : D < q2) (o5 : q2 < q1) (hx : x.length ≤ 1000) (hd0 : x.cps.toList.drop n0 = cs0) (hn0 : n0 ≤ x.length) (hok0 : lexOk cs0 ls0 = true) (hls0 : ls0 = .sp ∨ ls0 = .no) (hw1 : nin l.wc (Str.ofString "'") = true) (hw2 : nin l.wc (Str.ofString "\"") = true)
    (hN : ∀ g' h' tk e et cs' n' ls' ts' tp' ln' tl' tt', rtok cs0 ls0 (Str.ofString "") false = some (ls', cs', none) → Fr h₀ L g' m → GSub s.heap g' [q1, q2, D, ds, lx, dx] → RaisedS base g' ((⟨⟨.function, nms, ig, ic, mo⟩, loc, glo, cel, qu, fn, cod, some L, bi⟩ : Env) :: outer) e (.type "StopIteration") et [] (lexN w.params l lx dx D ds q1 q2 k1 k2 k3 nl x t (n' : Nat) tp' (ls'.val ts') ln' tl' (Str.ofString "") tt') h' → g'.UpToSlots h' → R (.error (.ref e)) { s with heap := h', toks := tk })
    (hS : ∀ h' tk y tr cs' n' ls' ts' tp' ln' tl' tt', rtok cs0 ls0 (Str.ofString "") false = some (ls', cs', some y) → x.cps.toList.drop n' = cs' → n' ≤ x.length → lexOk cs' ls' = true → (ls' = .sp ∨ ls' = .no) → Fr h₀ L h' m → News h₀ L h' (lexN w.params l lx dx D ds q1 q2 k1 k2 k3 nl x t (n' : Nat) tp' (ls'.val ts') ln' tl' (Str.ofString "") tt') → GSub s.heap h' [q1, q2, D, ds, lx, dx] → R (.ok (.ret (.str y tr))) { s with heap := h', toks := tk })
    (hE : rtok cs0 ls0 (Str.ofString "") false = none → ∀ g' h' tk e t te, Fr h₀ L g' m → RaisedS base g' ((⟨⟨.function, nms, ig, ic, mo⟩, loc, glo, cel, qu, fn, cod, some L, bi⟩ : Env) :: outer) e (.type "ValueError") t [.str (Str.ofString "No closing quotation") te] [] h' → g'.UpToSlots h' → R (.error (.ref e)) { s with heap := h', toks := tk }) :
    codeAny (model PySem.Challenge.rw_nq0205_01.prog w) ⟨none, dep, some ((⟨⟨.function, nms, ig, ic, mo⟩, loc, glo, cel, qu, fn, cod, some L, bi⟩ : Env) :: outer), gs, un⟩ (.call (.ref 750) ⟨[.ref lx], []⟩) R s := by
  revert X; k_fill; intro X
  refine' code_defG B F X N T rfl rfl rfl ?k6 ?k7 ?k8 ?k9 ?kB ?_ ?c2 ?c3 ?c4 ?c5
  case k6 => k_is
  case k7 => k_is
  case k8 => (show dep < _); omega
  case k9 => exact BindsTo.of_eq rfl
  case c5 => decide
  case kB => exact locs rfl
  case c2 => exact rfl
  case c3 => exact rfl
  case c4 => exact rfl
  intro g' L' h' FG' F' N' B' X' T' kG'
  (try dsimp only)
  (try k_fold)
  replace o1 := ltN o1; replace o2 := ltN o2; replace o3 := ltN o3; replace o4 := ltN o4; replace o5 := ltN o5
  have hx2 : x.length ≤ sizeLine := by rw [sizeLine_eq]; omega
  k_steps
  all_goals first
    | exact hN _ _ _ _ _ _ _ _ _ _ _ _ _ (by assumption) (by assumption) kG' (by assumption) (by assumption)
    | exact hS _ _ _ _ _ _ _ _ _ _ _ _ (by assumption) (by assumption) (by assumption) (by assumption) (by assumption) (by assumption) (by assumption) (GSub.sub kG' (by assumption))
    | exact hE (by assumption) _ _ _ _ _ _ (by assumption) (by assumption) (by assumption)
end Mine
end PartC7
theorem Mine.flushC8 : True := by
  w_top off
  trivial
section PartC8
open PySem PySem.W PyProof.Rows PySem.Calls
set_option Elab.async false
namespace Mine
theorem kwC8x0 : True := by
  k_with_none
  k_with "size_fits" => first | (with_reducible assumption) | ((try simp only [PySem.Str.length_append, sizeLine_eq]); omega)
  k_with "k_room" => ((try simp only [depth_under_make, depth_under_kw, depth_in1, depth_deeper, depth_caller, depth_mark]); omega)
  k_with "k_units" => ((try simp only [units_under_kw, units_in1, units_deeper, units_caller, Around.mark_units]); omega)
  k_with "call type:collections.deque" => (k_here; k_dflt (refine' t_deque ?k1z6a6 ?k2z6a6 ?k3z6a6 ?_; (case k1z6a6 => k_asm); (case k2z6a6 => k_asm); (case k3z6a6 => k_asm)); intro x'z6a6 h'z6a6 F'z6a6 N'z6a6 l1z6a6; (try k_lt l1z6a6); (try k_sweep); (try dsimp only))
  k_with "truthy ref" => (k_here; k_dflt (refine' truthy_dq ?k1zd64 ?k2zd64 ?k3zd64 ?mzd64 ?_; (case k1zd64 => k_asm); (case k2zd64 => k_asm); (case k3zd64 => k_asm); (case mzd64 => k_mem)); intro tk'zd64; (try dsimp only))
  k_with "exec If" => refine wpAny_If ?_
  k_with "ite" => first | with_reducible refine ite_t (by assumption) ?_ | with_reducible refine ite_f (by assumption) ?_ | (k_closed; first | refine ite_t (by decide +kernel) ?_ | refine ite_f (by decide +kernel) ?_)
  k_with "leaving ref" => (k_here; first
    | (refine' leave_onS ?k1zf95 ?k2zf95 ?k3zf95 ?k4zf95 ?_; (case k3zf95 => assumption); (case k2zf95 => assumption); (case k1zf95 => assumption); (case k4zf95 => assumption); k_whole; intro h'zf95 S'zf95 R'zf95 U'zf95; clear R'zf95; (try dsimp only at S'zf95 U'zf95 ⊢))
    | (refine' leave_raiseS ?k1zf95 ?k0zf95 ?k2zf95 ?k3zf95 ?_; (case k0zf95 => first | assumption | exact Heap.MadeExc.of (by assumption)); (case k2zf95 => assumption); (case k1zf95 => assumption); (case k3zf95 => k_asm); k_whole; intro h'zf95 t'zf95 S'zf95 R'zf95 U'zf95; clear R'zf95; (try dsimp only at S'zf95 U'zf95 ⊢)))
  k_with "truthy str" => refine SBL.truthy (by omega) ?_
  k_with "LeaveK" => (k_dflt (refine' leaveK_k ?k1z0b8 ?k2z0b8 ?_; (case k1z0b8 => k_asm); (case k2z0b8 => k_asm); k_whole); intro kkz0b8 kFz0b8 kNz0b8; (try dsimp only at kkz0b8 kFz0b8 kNz0b8 ⊢))
  trivial
set_option maxRecDepth 100000 in
set_option maxHeartbeats 4000000 in
theorem t_iter {p : Program} {loose : List Str} {mean : ExcName → Option Value} {mg mb : Str → Option Value} {w : World} {A₀ : Around} {dep un : Nat} {gs : Option (List Code)} {s : Shared} {base h₀ : Heap} {outer : List Env} {nms : List (Str × NameKind)} {ig ic : Bool} {mo : List (Str × Const)} {loc glo bi : Addr} {cel : List (Str × Addr)} {qu : Str} {fn : Option Addr} {cod : Value} {L : Addr} {m : Str → Option Value} {R : Result → Shared → Prop} {l : LT} {lx dx D ds q1 q2 : Addr} {k1 k2 k3 nl : Tok} {x : Str} {t : Tok} {tp : Tok} {ln : Int} {tl : Tok} {tt : Tok} {n0 : Nat} {ls0 : LS} {ts0 : Tok} {cs0 : List Nat}
    (B : Below A₀ base outer h₀) (F : Fr h₀ L s.heap m) (X : (KF w.params).In h₀) (N : News h₀ L s.heap (lexN w.params l lx dx D ds q1 q2 k1 k2 k3 nl x t (n0 : Nat) tp (ls0.val ts0) ln tl (Str.ofString "") tt)) (T : Top p loose mean mg mb h₀) (hroom : dep + 5 < recursionLimit) (hun : un + 15 < cLine)
    (o1 : dx < lx) (o2 : lx < ds) (o3 : ds < D) (o4 : D < q2) (o5 : q2 < q1) (hx : x.length ≤ 1000) (h : ∀ h' tk, Fr h₀ L h' m → News h₀ L h' (lexN w.params l lx dx D ds q1 q2 k1 k2 k3 nl x t (n0 : Nat) tp (LS.val ts0 ls0) ln tl (Str.ofString "") tt) → GSub s.heap h' [q1, q2, D, ds, lx, dx] → R (.ok (.ret (.ref lx))) { s with heap := h', toks := tk }) :
    codeAny (model PySem.Challenge.rw_nq0205_01.prog w) ⟨none, dep, some ((⟨⟨.function, nms, ig, ic, mo⟩, loc, glo, cel, qu, fn, cod, some L, bi⟩ : Env) :: outer), gs, un⟩ (.call (.ref 743) ⟨[.ref lx], []⟩) R s := by
  revert X; k_fill; intro X
  refine' code_defG B F X N T rfl rfl rfl ?k6 ?k7 ?k8 ?k9 ?kB ?_ ?c2 ?c3 ?c4 ?c5
  case k6 => k_is
  case k7 => k_is
  case k8 => (show dep < _); omega
  case k9 => exact BindsTo.of_eq rfl
  case c5 => decide
  case kB => exact locs rfl
  case c2 => exact rfl
  case c3 => exact rfl
  case c4 => exact rfl
  intro g' L' h' FG' F' N' B' X' T' kG'
  (try dsimp only)
  (try k_fold)
  replace o1 := ltN o1; replace o2 := ltN o2; replace o3 := ltN o3; replace o4 := ltN o4; replace o5 := ltN o5
  have hx2 : x.length ≤ sizeLine := by rw [sizeLine_eq]; omega
  k_steps
  exact h _ _ (by assumption) (by assumption) (GSub.sub kG' (by assumption))
/-- the words that split tells of a text; none: no closing mark -/
inductive Toks : List Nat → LS → Option (List Str) → Prop
  | stop {cs ls cs' ls'} : rtok cs ls (Str.ofString "") false = some (ls', cs', none) → Toks cs ls (some [])
  | more {cs ls cs' ls' y r} : rtok cs ls (Str.ofString "") false = some (ls', cs', some y) → Toks cs' ls' r → Toks cs ls (r.map (y :: ·))
  | fail {cs ls} : rtok cs ls (Str.ofString "") false = none → Toks cs ls none
noncomputable def mu (cs : List Nat) (ls : LS) : Nat := cs.length + (if ls = .no then 0 else 1)
theorem rtok_mu : ∀ (cs : List Nat) (ls : LS) (tok : Str) (q : Bool) (ls' : LS) (cs' : List Nat) (r : Option Str), ls ≠ .no → rtok cs ls tok q = some (ls', cs', r) → mu cs' ls' < cs.length + 1
  | [], .sp, tok, q, ls', cs', r, _, h => by simp only [rtok, Option.some.injEq, Prod.mk.injEq] at h; obtain ⟨rfl, rfl, _⟩ := h; simp [mu]
  | [], .a, tok, q, ls', cs', r, _, h => by simp only [rtok, Option.some.injEq, Prod.mk.injEq] at h; obtain ⟨rfl, rfl, _⟩ := h; simp [mu]
  | [], .q, tok, q, ls', cs', r, _, h => by simp [rtok] at h
  | [], .d, tok, q, ls', cs', r, _, h => by simp [rtok] at h
  | cs, .no, _, _, _, _, _, n, _ => absurd rfl n
  | c :: cs, .sp, tok, q, ls', cs', r, _, h => by
    have i := rtok_mu cs
    simp only [rtok] at h
    split at h
    · exact Nat.lt_succ_of_lt (i _ _ _ _ _ _ (by simp) h)
    · split at h
      · exact Nat.lt_succ_of_lt (i _ _ _ _ _ _ (by simp) h)
      · split at h <;> exact Nat.lt_succ_of_lt (i _ _ _ _ _ _ (by simp) h)
  | c :: cs, .a, tok, q, ls', cs', r, _, h => by
    have i := rtok_mu cs
    simp only [rtok] at h
    split at h
    · simp only [Option.some.injEq, Prod.mk.injEq] at h; obtain ⟨rfl, rfl, _⟩ := h; simp [mu]
    · split at h
      · exact Nat.lt_succ_of_lt (i _ _ _ _ _ _ (by simp) h)
      · split at h <;> exact Nat.lt_succ_of_lt (i _ _ _ _ _ _ (by simp) h)
  | c :: cs, .q, tok, q, ls', cs', r, _, h => by
    have i := rtok_mu cs
    simp only [rtok] at h
    split at h <;> exact Nat.lt_succ_of_lt (i _ _ _ _ _ _ (by simp) h)
  | c :: cs, .d, tok, q, ls', cs', r, _, h => by
    have i := rtok_mu cs
    simp only [rtok] at h
    split at h <;> exact Nat.lt_succ_of_lt (i _ _ _ _ _ _ (by simp) h)
theorem rtok_less {cs cs' : List Nat} {ls ls' : LS} {y : Str} (h : rtok cs ls (Str.ofString "") false = some (ls', cs', some y)) : mu cs' ls' < mu cs ls := by
  by_cases e : ls = .no
  · subst e
    have : rtok cs .no (Str.ofString "") false = some (.no, cs, finT (Str.ofString "") false) := by cases cs <;> rfl
    rw [this] at h
    simp [finT] at h
  · have := rtok_mu _ _ _ _ _ _ _ e h
    simp only [mu, if_neg e] at this ⊢
    exact this
/-- a list's items are these texts -/
noncomputable def StrsAre : List Value → List Str → Prop
  | [], [] => True
  | v :: vs, y :: ys => (∃ t, v = .str y t) ∧ StrsAre vs ys
  | _, _ => False
theorem StrsAre.snoc : ∀ {vs : List Value} {ys : List Str} {y : Str} {t : Tok}, StrsAre vs ys → StrsAre (vs ++ [.str y t]) (ys ++ [y])
  | [], [], y, t, _ => ⟨⟨t, rfl⟩, trivial⟩
  | v :: vs, z :: ys, y, t, h => ⟨h.1, StrsAre.snoc h.2⟩
theorem StrsAre.length : ∀ {vs : List Value} {ys : List Str}, StrsAre vs ys → vs.length = ys.length
  | [], [], _ => rfl
  | v :: vs, z :: ys, h => by rw [List.length_cons, List.length_cons, StrsAre.length h.2]
theorem stop_S {A₀ : Around} {base h₀ : Heap} {outer : List Env} {nms : List (Str × NameKind)} {ig ic : Bool} {mo : List (Str × Const)} {loc glo bi : Addr} {cel : List (Str × Addr)} {qu : Str} {fn : Option Addr} {cod : Value} {L : Addr} {m : Str → Option Value} {M : Model} {A : Around} {Q : Option Value → Shared → Prop} {E : Value → Shared → Prop} {s : Shared} {G : Heap} {e et : Addr} {vs : List Value} {news : List (Addr × Obj)}
    (R : RaisedS base G ((⟨⟨.function, nms, ig, ic, mo⟩, loc, glo, cel, qu, fn, cod, some L, bi⟩ : Env) :: outer) e (.type "StopIteration") et vs news s.heap) (F : Fr h₀ L G m) (K : Below A₀ base outer h₀) (hsm : G.UpToSlots s.heap)
    (k : ∀ g', KtsTurn (outer.filterMap (·.frame)) h₀ g' → Fr g' L s.heap m → News g' L s.heap news → Below A₀ base outer g' → (∀ b o, G.get? b = some o → b ≠ L → b ∉ outer.filterMap (·.frame) → s.heap.get? b = some o) → Q none s) : OwitStop M A Q E (.ref e) s := by
  obtain ⟨⟨B, hB, hBG, hl, hfl, hnew⟩, htup⟩ := R
  have hL : B.get? L = none := by
    obtain ⟨_, ⟨L', _, hf, hn', _⟩, _⟩ := hfl.2.2.1
    obtain rfl : L = L' := Option.some.inj hf
    exact hn'
  obtain ⟨ob, hob, hobc⟩ := hfl.there
  have hT : s.TypeIs (.ref e) "StopIteration" := ⟨ob, hob, hobc⟩
  obtain ⟨g', T₆, F₆, K₆⟩ := kts_ground (name := qu) (scope := ⟨.function, nms, ig, ic, mo⟩) (a := 0) (cd := cod) K F hBG hfl.1 hsm
  unfold OwitStop
  refine wpAny_isInstance (b := true) hT (by rw [isSubtype_type]; kernel_rfl) ?_
  show (if true = true then Q none s else E (.ref e) s)
  rw [if_pos rfl]
  refine k g' T₆ F₆ (fun q hq => ⟨hfl.1 _ _ (hl q hq).1, (fun z => by have := (hl q hq).1; rw [z, hL] at this; cases this), T₆.none_ _ (kts_none F.keep (hl q hq).2.1)⟩) K₆ fun b o e1 e2 e3 => hfl.1 b o (hBG b o e1 fun hm => ?_)
  rcases kts_mem (name := qu) (scope := ⟨.function, nms, ig, ic, mo⟩) (a := 0) (cd := cod) hm with z | z
  · exact e2 z
  · exact e3 z
theorem nostop_S {base : Heap} {outer : List Env} {nms : List (Str × NameKind)} {ig ic : Bool} {mo : List (Str × Const)} {loc glo bi : Addr} {cel : List (Str × Addr)} {qu : Str} {fn : Option Addr} {cod : Value} {L : Addr} {M : Model} {A : Around} {Q : Option Value → Shared → Prop} {E : Value → Shared → Prop} {s : Shared} {G : Heap} {e et : Addr} {vs : List Value} {news : List (Addr × Obj)}
    (R : RaisedS base G ((⟨⟨.function, nms, ig, ic, mo⟩, loc, glo, cel, qu, fn, cod, some L, bi⟩ : Env) :: outer) e (.type "ValueError") et vs news s.heap) (k : E (.ref e) s) : OwitStop M A Q E (.ref e) s := by
  obtain ⟨⟨B, hB, hBG, hl, hfl, hnew⟩, htup⟩ := R
  obtain ⟨ob, hob, hobc⟩ := hfl.there
  have hT : s.TypeIs (.ref e) "ValueError" := ⟨ob, hob, hobc⟩
  unfold OwitStop
  refine wpAny_isInstance (b := false) hT (by rw [isSubtype_type]; kernel_rfl) ?_
  show (if false = true then Q none s else E (.ref e) s)
  rw [if_neg (by decide)]
  exact k
noncomputable abbrev lstO (items : Array Value) (c : Nat) : Obj := { cls := .type "list", dict := none, data := .seq items c, slots := #[] }
theorem pk_next (w : World) : findIn (KF w.params) (.ref 753) "__next__" = some (some (.ref 750)) := by kernel_rfl
theorem pk_nextF (w : World) : isFn (KF w.params) (.ref 750) = true := by kernel_rfl
theorem pk_iter (w : World) : findIn (KF w.params) (.ref 753) "__iter__" = some (some (.ref 743)) := by kernel_rfl
theorem pk_iterF (w : World) : isFn (KF w.params) (.ref 743) = true := by kernel_rfl
set_option maxHeartbeats 4000000 in
theorem ext_loop {p : Program} {loose : List Str} {mean : ExcName → Option Value} {mg mb : Str → Option Value} {w : World} {A₀ : Around} {dep un : Nat} {gs : Option (List Code)} {base h₀ : Heap} {outer : List Env} {nms : List (Str × NameKind)} {ig ic : Bool} {mo : List (Str × Const)} {loc glo bi : Addr} {cel : List (Str × Addr)} {qu : Str} {fn : Option Addr} {cod : Value} {L : Addr} {m : Str → Option Value} {l : LT} {lx dx D ds q1 q2 : Addr} {k1 k2 k3 nl : Tok} {x : Str} {t : Tok} {S : Addr} {R : Result → Shared → Prop}
    (B : Below A₀ base outer h₀) (X : (KF w.params).In h₀) (T : Top p loose mean mg mb h₀) (hroom : dep + 40 < recursionLimit) (hun : un + 120 < cLine)
    (o1 : dx < lx) (o2 : lx < ds) (o3 : ds < D) (o4 : D < q2) (o5 : q2 < q1) (hx : x.length ≤ 1000) (hw1 : nin l.wc (Str.ofString "'") = true) (hw2 : nin l.wc (Str.ofString "\"") = true) (hSL : S ≠ L) (hS0 : h₀.get? S = none) (hSa : S ∉ [q1, q2, D, ds, lx, dx]) {cs : List Nat} {ls : LS} {r : Option (List Str)} (TK : Toks cs ls r) :
    ∀ (s : Shared) (acc : Array Value) (c n0 : Nat) (ts tp : Tok) (ln : Int) (tl tt : Tok) (done : List Str), Fr h₀ L s.heap m → News h₀ L s.heap (lexN w.params l lx dx D ds q1 q2 k1 k2 k3 nl x t (n0 : Nat) tp (LS.val ts ls) ln tl (Str.ofString "") tt) → s.heap.get? S = some (lstO acc c) →
      x.cps.toList.drop n0 = cs → n0 ≤ x.length → lexOk cs ls = true → (ls = .sp ∨ ls = .no) → acc.size + mu cs ls ≤ 2000 → StrsAre acc.toList done →
      (∀ ys, r = some ys → ∀ g' h' tk acc' c', KtsTurn (outer.filterMap (·.frame)) h₀ g' → Fr g' L h' m → News g' L h' [(S, lstO acc' c')] → Below A₀ base outer g' → StrsAre acc'.toList (done ++ ys) → R (.ok (.ret .none)) { s with heap := h', toks := tk }) →
      (r = none → ∀ G h' tk e et te, Fr h₀ L G m → RaisedS base G ((⟨⟨.function, nms, ig, ic, mo⟩, loc, glo, cel, qu, fn, cod, some L, bi⟩ : Env) :: outer) e (.type "ValueError") et [.str (Str.ofString "No closing quotation") te] [] h' → G.UpToSlots h' → R (.error (.ref e)) { s with heap := h', toks := tk }) →
      codeAny (model PySem.Challenge.rw_nq0205_01.prog w) ⟨none, dep, some ((⟨⟨.function, nms, ig, ic, mo⟩, loc, glo, cel, qu, fn, cod, some L, bi⟩ : Env) :: outer), gs, un⟩ (.builtin "list.extend.loop" ⟨[.ref S, .ref lx, .none], []⟩) R s := by
  have hSo : ∀ b ∈ outer.filterMap (·.frame), b ≠ S := fun b hb e => by
    obtain ⟨_, o, ho, _⟩ := B.frames.mem hb
    rw [e, hS0] at ho; cases ho
  have go : ∀ (s : Shared) (n0 : Nat) (ls : LS) (ts tp : Tok) (ln : Int) (tl tt : Tok) (Q : Option Value → Shared → Prop) (E : Value → Shared → Prop), Fr h₀ L s.heap m → News h₀ L s.heap (lexN w.params l lx dx D ds q1 q2 k1 k2 k3 nl x t (n0 : Nat) tp (LS.val ts ls) ln tl (Str.ofString "") tt) →
      wpAny (model PySem.Challenge.rw_nq0205_01.prog w) (Around.in1 ⟨none, dep, some ((⟨⟨.function, nms, ig, ic, mo⟩, loc, glo, cel, qu, fn, cod, some L, bi⟩ : Env) :: outer), gs, un⟩) (call (.ref 750) [.ref lx]) (fun v s' => Q (some v) s') (OwitStop (model PySem.Challenge.rw_nq0205_01.prog w) (Around.in1 ⟨none, dep, some ((⟨⟨.function, nms, ig, ic, mo⟩, loc, glo, cel, qu, fn, cod, some L, bi⟩ : Env) :: outer), gs, un⟩) Q E) s → wpAny (model PySem.Challenge.rw_nq0205_01.prog w) (Around.in1 ⟨none, dep, some ((⟨⟨.function, nms, ig, ic, mo⟩, loc, glo, cel, qu, fn, cod, some L, bi⟩ : Env) :: outer), gs, un⟩) (pyNext (.ref lx)) Q E s := fun s n0 ls ts tp ln tl tt Q E F N h =>
    owit_next (K := KF w.params) (C := 753) (ox := instObj 753 dx) (od := some (dictOf (lexE w.params l D q1 q2 (LS.val ts ls) ln tl (Str.ofString "") tt) 19)) F X ⟨(N _ (.tail _ (.tail _ (.tail _ (.tail _ (.head _)))))).1, rfl, rfl, (N _ (.tail _ (.tail _ (.tail _ (.tail _ (.tail _ (.head _))))))).1⟩ (pk_next w) (pk_nextF w) h
  induction TK with
  | stop e0 =>
    intro s acc c n0 ts tp ln tl tt done F N hS hd hn hok hls hz hdone hQ hE
    refine codeAny_builtin PySem.F.entry_extend_loop ?_
    rw [Around.under_plainId PySem.F.plain_extend_loop _]
    show wpAny _ _ (pyNext (.ref lx) >>= _) _ _ s
    refine wpAny_bind (go _ _ _ _ _ _ _ _ _ _ F N (wpAny_call ?_))
    refine t_next B F X N T (by show dep + 35 < _; omega) (by show un + 1 + 105 < _; omega) o1 o2 o3 o4 o5 hx hd hn hok hls hw1 hw2 ?_ ?_ ?_
    · intro g' h' tk e et cs' n' ls' ts' tp' ln' tl' tt' e1 FG G RS U
      refine stop_S RS FG B U fun g'' T6 F6 N6 K6 keep => ?_
      refine wpAny_pure (hQ _ rfl g'' _ _ acc c T6 F6 (fun q hq => ?_) K6 (by rw [List.append_nil]; exact hdone))
      obtain rfl := List.mem_singleton.mp hq
      exact ⟨keep S _ (G S _ hS hSa) hSL (fun hm => hSo _ hm rfl), hSL, T6.none_ _ hS0⟩
    · intro h' tk y tr cs' n' ls' ts' tp' ln' tl' tt' e1
      rw [e0] at e1; cases e1
    · intro e1
      rw [e0] at e1; cases e1
  | @more cs ls cs1 ls1 y1 r1 e0 TK ih =>
    intro s acc c n0 ts tp ln tl tt done F N hS hd hn hok hls hz hdone hQ hE
    refine codeAny_builtin PySem.F.entry_extend_loop ?_
    rw [Around.under_plainId PySem.F.plain_extend_loop _]
    show wpAny _ _ (pyNext (.ref lx) >>= _) _ _ s
    refine wpAny_bind (go _ _ _ _ _ _ _ _ _ _ F N (wpAny_call ?_))
    refine t_next B F X N T (by show dep + 35 < _; omega) (by show un + 1 + 105 < _; omega) o1 o2 o3 o4 o5 hx hd hn hok hls hw1 hw2 ?_ ?_ ?_
    · intro g' h' tk e et cs' n' ls' ts' tp' ln' tl' tt' e1
      rw [e0] at e1; cases e1
    · intro h' tk y tr cs' n' ls' ts' tp' ln' tl' tt' e1 d1 d2 d3 d4 F' N' G
      have hless := rtok_less e0
      rw [e0] at e1
      obtain ⟨rfl, rfl, rfl⟩ : ls' = ls1 ∧ cs' = cs1 ∧ y = y1 := by
        simp only [Option.some.injEq, Prod.mk.injEq] at e1
        exact ⟨e1.1.symm, e1.2.1.symm, e1.2.2.symm⟩
      have hS' := G S _ hS hSa
      show wpAny _ _ (updateSeq S (·.push (.str y tr)) >>= _) _ _ _
      refine wpAny_bind ?_
      refine wpAny_updateSeq hS' rfl (wpAny_pure ⟨plainId_quiet PySem.F.plain_extend_loop _, ?_⟩) (by rw [sizeLine_eq]; omega) (by show (acc.push _).size ≤ sizeLine + 1; rw [Array.size_push, sizeLine_eq]; omega)
      have sb : Heap.SameBut S h' (h'.update S (Obj.mapSeq (·.push (.str y tr)))) := Heap.SameBut.update ..
      refine ih _ (acc.push (.str y tr)) _ n' ts' tp' ln' tl' tt' (done ++ [y]) (F'.change sb hSL hS0) (fun q hq => ⟨sb.extBut _ _ (fun z => hSa (z ▸ List.mem_map_of_mem (f := (·.1)) hq)) (N' q hq).1, (N' q hq).2⟩) (Heap.get?_update_self _ hS' rfl) d1 d2 d3 d4 (by rw [Array.size_push]; omega) (by rw [Array.toList_push]; exact hdone.snoc) ?_ ?_
      · rintro ys rfl g'' h'' tk'' acc' c' a1 a2 a3 a4 a5
        exact hQ (y :: ys) rfl g'' h'' tk'' acc' c' a1 a2 a3 a4 (by rw [List.append_assoc] at a5; exact a5)
      · rintro rfl
        exact hE rfl
    · intro e1
      rw [e0] at e1; cases e1
  | fail e0 =>
    intro s acc c n0 ts tp ln tl tt done F N hS hd hn hok hls hz hdone hQ hE
    refine codeAny_builtin PySem.F.entry_extend_loop ?_
    rw [Around.under_plainId PySem.F.plain_extend_loop _]
    show wpAny _ _ (pyNext (.ref lx) >>= _) _ _ s
    refine wpAny_bind (go _ _ _ _ _ _ _ _ _ _ F N (wpAny_call ?_))
    refine t_next B F X N T (by show dep + 35 < _; omega) (by show un + 1 + 105 < _; omega) o1 o2 o3 o4 o5 hx hd hn hok hls hw1 hw2 ?_ ?_ ?_
    · intro g' h' tk e et cs' n' ls' ts' tp' ln' tl' tt' e1
      rw [e0] at e1; cases e1
    · intro h' tk y tr cs' n' ls' ts' tp' ln' tl' tt' e1
      rw [e0] at e1; cases e1
    · intro _ g' h' tk e et te FG RS U
      exact nostop_S RS (hE rfl _ _ _ _ _ _ FG RS U)
theorem pk_lx_nolen (w : World) : peek (KF w.params) (SET w) (typeLookup (.ref 753) "__len__") = some none := by kernel_rfl
theorem pk_lx_nohint (w : World) : peek (KF w.params) (SET w) (typeLookup (.ref 753) "__length_hint__") = some none := by kernel_rfl
set_option maxHeartbeats 4000000 in
theorem t_list {p : Program} {loose : List Str} {mean : ExcName → Option Value} {mg mb : Str → Option Value} {w : World} {A₀ : Around} {dep un : Nat} {gs : Option (List Code)} {base h₀ : Heap} {outer : List Env} {nms : List (Str × NameKind)} {ig ic : Bool} {mo : List (Str × Const)} {loc glo bi : Addr} {cel : List (Str × Addr)} {qu : Str} {fn : Option Addr} {cod : Value} {L : Addr} {m : Str → Option Value} {l : LT} {lx dx D ds q1 q2 : Addr} {k1 k2 k3 nl : Tok} {x : Str} {t : Tok} {s : Shared} {Q : Value → Shared → Prop} {E : Value → Shared → Prop} {n0 : Nat} {ls : LS} {tp ts : Tok} {ln : Int} {tl tt : Tok}
    (B : Below A₀ base outer h₀) (F : Fr h₀ L s.heap m) (X : (KF w.params).In h₀) (N : News h₀ L s.heap (lexN w.params l lx dx D ds q1 q2 k1 k2 k3 nl x t (n0 : Nat) tp (LS.val ts ls) ln tl (Str.ofString "") tt)) (T : Top p loose mean mg mb h₀) (hroom : dep + 50 < recursionLimit) (hun : un + 150 < cLine)
    (o1 : dx < lx) (o2 : lx < ds) (o3 : ds < D) (o4 : D < q2) (o5 : q2 < q1) (hx : x.length ≤ 1000) (hw1 : nin l.wc (Str.ofString "'") = true) (hw2 : nin l.wc (Str.ofString "\"") = true) {cs : List Nat} {r : Option (List Str)} (TK : Toks cs ls r) (hd : x.cps.toList.drop n0 = cs) (hn : n0 ≤ x.length) (hok : lexOk cs ls = true) (hls : ls = .sp ∨ ls = .no)
    (hQ : ∀ ys, r = some ys → ∀ g' h' tk S acc' c', KtsTurn (outer.filterMap (·.frame)) h₀ g' → Fr g' L h' m → News g' L h' [(S, lstO acc' c')] → Below A₀ base outer g' → StrsAre acc'.toList ys → Q (.ref S) { s with heap := h', toks := tk })
    (hE : r = none → ∀ G h' tk e et te, Fr h₀ L G m → RaisedS base G ((⟨⟨.function, nms, ig, ic, mo⟩, loc, glo, cel, qu, fn, cod, some L, bi⟩ : Env) :: outer) e (.type "ValueError") et [.str (Str.ofString "No closing quotation") te] [] h' → G.UpToSlots h' → E (.ref e) { s with heap := h', toks := tk }) :
    wpAny (model PySem.Challenge.rw_nq0205_01.prog w) ⟨none, dep, some ((⟨⟨.function, nms, ig, ic, mo⟩, loc, glo, cel, qu, fn, cod, some L, bi⟩ : Env) :: outer), gs, un⟩ (call (.type "list") [.ref lx]) Q E s := by
  refine callType_codes (Q₁ := fun obj s₁ => obj = .ref s.heap.objs.size ∧ s₁ = { s with heap := s.heap.push { cls := .type "list", data := .seq #[] } }) PySem.F.called_list (PySem.F.typeCall_list_1 _) PySem.F.entry_list_init
    (code_list_new _ ⟨rfl, rfl⟩) fun obj s₁ h₁ => ?_
  obtain ⟨rfl, rfl⟩ := h₁
  have hS : (s.heap.push { cls := .type "list", data := .seq #[] }).get? s.heap.objs.size = some { cls := .type "list", data := .seq #[] } := Heap.get?_push_size _ rfl
  have hSn : s.heap.get? s.heap.objs.size = none := Heap.get?_none_of_le (Nat.le_refl _)
  have hS0 : h₀.get? s.heap.objs.size = none := by
    cases e : h₀.get? s.heap.objs.size with
    | none => rfl
    | some o => have := F.keep _ _ e; rw [hSn] at this; cases this
  have hSL : s.heap.objs.size ≠ L := Ne.symm (Nat.ne_of_lt F.ns.lt)
  have hSa : s.heap.objs.size ∉ [q1, q2, D, ds, lx, dx] := fun hm => by
    obtain ⟨q, hq, e⟩ := List.mem_map.mp (show s.heap.objs.size ∈ (lexN w.params l lx dx D ds q1 q2 k1 k2 k3 nl x t (n0 : Nat) tp (LS.val ts ls) ln tl (Str.ofString "") tt).map (·.1) from hm)
    have := (N q hq).1
    rw [e, hSn] at this; cases this
  have F1 : Fr h₀ L (s.heap.push { cls := .type "list", data := .seq #[] }) m := F.push _
  have N1 : News h₀ L (s.heap.push { cls := .type "list", data := .seq #[] }) (lexN w.params l lx dx D ds q1 q2 k1 k2 k3 nl x t (n0 : Nat) tp (LS.val ts ls) ln tl (Str.ofString "") tt) := fun q hq => (N.push F _) q (.tail _ hq)
  generalize s.heap.objs.size = S at *
  generalize s.heap.push { cls := .type "list", data := .seq #[] } = H at *
  refine ⟨⟨_, hS, rfl⟩, PySem.F.args_list_init_2 _ _, ?_⟩
  show wpAny _ _ (do let old ← Builtin.List.listItems (.ref S); Builtin.List.listUpdate (.ref S) (fun _ => #[]); letGo old.toList.reverse; Builtin.List.listExtendWith (.ref S) (.ref lx) .none) _ _ _
  refine wpAny_bind ?_
  unfold Builtin.List.listItems
  refine wpAny_bind (wpAny_seqItems hS rfl (wpAny_pure ?_))
  show wpAny _ _ (updateSeq S (fun _ => #[]) >>= fun _ => letGo (#[] : Array Value).toList.reverse >>= fun _ => Builtin.List.listExtendWith (.ref S) (.ref lx) .none) _ _ _
  refine wpAny_bind (wpAny_updateSeq hS rfl ?_)
  have step : ∀ (H : Heap) (f : Array Value → Array Value) (a : Array Value) (c : Nat), H.get? S = some (lstO a c) → Fr h₀ L H m → News h₀ L H (lexN w.params l lx dx D ds q1 q2 k1 k2 k3 nl x t (n0 : Nat) tp (LS.val ts ls) ln tl (Str.ofString "") tt) →
      (∃ c', (H.update S (Obj.mapSeq f)).get? S = some (lstO (f a) c')) ∧ Fr h₀ L (H.update S (Obj.mapSeq f)) m ∧ News h₀ L (H.update S (Obj.mapSeq f)) (lexN w.params l lx dx D ds q1 q2 k1 k2 k3 nl x t (n0 : Nat) tp (LS.val ts ls) ln tl (Str.ofString "") tt) := fun H f a c hS F N => by
    have sb : Heap.SameBut S H (H.update S (Obj.mapSeq f)) := Heap.SameBut.update ..
    exact ⟨⟨_, Heap.get?_update_self _ hS rfl⟩, F.change sb hSL hS0, fun q hq => ⟨sb.extBut _ _ (fun z => hSa (z ▸ List.mem_map_of_mem (f := (·.1)) hq)) (N q hq).1, (N q hq).2⟩⟩
  obtain ⟨⟨c2, hS2⟩, F2, N2⟩ := step H (fun _ => #[]) #[] 0 hS F1 N1
  generalize H.update S (Obj.mapSeq fun _ => #[]) = H2 at *
  refine wpAny_bind (wpAny_letGo ?_)
  have t1 : Looks (model PySem.Challenge.rw_nq0205_01.prog w) H2 (typeOf (.ref lx)) (.ref 753) := (Looks.ld (N2 _ (.tail _ (.tail _ (.tail _ (.tail _ (.head _)))))).1).andThen .now
  have hSx : Builtin.List.listSameRef (.ref S) (.ref lx) = false := by
    have : S ≠ lx := fun e => hSa (by rw [e]; simp)
    simp [Builtin.List.listSameRef, this]
  unfold Builtin.List.listExtendWith
  refine wpAny_bind (t1.here ?_)
  have h2 : (Value.ref 753 == Value.type "list") = false := rfl
  have h3 : (Value.ref 753 == Value.type "tuple") = false := rfl
  simp only [hSx, h2, h3, Bool.or_false, Bool.false_eq_true, if_false]
  refine wpAny_bind (owit_iter (K := KF w.params) (C := 753) (ox := instObj 753 dx) (od := some (dictOf (lexE w.params l D q1 q2 (LS.val ts ls) ln tl (Str.ofString "") tt) 19)) F2 X ⟨(N2 _ (.tail _ (.tail _ (.tail _ (.tail _ (.head _)))))).1, rfl, rfl, (N2 _ (.tail _ (.tail _ (.tail _ (.tail _ (.tail _ (.head _))))))).1⟩ (pk_iter w) (pk_iterF w) (wpAny_call ?_))
  refine t_iter (cs0 := []) B F2 X N2 T (by show dep + 5 < _; omega) (by show un + 1 + 1 + 15 < _; omega) o1 o2 o3 o4 o5 hx ?_
  intro h' tk F3 N3 G3
  have hS3 := G3 S _ hS2 hSa
  refine owit_it (K := KF w.params) (C := 753) (ox := instObj 753 dx) (od := some (dictOf (lexE w.params l D q1 q2 (LS.val ts ls) ln tl (Str.ofString "") tt) 19)) F3 X ⟨(N3 _ (.tail _ (.tail _ (.tail _ (.tail _ (.head _)))))).1, rfl, rfl, (N3 _ (.tail _ (.tail _ (.tail _ (.tail _ (.tail _ (.head _))))))).1⟩ (pk_next w) ?_
  refine wpAny_bind (wpAny_holding ?_)
  have t3 : Looks (model PySem.Challenge.rw_nq0205_01.prog w) h' (typeOf (.ref lx)) (.ref 753) := (Looks.ld (N3 _ (.tail _ (.tail _ (.tail _ (.tail _ (.head _)))))).1).andThen .now
  have i3 := Looks.of_peek (M := model PySem.Challenge.rw_nq0205_01.prog w) (X.keeps F3.keep) (pk_lx_nolen w)
  have i4 := Looks.of_peek (M := model PySem.Challenge.rw_nq0205_01.prog w) (X.keeps F3.keep) (pk_lx_nohint w)
  unfold Builtin.List.listLengthHint specialOf
  refine wpAny_bind (wpAny_bind (t3.here (i3.here ?_)))
  show wpAny _ _ ((typeOf (.ref lx) >>= fun c => typeLookup c "__length_hint__") >>= _) _ _ _
  refine wpAny_bind (wpAny_bind (t3.here (i4.here ?_)))
  refine wpAny_pure ?_
  show wpAny _ _ (rule "list.extend.makes-room" >>= fun _ => Builtin.List.listTouch (.ref S) >>= fun _ => again (.builtin "list.extend.loop" ⟨[.ref S, .ref lx, .none], []⟩)) _ _ _
  refine wpAny_bind (wpAny_rule ?_)
  refine wpAny_bind ?_
  show wpAny _ _ (updateSeq S (·.push .none) >>= fun _ => updateSeq S (·.pop)) _ _ _
  obtain ⟨⟨c4, hS4⟩, F4, N4⟩ := step h' (·.push .none) #[] _ hS3 F3 N3
  refine wpAny_bind (wpAny_updateSeq hS3 rfl ?_)
  generalize h'.update S (Obj.mapSeq (·.push .none)) = H4 at *
  obtain ⟨⟨c5, hS5⟩, F5, N5⟩ := step H4 (·.pop) _ _ hS4 F4 N4
  refine wpAny_updateSeq hS4 rfl ?_
  generalize H4.update S (Obj.mapSeq (·.pop)) = H5 at *
  refine wpAny_pure ⟨plainId_quiet PySem.F.plain_extend_loop _, ?_⟩
  refine ext_loop B X T (by show dep + 40 < _; omega) (by show un + 1 + 120 < _; omega) o1 o2 o3 o4 o5 hx hw1 hw2 hSL hS0 hSa TK _ #[] c5 n0 ts tp ln tl tt [] F5 N5 hS5 hd hn hok hls ?_ trivial ?_ ?_
  · have := congrArg List.length hd
    rw [List.length_drop] at this
    have hx3 : x.cps.toList.length ≤ 1000 := by rw [Array.length_toList]; exact hx
    show 0 + (cs.length + _) ≤ 2000
    split <;> omega
  · rintro ys rfl g' h'' tk'' acc' c' a1 a2 a3 a4 a5
    exact ⟨rfl, hQ ys rfl g' h'' tk'' S acc' c' a1 a2 a3 a4 a5⟩
  · rintro rfl G h'' tk'' e et te a1 a2 a3
    exact hE rfl G h'' tk'' e et te a1 a2 a3
end Mine
end PartC8
theorem Mine.flushC9 : True := by
  w_top off
  trivial
section PartC9
open PySem PySem.W PyProof.Rows PySem.Calls
set_option Elab.async false
namespace Mine

theorem kwC9x0 : True := by
  k_with_none
  k_with "size_fits" => first | (with_reducible assumption) | ((try simp only [PySem.Str.length_append, sizeLine_eq]); omega)
  k_with "k_room" => ((try simp only [depth_under_make, depth_under_kw, depth_in1, depth_deeper, depth_caller, depth_mark]); omega)
  k_with "k_units" => ((try simp only [units_under_kw, units_in1, units_deeper, units_caller, Around.mark_units]); omega)
  k_with "k_all" => (first | (with_reducible assumption) | exact (fun p hp => Nat.ne_of_lt (by first | (with_reducible assumption) | exact (‹∀ p ∈ _, p.1 < _› p hp))))
  k_with "call ref" => (k_here; k_dflt (refine wpAny_call ?_; refine' t_sio ?k1z44b ?k2z44b ?k3z44b ?k4z44b ?k5z44b ?krz44b ?kuz44b ?kxz44b ?_; (case k1z44b => k_asm); (case k2z44b => k_asm); (case k3z44b => k_asm); (case k4z44b => k_asm); (case k5z44b => k_asm); (case krz44b => k_room); (case kuz44b => k_units); (case kxz44b => assumption); k_whole); intro h'z44b tk'z44b D'z44b dx'z44b k1'z44b k2'z44b k3'z44b nl'z44b tp'z44b F'z44b N'z44b l1z44b l2z44b; (try k_lt l1z44b); (try k_lt2 l2z44b); (try k_sweep); (try dsimp only))
  k_with "call type:collections.deque" => (k_here; k_dflt (refine' t_deque ?k1z6a6 ?k2z6a6 ?k3z6a6 ?_; (case k1z6a6 => k_asm); (case k2z6a6 => k_asm); (case k3z6a6 => k_asm)); intro x'z6a6 h'z6a6 F'z6a6 N'z6a6 l1z6a6; (try k_lt l1z6a6); (try k_sweep); (try dsimp only))
  k_with "truthy ref" => (k_here; k_dflt (refine' truthy_dq ?k1zd64 ?k2zd64 ?k3zd64 ?mzd64 ?_; (case k1zd64 => k_asm); (case k2zd64 => k_asm); (case k3zd64 => k_asm); (case mzd64 => k_mem)); intro tk'zd64; (try dsimp only))
  k_with "call type:list" => (k_here; (k_dflt (refine' t_list (l := ⟨_, _, _, _, _, _, _, _, _, _, _, _, _, _, _, _, _, _, _, _, _, _, _, _, _, _, _, _⟩) (n0 := 0) (ls := .sp) ?k1z4c8 ?k2z4c8 ?k3z4c8 ?k4z4c8 ?k5z4c8 ?krz4c8 ?kuz4c8 ?o1z4c8 ?o2z4c8 ?o3z4c8 ?o4z4c8 ?o5z4c8 ?hxz4c8 ?w1z4c8 ?w2z4c8 ?TKz4c8 ?hdz4c8 ?hnz4c8 ?hokz4c8 (Or.inl rfl) ?_ ?_; (case k1z4c8 => k_asm); (case k2z4c8 => k_asm); (case k3z4c8 => k_asm); (case k4z4c8 => first | k_asm | exact News.some6 (by assumption)); (case k5z4c8 => k_asm); (case krz4c8 => k_room); (case kuz4c8 => k_units); (case o1z4c8 => assumption); (case o2z4c8 => assumption); (case o3z4c8 => assumption); (case o4z4c8 => assumption); (case o5z4c8 => assumption); (case hxz4c8 => assumption); (case w1z4c8 => decide +kernel); (case w2z4c8 => decide +kernel); (case TKz4c8 => assumption); (case hdz4c8 => rfl); (case hnz4c8 => exact Nat.zero_le _); (case hokz4c8 => assumption))))
  trivial
set_option maxRecDepth 100000 in
set_option maxHeartbeats 4000000 in
theorem t_split {p : Program} {loose : List Str} {mean : ExcName → Option Value} {mg mb : Str → Option Value} {w : World} {A₀ : Around} {dep un : Nat} {gs : Option (List Code)} {s : Shared} {base h₀ : Heap} {outer : List Env} {cn : Str} {cs : Scope} {a : Addr} {ccd : Value} {L : Addr} {m : Str → Option Value} {R : Result → Shared → Prop} {x : Str} {t : Tok} {r : Option (List Str)}
    (B : Below A₀ base outer h₀) (F : Fr h₀ L s.heap m) (X : (KF w.params).In h₀) (T : Top p loose mean mg mb h₀) (XB : (KF w.params).In base) (TB : Top p loose mean mg mb base) (Dk : KtsDicts (outer.filterMap (·.frame)) h₀) (hroom : dep + 60 < recursionLimit) (hun : un + 180 < cLine) (hck : cs.kind = .function)
    (hx : x.length ≤ 1000) (hok : lexOk x.cps.toList .sp = true) (TK : Toks x.cps.toList .sp r)
    (hQ : ∀ ys, r = some ys → ∀ h₀' h' tk S acc c, KtsTurn (outer.filterMap (·.frame)) h₀ h₀' → Fr h₀' L h' m → News h₀' L h' [(S, lstO acc c)] → Below A₀ base outer h₀' → StrsAre acc.toList ys → R (.ok (.ret (.ref S))) { s with heap := h', toks := tk })
    (hE : r = none → ∀ G h' tk e et te, Fr h₀ L G m → RaisedS base G (envOf cn cs L a ccd :: outer) e (.type "ValueError") et [.str (Str.ofString "No closing quotation") te] [] h' → G.UpToSlots h' → R (.error (.ref e)) { s with heap := h', toks := tk }) :
    codeAny (model PySem.Challenge.rw_nq0205_01.prog w) ⟨none, dep, some (envOf cn cs L a ccd :: outer), gs, un⟩ (.call (.ref 765) ⟨[.str x t], []⟩) R s := by
  revert X XB; k_fill; intro X XB
  refine' code_defS B F X News.nil T XB TB Dk KtsTurn.refl rfl ?k6 ?k7 ?k8 ?k9 ?kB ?_ hck ?c2 ?c3 ?c4 ?c5
  case k6 => k_is
  case k7 => k_is
  case k8 => (show dep < _); omega
  case k9 => exact binds_K (X.keeps F.keep) rfl (by k_is) rfl rfl rfl
  case c5 => decide
  case kB => exact locs rfl
  case c2 => exact rfl
  case c3 => exact rfl
  case c4 => exact rfl
  intro g' L' h' FG' F' N' B' X' T' D'
  (try dsimp only)
  (try k_fold)
  have hx2 : x.length ≤ sizeLine := by rw [sizeLine_eq]; omega
  k_steps
  rename Fr _ L' _ _ => F1
  rename News _ L' _ _ => N1
  refine t_list (l := ⟨_, _, _, _, _, _, _, _, _, _, _, _, _, _, _, _, _, _, _, _, _, _, _, _, _, _, _, _⟩) (n0 := 0) (ls := .sp) B' F1 X' N1 T' ?kr ?ku ?o1 ?o2 ?o3 ?o4 ?o5 hx ?w1 ?w2 TK rfl (Nat.zero_le _) hok (Or.inl rfl) ?kQ ?kE
  case kr => k_room
  case ku => k_units
  case o1 => first | assumption | exact And.left (by assumption) | exact (by assumption : _ ∧ _ < _ ∧ _).2.1
  case o2 => first | assumption | exact And.left (by assumption) | exact (by assumption : _ ∧ _ < _ ∧ _).2.1
  case o3 => first | assumption | exact And.left (by assumption) | exact (by assumption : _ ∧ _ < _ ∧ _).2.1
  case o4 => first | assumption | exact And.left (by assumption) | exact (by assumption : _ ∧ _ < _ ∧ _).2.1
  case o5 => first | assumption | exact And.left (by assumption) | exact (by assumption : _ ∧ _ < _ ∧ _).2.1
  case w1 => (dsimp only; decide +kernel)
  case w2 => (dsimp only; decide +kernel)
  case kQ =>
    intro ys hr g1 h1 tk1 S acc c T1 F2 N2 K1 HS
    have X2 := XB.keeps K1.stays
    have P2 := TB.keeps K1.stays
    have D2 := D'.turn T1
    clear N1 F1
    k_steps
    exact hQ ys hr _ _ _ _ _ _ (by assumption) (by assumption) (by assumption) (by assumption) HS
  case kE =>
    intro hr G h1 tk1 e et te FG RS U
    k_steps
    exact hE hr _ _ _ _ _ _ (by assumption) (by assumption) (by assumption)
end Mine
end PartC9
theorem Mine.flushC10 : True := by
  w_top off
  trivial
section PartC10
open PySem PySem.W PyProof.Rows PySem.Calls
set_option Elab.async false
namespace Mine

theorem kwC10x0 : True := by
  k_with_none
  k_with "size_fits" => first | (with_reducible assumption) | ((try simp only [PySem.Str.length_append, sizeLine_eq]); omega)
  k_with "k_room" => ((try simp only [depth_under_make, depth_under_kw, depth_in1, depth_deeper, depth_caller, depth_mark]); omega)
  k_with "k_units" => ((try simp only [units_under_kw, units_in1, units_deeper, units_caller, Around.mark_units]); omega)
  k_with "k_all" => (first | (with_reducible assumption) | exact (fun p hp => Nat.ne_of_lt (by first | (with_reducible assumption) | exact (‹∀ p ∈ _, p.1 < _› p hp))))
  k_with "call type:collections.deque" => (k_here; k_dflt (refine' t_deque ?k1z6a6 ?k2z6a6 ?k3z6a6 ?_; (case k1z6a6 => k_asm); (case k2z6a6 => k_asm); (case k3z6a6 => k_asm)); intro x'z6a6 h'z6a6 F'z6a6 N'z6a6 l1z6a6; (try k_lt l1z6a6); (try k_sweep); (try dsimp only))
  k_with "truthy ref" => (k_here; k_dflt (refine' truthy_dq ?k1zd64 ?k2zd64 ?k3zd64 ?mzd64 ?_; (case k1zd64 => k_asm); (case k2zd64 => k_asm); (case k3zd64 => k_asm); (case mzd64 => k_mem)); intro tk'zd64; (try dsimp only))
  trivial
theorem code_defS0G {prog : Program} {w : World} {A₀ A : Around} {s : Shared} {base h₀ : Heap} {L : Addr} {m : Str → Option Value} {env : Env} {K : Frag} {p : Program} {loose : List Str} {mean : ExcName → Option Value} {mg mb : Str → Option Value}
    {R : Result → Shared → Prop} {name qual : Str} {params : Arguments} {body : List Stmt} {scope : Scope} {dV kV doc pm cdv ct oc : Value} {an od : Option Addr} {osl : Array (Option Value)} {f : Addr} {args : Args} {binds : List (Str × Value)}
    (B : Below A₀ base [] h₀) (F : Fr h₀ L s.heap m) (X₀ : K.In h₀) (T : Top p loose mean mg mb h₀) (hA : A.frames = some [env]) (hf : env.frame = some L)
    (ho : K.lookup f = some ⟨oc, od, .func (fnOf name qual params body scope dV kV doc pm an cdv ct), osl⟩) (hcd : codeIn K cdv qual = true) (hroom : A.depth < recursionLimit)
    (hbind : BindsTo s (fnOf name qual params body scope dV kV doc pm an cdv ct) args binds) (hloc : ∀ y ∈ binds, scope.names.lookup y.1 = some .local)
    (h : ∀ g L' h₁, Fr h₀ L g m → Fr g L' h₁ (fun y => binds.reverse.lookup y) → News g L' h₁ [] → Below A base [env] g → K.In g → Top p loose mean mg mb g → KtsDicts ([env].filterMap (·.frame)) g → HSub s.heap g →
      wpAny (model prog w) (A.deeper (envOf qual scope L' f cdv)) (execs body (envOf qual scope L' f cdv))
        (fun fl s' => LeaveS0 ([env].filterMap (·.frame)) h₀ L m g R (match fl with | .ret v => v | _ => .none) s')
        (fun e s' => wpAny (model prog w) (A.deeper (envOf qual scope L' f cdv)) (leaving (envOf qual scope L' f cdv) e) (fun _ s'' => R (.error e) s'') (fun e' s'' => R (.error e') s'') s')
        { s with heap := h₁, toks := s.toks + binds.length })
    (hck : env.scope.kind = .function) (hco : scope.isCoroutine = false) (hgen : scope.isGenerator = false) (hk : scope.kind = .function)
    (hcell : ∀ x ∈ scope.names, x.2 ≠ .cell) : codeAny (model prog w) A (.call (.ref f) args) R s := by
  have X := X₀.keeps F.keep
  have all : ∀ b o, s.heap.get? b = some o → (hideAll s.heap []).get? b = some o := fun b o e => hideAll_get _ e (by simp)
  obtain ⟨FG, B₂, st, _⟩ := groundX (R := R) B F (News.nil (h₀ := h₀) (L := L) (h := s.heap)) hA hf hck
  obtain ⟨oL, es, ep, hLg, hLd, hLk, hLf⟩ := FG.ns
  have hN : ∀ h', h'.get? L = some oL → Heap.Ns h' L m := fun h' e => ⟨oL, es, ep, e, hLd, hLk, hLf⟩
  have hNs : ∀ (sl : Array (Option Value)) h', h'.get? L = some { oL with slots := sl } → Heap.Ns h' L m := fun sl h' e => ⟨_, es, ep, e, hLd, hLk, hLf⟩
  have hfm : [env].filterMap (·.frame) = [L] := by simp [hf]
  refine codeAny_call_def (fd := fnOf name qual params body scope dV kV doc pm an cdv ct) (body := body) (binds := binds) hroom (X _ _ ho) rfl (T.nolimit.keeps F.keep) (codeRec_of X hcd) rfl hbind hcell hloc (fun h₁ hns hk₁ => ?_) hco hgen hk
  have D₂ : KtsDicts ([env].filterMap (·.frame)) (hideAll s.heap []) := fun b hb => by
    have : b = L := by simpa [hfm] using hb
    subst this
    exact ⟨oL, es, ep, hLg, hLd⟩
  have F₂ : Fr (hideAll s.heap []) s.heap.objs.size h₁ (fun y => binds.reverse.lookup y) := ⟨hns, fun b o e => hk₁ b o (of_hideAll _ e), Nat.le_of_eq (hideAll_size _ _)⟩
  refine wpAny_mono (h (hideAll s.heap []) s.heap.objs.size h₁ ⟨hN _ hLg, st, F.above⟩ F₂ News.nil B₂ (X₀.keeps st) (T.keeps st) D₂ all) (fun fl s' hl => ?_) fun _ _ y => y
  obtain ⟨g', L', m', news', T', F', N', k⟩ := hl
  have nL₀ : h₀.get? L = none := kts_self F
  obtain ⟨sl, hs⟩ := T'.up hLg
  have off : ∀ b o, h₀.get? b = some o → b ∉ [env].filterMap (·.frame) := fun b o e q => by
    have : b = L := by simpa [hfm] using q
    rw [this, nL₀] at e; cases e
  refine k ⟨hNs sl _ (F'.keep _ _ hs), fun b o e => F'.keep b o (T'.other b o (st b o e) (off b o e)), F.above⟩ fun q hq => ⟨(N' q hq).1, fun z => ?_, ?_⟩
  · have := (N' q hq).2.2; rw [z, hs] at this; cases this
  · cases e : h₀.get? q.1 with
    | none => rfl
    | some o =>
      have := (N' q hq).2.2
      rw [T'.other _ _ (st _ _ e) (off _ _ e)] at this
      cases this
theorem leaveS0_k {fs : List Addr} {h₀ g g' : Heap} {L L' : Addr} {m m' : Str → Option Value} {news' : List (Addr × Obj)} {R : Result → Shared → Prop} {v : Value} {s' : Shared} (F' : Fr g' L' s'.heap m') (N' : News g' L' s'.heap news') (T : KtsTurn fs g g')
    (k : (∀ b o, g.get? b = some o → b ∉ fs → s'.heap.get? b = some o) → Fr h₀ L s'.heap m → News h₀ L s'.heap news' → R (.ok (.ret v)) s') : LeaveS0 fs h₀ L m g R v s' := ⟨g', L', m', news', T, F', N', k fun b o e n => F'.keep b o (T.other b o e n)⟩
theorem kwC10x1 : True := by
  k_with "LeaveS0" => (k_dflt (refine' leaveS0_k ?Fzbef ?Nzbef ?Tzbef ?_; (case Fzbef => k_asm); (case Nzbef => k_asm); (case Tzbef => first | assumption | exact KtsTurn.refl); k_whole); intro kkzbef kFzbef kNzbef; (try dsimp only at kkzbef kFzbef kNzbef ⊢))
  k_with "call ref" => (k_here; (k_dflt (refine wpAny_call ?_; refine' t_split ?k1z30e ?k2z30e ?k3z30e ?k5z30e ?XBz30e ?TBz30e ?Dz30e ?krz30e ?kuz30e ?hckz30e ?hxz30e ?hokz30e ?TKz30e ?_ ?_; (case k1z30e => k_asm); (case k2z30e => k_asm); (case k3z30e => k_asm); (case k5z30e => k_asm); (case XBz30e => assumption); (case TBz30e => assumption); (case Dz30e => assumption); (case krz30e => k_room); (case kuz30e => k_units); (case hckz30e => exact rfl); (case hxz30e => assumption); (case hokz30e => assumption); (case TKz30e => assumption))) <;> (intros; (try dsimp only)))
  trivial
theorem news_back {h₀ h g h' : Heap} {L : Addr} {env : Env} (hf : env.frame = some L) {news : List (Addr × Obj)} (N : News h₀ L h news) (G : HSub h g) (kk : ∀ b o, g.get? b = some o → b ∉ [env].filterMap (·.frame) → h'.get? b = some o) : News h₀ L h' news :=
  fun q hq => ⟨kk _ _ (G _ _ (N q hq).1) (fun hm => (N q hq).2.1 (by simpa [hf] using hm)), (N q hq).2⟩
theorem News.add {h₀ h : Heap} {L : Addr} {q : Addr × Obj} {news : List (Addr × Obj)} (A : News h₀ L h [q]) (N : News h₀ L h news) : News h₀ L h (q :: news) := fun z hz => by
  rcases List.mem_cons.mp hz with rfl | hz
  · exact A _ (.head _)
  · exact N z hz
set_option maxRecDepth 100000 in
set_option maxHeartbeats 4000000 in
theorem t_said {p : Program} {loose : List Str} {mean : ExcName → Option Value} {mg mb : Str → Option Value} {w : World} {A₀ : Around} {dep un : Nat} {gs : Option (List Code)} {s : Shared} {base h₀ : Heap} {nms : List (Str × NameKind)} {ig ic : Bool} {mo : List (Str × Const)} {loc glo bi : Addr} {cel : List (Str × Addr)} {qu : Str} {fn : Option Addr} {cod : Value} {L : Addr} {m : Str → Option Value} {R : Result → Shared → Prop} {news : List (Addr × Obj)} {x : Str} {t : Tok} {r : Option (List Str)}
    (B : Below A₀ base [] h₀) (F : Fr h₀ L s.heap m) (X : (KF w.params).In h₀) (N : News h₀ L s.heap news) (T : Top p loose mean mg mb h₀) (XB : (KF w.params).In base) (TB : Top p loose mean mg mb base) (hroom : dep + 70 < recursionLimit) (hun : un + 210 < cLine)
    (hx : x.length ≤ 1000) (hok : lexOk x.cps.toList .sp = true) (TK : Toks x.cps.toList .sp r)
    (hQ : ∀ ys, r = some ys → ∀ h' tk S acc c, Fr h₀ L h' m → News h₀ L h' ((S, lstO acc c) :: news) → StrsAre acc.toList ys → R (.ok (.ret (.ref S))) { s with heap := h', toks := tk })
    (hE : r = none → ∀ h' tk te, Fr h₀ L h' m → News h₀ L h' news → R (.ok (.ret (.str (Str.ofString "No closing quotation") te))) { s with heap := h', toks := tk }) :
    codeAny (model PySem.Challenge.rw_nq0205_01.prog w) ⟨none, dep, some [(⟨⟨.function, nms, ig, ic, mo⟩, loc, glo, cel, qu, fn, cod, some L, bi⟩ : Env)], gs, un⟩ (.call (.ref 802) ⟨[.str x t], []⟩) R s := by
  revert X XB; k_fill; intro X XB
  refine' code_defS0G B F X T rfl rfl ?k6 ?k7 ?k8 ?k9 ?kB ?_ rfl ?c2 ?c3 ?c4 ?c5
  case k6 => k_is
  case k7 => k_is
  case k8 => (show dep < _); omega
  case k9 => exact BindsTo.of_eq rfl
  case c5 => decide
  case kB => exact locs rfl
  case c2 => exact rfl
  case c3 => exact rfl
  case c4 => exact rfl
  intro g' L' h' FG' F' N' B' X' T' D' kG'
  (try dsimp only)
  (try k_fold)
  k_steps
  · exact hQ _ (by assumption) _ _ _ _ _ (by assumption) (News.add (by assumption) (news_back rfl N kG' (by assumption))) (by assumption)
  · exact hE (by assumption) _ _ _ (by assumption) (news_back rfl N kG' (by assumption))
end Mine
end PartC10
theorem Mine.flushC11 : True := by
  w_top off
  trivial
section PartC11
open PySem PySem.W PyProof.Rows PySem.Calls
set_option Elab.async false
namespace Mine
theorem kwC11x0 : True := by
  k_with_none
  k_with "size_fits" => first | (with_reducible assumption) | ((try simp only [PySem.Str.length_append, sizeLine_eq]); omega)
  k_with "k_steps" => repeat' (first | (k_unfold; (try dsimp only)) | ((fail_if_success (with_reducible show WhlRest _ _ _ _ _ _ _ _ _ _ _)); (first | walk1 | (dsimp only; walk1))))
  k_with "k_room" => ((try simp only [Around.deeper, Around.mark, depth_under_make, depth_under_kw, depth_in1, depth_deeper, depth_caller, depth_mark]); omega)
  k_with "k_units" => ((try simp only [Around.deeper, Around.mark, units_in1, units_deeper, units_caller, Around.mark_units]); omega)
  k_with "call ref" => (k_here; (k_dflt (refine wpAny_call ?_; refine' t_search ?k1zec4 ?k2zec4 ?k3zec4 ?k4zec4 ?k5zec4 ?_ ?_; (case k1zec4 => k_asm); (case k2zec4 => k_asm); (case k3zec4 => k_asm); (case k4zec4 => first | assumption | (simp only [PySem.Str.length] at *; omega)); (case k5zec4 => assumption))) <;> ((first | (intro hs'zec4 h'zec4 D'zec4 F'zec4 N'zec4; (try k_sweep)) | (intro hs'zec4)); (try dsimp only)))
  k_with "callWith ref" => (k_here; k_dflt (refine callWith_search ?_))
  k_with "LeaveK" => (k_dflt (refine' leaveK_k ?k1z0b8 ?k2z0b8 ?_; (case k1z0b8 => k_asm); (case k2z0b8 => k_asm); k_whole); intro kkz0b8 kFz0b8 kNz0b8; (try dsimp only at kkz0b8 kFz0b8 kNz0b8 ⊢))
  trivial
theorem GSub.nil {a g h : Heap} (G : GSub a g []) (H : HSub g h) : HSub a h := fun b o e => H b o (G b o e (by simp))
set_option maxRecDepth 100000 in
set_option maxHeartbeats 4000000 in
theorem t_quoteG {p : Program} {loose : List Str} {mean : ExcName → Option Value} {mg mb : Str → Option Value} {w : World} {A₀ : Around} {dep un : Nat} {gs : Option (List Code)} {s : Shared} {base h₀ : Heap} {outer : List Env} {nms : List (Str × NameKind)} {ig ic : Bool} {mo : List (Str × Const)} {loc glo bi : Addr} {cel : List (Str × Addr)} {qu : Str} {fn : Option Addr} {cod : Value} {L : Addr} {m : Str → Option Value} {R : Result → Shared → Prop} {x : Str} {t : Tok}
    (B : Below A₀ base outer h₀) (F : Fr h₀ L s.heap m) (X : (KF w.params).In h₀)  (T : Top p loose mean mg mb h₀) (hroom : dep + 9 < recursionLimit) (hun : un + 27 < cLine)
    (hx : x.length ≤ 1000) (h : ∀ h' tk t' v, v = quoteS x → Fr h₀ L h' m → HSub s.heap h' → R (.ok (.ret (.str v t'))) { s with heap := h', toks := tk }) :
    codeAny (model PySem.Challenge.rw_nq0205_01.prog w) ⟨none, dep, some ((⟨⟨.function, nms, ig, ic, mo⟩, loc, glo, cel, qu, fn, cod, some L, bi⟩ : Env) :: outer), gs, un⟩ (.call (.ref 780) ⟨[.str x t], []⟩) R s := by
  revert X; k_fill; intro X
  refine' code_defG B F X News.nil T rfl rfl rfl ?k6 ?k7 ?k8 ?k9 ?kB ?_ ?c2 ?c3 ?c4 ?c5
  case k6 => k_is
  case k7 => k_is
  case k8 => (show dep < _); omega
  case k9 => exact BindsTo.of_eq rfl
  case c5 => decide
  case kB => exact locs rfl
  case c2 => exact rfl
  case c3 => exact rfl
  case c4 => exact rfl
  intro g' L' h' FG' F' N' B' X' T' kG'
  (try dsimp only)
  (try k_fold)
  have hx2 : x.length ≤ sizeLine := by rw [sizeLine_eq]; omega
  have hq1 := qlen1
  have hq5 := qrep_len x
  k_steps
  all_goals first
    | exact h _ _ _ _ (quote_safe (by assumption) (by assumption)) (by assumption) (GSub.nil kG' (by assumption))
    | exact h _ _ _ _ (quote_marked (by assumption) (by assumption)) (by assumption) (GSub.nil kG' (by assumption))
    | exact h _ _ _ _ (quote_none (by assumption)) (by assumption) (GSub.nil kG' (by assumption))
theorem seg_loop {prog : Program} {w : World} {A : Around} {elt iter : Expr} {x : Str} {px : Pos} {scope : Scope} {pos : Pos} {I : Addr} {fp wr : List Addr} {n₀ : Nat} {P : Nat → Value → Prop} {St₀ : Nat → Heap → Prop} {cenv : Env}
    (hh : A.handled = none) (W₀ : ∀ A' : Around, A'.handled = none → Walks prog w A' I fp wr n₀ P St₀) (F : Nat → Value → Prop) (href : Heap)
    (hx : cenv.kindOf x = some .local) (hp : (cenv.scope.kind == .class || (cenv.scope.kind == .module && cenv.locals != cenv.globals)) = false)
    (hco : cenv.scope.isCoroutine = false) (hCf : cenv.locals ∉ fp)
    (hq : ∀ (E' : Value → Shared → Prop) i v (s₂ : Shared) m₂, P i v → s₂.heap.Ns cenv.locals m₂ → m₂ x = some v → (∀ b ∈ fp, b ∉ wr → ∀ o, href.get? b = some o → s₂.heap.get? b = some o) →
      wpAny (model prog w) (A.over (.compLoop (.GeneratorExp elt [⟨.Name x px, iter, [], 0⟩] scope pos) 0 (.ref I) .none cenv) []) (eval elt cenv) (fun y s₃ => F i y ∧ Keeps s₂ s₃) E' s₂) :
    ∀ (k i : Nat) (s₀ s : Shared) (m : Str → Option Value), n₀ - i = k → i ≤ n₀ → St₀ i s.heap → s.heap.Ns cenv.locals m → GenSince cenv.locals wr s₀ s →
      (∀ b ∈ fp, b ∉ wr → ∀ o, href.get? b = some o → s.heap.get? b = some o) →
      Seg (model prog w) A (fun n s₀ r s₁ => r = .ok .next ∧ (n = 0 ∧ GenSince cenv.locals wr s₀ s₁)) (genProto cenv.locals fp wr (fun _ => true) n₀ F) (passing (fun _ => true) n₀ i).length s₀
        (.compLoop (.GeneratorExp elt [⟨.Name x px, iter, [], 0⟩] scope pos) 0 (.ref I) .none cenv)
        ((model prog w).den (.compLoop (.GeneratorExp elt [⟨.Name x px, iter, [], 0⟩] scope pos) 0 (.ref I) .none cenv)) [] s := by
  have hh' : (A.over (.compLoop (.GeneratorExp elt [⟨.Name x px, iter, [], 0⟩] scope pos) 0 (.ref I) .none cenv) []).handled = none := hh
  have hCw : cenv.locals ∉ wr := fun h => hCf ((W₀ A hh).sub _ h)
  have hy : ∀ v, yieldOut cenv v = yieldValue v := fun v => by simp only [yieldOut, hco, Bool.false_eq_true, if_false]
  intro k
  induction k with
  | zero =>
    intro i s₀ s m hk hi hst hn hsince hkp
    obtain rfl : i = n₀ := by omega
    show Seg _ A _ _ _ s₀ _ ((compTurn (.GeneratorExp elt [⟨.Name x px, iter, [], 0⟩] scope pos) 0 (.ref I) .none cenv).onRaise (leaving cenv)) [] s
    rw [compTurn_gen, Sem.onRaise_eq_wrap]
    refine seg_bind_wrap (wpAny_standAt (seg_bind_wrap ((W₀ _ hh').done s _ _ hst fun h' tk hk' => ?_)))
    exact seg_end (.ok .next) ⟨rfl, by rw [passing_end]; rfl, hsince.step fun b o _ hw e => hk' b o hw e⟩
  | succ k ih =>
    intro i s₀ s m hk hi hst hn hsince hkp
    have hlt : i < n₀ := by omega
    show Seg _ A _ _ _ s₀ _ ((compTurn (.GeneratorExp elt [⟨.Name x px, iter, [], 0⟩] scope pos) 0 (.ref I) .none cenv).onRaise (leaving cenv)) [] s
    rw [compTurn_gen, Sem.onRaise_eq_wrap]
    refine seg_bind_wrap (wpAny_standAt (seg_bind_wrap ((W₀ _ hh').item i s _ _ hlt hst fun v h₁ tk₁ hPv hst₁ hk₁ => ?_)))
    refine seg_bind_wrap (wpAny_of_eq (rfl : letOwnedTupleGo (.Name x px) (.ref I) v = pure ()) ?_)
    refine seg_bind_wrap (wpAny_assign_Name (wpAny_storeName_local hx (hn.at' fun o e => hk₁ _ o hCw e) (fun h₂ hn₂ hs₂ => ?_) hp))
    have up₂ : ∀ b o, b ≠ cenv.locals → b ∉ wr → s.heap.get? b = some o → h₂.get? b = some o := fun b o hbC hbw e => hs₂.extBut b o hbC (hk₁ b o hbw e)
    have hst₂ : St₀ (i + 1) h₂ := (W₀ A hh).frame _ _ _ hst₁ fun b hb o e => hs₂.extBut b o (fun h => hCf (h ▸ hb)) e
    have hkp₂ : ∀ b ∈ fp, b ∉ wr → ∀ o, href.get? b = some o → h₂.get? b = some o := fun b hb hbw o e => up₂ b o (fun h => hCf (h ▸ hb)) hbw (hkp b hb hbw o e)
    refine seg_bind_wrap (wpAny_of_eq rfl ?_)
    rw [passing_true hlt rfl, List.length_cons]
    simp only [if_true, hy]
    rw [Sem.bind_eq_wrap', Sem.bind_eq_wrap', Sem.wrap_wrap, Sem.wrap_wrap]
    refine seg_wrap (wpAny_mono (hq _ i v _ _ hPv hn₂ (by simp) hkp₂) (fun y s₄ h₄ => ?_) fun _ _ e => e)
    obtain ⟨hFy, h₄, tk₄, rfl, hk₄⟩ := h₄
    refine seg_at (seg_yield rfl rfl rfl ⟨⟨i, passing_here hlt rfl, hFy⟩, hsince.step fun b o hbC hbw e => hk₄ b o (up₂ b o hbC hbw e), fun s'' hal => ?_⟩)
    refine seg_again rfl (ih (i + 1) s'' s'' _ (by omega) hlt ((W₀ A hh).frame _ _ _ hst₂ fun b hb o e => hal b (List.mem_cons_of_mem _ hb) o (hk₄ b o e))
      ((hn₂.keeps hk₄).at' fun o e => hal _ (List.mem_cons_self ..) o e) (GenSince.refl _ _ _) fun b hb hbw o e => hal b (List.mem_cons_of_mem _ hb) o (hk₄ b o (hkp₂ b hb hbw o e)))
theorem seg_start {prog : Program} {w : World} {A : Around} {elt iter : Expr} {x : Str} {px : Pos} {scope : Scope} {pos : Pos} {I : Addr} {fp wr : List Addr} {n₀ : Nat} {P : Nat → Value → Prop} {St₀ : Nat → Heap → Prop} {cenv : Env}
    (hh : A.handled = none) (W₀ : ∀ A' : Around, A'.handled = none → Walks prog w A' I fp wr n₀ P St₀) (F : Nat → Value → Prop) (href : Heap)
    (hx : cenv.kindOf x = some .local) (hp : (cenv.scope.kind == .class || (cenv.scope.kind == .module && cenv.locals != cenv.globals)) = false)
    (hco : cenv.scope.isCoroutine = false) (hCf : cenv.locals ∉ fp)
    (hq : ∀ (E' : Value → Shared → Prop) i v (s₂ : Shared) m₂, P i v → s₂.heap.Ns cenv.locals m₂ → m₂ x = some v → (∀ b ∈ fp, b ∉ wr → ∀ o, href.get? b = some o → s₂.heap.get? b = some o) →
      wpAny (model prog w) (A.over (.compLoop (.GeneratorExp elt [⟨.Name x px, iter, [], 0⟩] scope pos) 0 (.ref I) .none cenv) []) (eval elt cenv) (fun y s₃ => F i y ∧ Keeps s₂ s₃) E' s₂)
    (s₀ s : Shared) (m : Str → Option Value) (hst : St₀ 0 s.heap) (hn : s.heap.Ns cenv.locals m) (hsince : GenSince cenv.locals wr s₀ s)
    (hkp : ∀ b ∈ fp, b ∉ wr → ∀ o, href.get? b = some o → s.heap.get? b = some o) :
    Seg (model prog w) A (fun n s₀ r s₁ => r = .ok .next ∧ (n = 0 ∧ GenSince cenv.locals wr s₀ s₁)) (genProto cenv.locals fp wr (fun _ => true) n₀ F) (passing (fun _ => true) n₀ 0).length s₀
      (.compStart (.GeneratorExp elt [⟨.Name x px, iter, [], 0⟩] scope pos) 0 (.ref I) .none cenv)
      ((model prog w).den (.compStart (.GeneratorExp elt [⟨.Name x px, iter, [], 0⟩] scope pos) 0 (.ref I) .none cenv)) [] s := by
  have hh' : (A.over (.compStart (.GeneratorExp elt [⟨.Name x px, iter, [], 0⟩] scope pos) 0 (.ref I) .none cenv) []).handled = none := hh
  have loop := seg_loop (iter := iter) (px := px) (scope := scope) (pos := pos) hh W₀ F href hx hp hco hCf hq n₀ 0 s₀ s m (Nat.sub_zero _) (Nat.zero_le _) hst hn hsince hkp
  show Seg _ A _ _ _ s₀ _ ((compStart (.GeneratorExp elt [⟨.Name x px, iter, [], 0⟩] scope pos) 0 (.ref I) .none cenv).onRaise (leaving cenv)) [] s
  unfold compStart
  rw [Sem.onRaise_eq_wrap]
  show Seg _ A _ _ _ s₀ _ ((ask >>= _).wrap _ _ _ _) [] s
  refine seg_bind_wrap (wpAny_askSetting ?_)
  split
  · exact seg_again rfl loop
  · first
      | exact seg_bind_wrap (wpAny_rule (seg_bind_wrap (wpAny_standAt (seg_bind_wrap ((W₀ _ hh').self 0 s _ _ hst (seg_again rfl loop))))))
      | (refine seg_bind_wrap (wpAny_rule ?_); show Seg _ A _ _ _ s₀ _ ((standAt iter.pos >>= _).wrap _ _ _ _) [] s; exact seg_bind_wrap (wpAny_standAt (seg_bind_wrap ((W₀ _ hh').self 0 s _ _ hst (seg_again rfl loop)))))
noncomputable abbrev eltJ : Expr := (.Call (.Name (Str.ofString "quote") ⟨756, 21, 756, 26⟩) [.Name (Str.ofString "arg") ⟨756, 27, 756, 30⟩] [] ⟨756, 21, 756, 31⟩)
noncomputable abbrev gscJ : Scope := ⟨.function, [(Str.ofString ".0", .local), (Str.ofString "arg", .local), (Str.ofString "quote", .globalImplicit)], true, false, []⟩
theorem kwC11x1 : True := by
  k_with "call ref" => (k_here; k_dflt (refine wpAny_call ?_; refine' t_quoteG ?k1z209 ?k2z209 ?k3z209 ?k5z209 ?krz209 ?kuz209 ?kxz209 ?_; (case k1z209 => k_asm); (case k2z209 => k_asm); (case k3z209 => k_asm); (case k5z209 => k_asm); (case krz209 => k_room); (case kuz209 => k_units); (case kxz209 => assumption); k_whole); intro h'z209 tk'z209 t'z209 v'z209 hv'z209 F'z209 HS'z209; (try k_sweep); (try dsimp only))
  trivial
set_option maxRecDepth 100000 in
set_option maxHeartbeats 4000000 in
theorem t_elt {p : Program} {loose : List Str} {mean : ExcName → Option Value} {mg mb : Str → Option Value} {w : World} {A₀ : Around} {dep un : Nat} {gs : Option (List Code)} {s : Shared} {base h₀ : Heap} {outer : List Env} {qu : Str} {cod : Value} {L : Addr} {m : Str → Option Value} {Q : Value → Shared → Prop} {E : Value → Shared → Prop} {x : Str} {t : Tok}
    (B : Below A₀ base outer h₀) (F : Fr h₀ L s.heap (fun y => if y = Str.ofString "arg" then some (.str x t) else m y)) (X : (KF w.params).In h₀) (T : Top p loose mean mg mb h₀) (hroom : dep + 12 < recursionLimit) (hun : un + 36 < cLine) (hx : x.length ≤ 1000)
    (h : ∀ h' tk t', HSub s.heap h' → Q (.str (quoteS x) t') { s with heap := h', toks := tk }) :
    wpAny (model PySem.Challenge.rw_nq0205_01.prog w) ⟨none, dep, some ((⟨gscJ, L, 3, [], qu, none, cod, some L, 0⟩ : Env) :: outer), gs, un⟩ (eval eltJ ⟨gscJ, L, 3, [], qu, none, cod, some L, 0⟩) Q E s := by
  revert X; k_fill; intro X
  have N : News h₀ L s.heap [] := News.nil
  walk1
  refine nameG_K (v := .ref 780) F X (topRead_of T) (by k_is) ?_ rfl rfl rfl (by decide)
  walk1
  walk1
  refine wpAny_Name (wpAny_loadName_local rfl rfl F.ns (v := .str x t) rfl ?_) (by decide)
  walk1
  walk1
  walk1
  rename _ = quoteS _ => hv
  subst hv
  exact h _ _ _ (by assumption)
end Mine
end PartC11
theorem Mine.flushC12 : True := by
  w_top off
  trivial
section PartC12
open PySem PySem.W PyProof.Rows PySem.Calls
set_option Elab.async false
namespace Mine
noncomputable abbrev tabJ (ps : Array Value) : Obj := { cls := .none, data := .fields ps }
noncomputable abbrev modJ : Obj := { cls := .type "module", dict := some 0, data := .plain }
noncomputable abbrev genJ : Expr := .GeneratorExp eltJ [⟨.Name (Str.ofString "arg") ⟨756, 36, 756, 39⟩, .Name (Str.ofString "split_command") ⟨756, 43, 756, 56⟩, [], 0⟩] gscJ ⟨756, 20, 756, 57⟩
noncomputable abbrev cenvJ (C : Addr) (q : Str) (code : Value) : Env := ⟨gscJ, C, 3, [], q, none, code, some C, 0⟩
theorem wJ (I : Addr) (C : Addr) (q : Str) (code : Value) : (Code.compLoop genJ 0 (.ref I) .none (cenvJ C q code)).weight = 1 := by rfl
theorem uJ (I : Addr) (C : Addr) (q : Str) (code : Value) : (Code.compLoop genJ 0 (.ref I) .none (cenvJ C q code)).cUnits = 3 := by rfl
theorem eJ (I : Addr) (C : Addr) (q : Str) (code : Value) : (Code.compLoop genJ 0 (.ref I) .none (cenvJ C q code)).envs = [cenvJ C q code] := by rfl
theorem genexprTab {M : Model} {A : Around} {E : Value → Shared → Prop} {s : Shared} {env : Env} {c P : Addr} {ps : Array Value} {pos : Pos} {qualname : Str} {scope : Scope}
    {Q : Value → Shared → Prop} (hc : env.code = .ref c) (hok : s.heap.IsCode c P ps) (htab : s.heap.TableAt c P ps)
    (hQ : ∀ code h' tk more, Heap.ExtBut P s.heap h' → s.heap.objs.size ≤ h'.objs.size → h'.IsCode c P (ps ++ more) → h'.TableAt c P (ps ++ more) → Q code { s with heap := h', toks := tk }) :
    wpAny M A (genexprCode env pos qualname scope) Q E s := by
  cases hf : codeAmong pos ps.toList with
  | some c' => exact wpAny_genexprCode_hit hc hok hf (hQ c' s.heap s.toks #[] (Heap.ExtBut.refl _ _) (Nat.le_refl _) (by simpa using hok) (by simpa using htab))
  | none => exact wpAny_genexprCodeX hc hok htab hf fun c' h' tk e1 e2 e3 e4 _ e6 _ => hQ _ h' tk _ e1 (Nat.le_trans e2 (Nat.le_of_lt e3)) e4 e6
theorem pk_bf (w : World) : peek ((nat_lit 4, modJ) :: KF w.params) (SET w) (builtinsFor 3 0) = some 0 := by kernel_rfl
theorem In.cons4 {K : Frag} {h : Heap} (X : K.In h) (h4 : h.get? 4 = some modJ) : Frag.In ((4, modJ) :: K) h := fun b o e => by
  simp only [List.lookup] at e
  split at e
  · rename_i q
    have : b = 4 := by simpa using q
    subst this
    cases e
    exact h4
  · exact X b o e
noncomputable abbrev vs771 : Array Value := #[(.str "join" 1270), (.str "join" 1271), (.str "/claim/cut.py" 1272), (.int 755 0), (.int 1 0), (.int 0 0), (.int 0 0), (.int 3 0), (.ref 766), (.bool true), (.int 318 0), (.ref 767), .none, (.ref 768), (.ref 769), (.ref 770), (.int 1274 0), (.int 755 0), (.str "/claim/cut.py" 1275)]
theorem at771 (w : World) : (KF w.params).lookup 771 = some ⟨.type "code", none, .fields vs771, #[]⟩ := by kernel_rfl
/-- the code of join, with its table at 767 -/
theorem code771 {w : World} {h : Heap} {ps : Array Value} (X : (KF w.params).In h) (h7 : h.get? 767 = some (tabJ ps)) (htr : TriplesOk ps.toList) : h.IsCode 771 767 ps ∧ h.TableAt 771 767 ps := by
  have ho := X _ _ (at771 w)
  exact ⟨⟨_, vs771, _, _, _, _, _, _, _, _, ho, rfl, rfl, rfl, rfl, rfl, rfl, h7, rfl, htr, by decide⟩, ⟨_, vs771, ho, rfl, rfl, rfl⟩, h7⟩
theorem StrsAre.get : ∀ {vs : List Value} {ys : List Str}, StrsAre vs ys → ∀ (i : Nat) (v : Value), vs[i]? = some v → ∃ y t, ys[i]? = some y ∧ v = .str y t
  | v :: vs, y :: ys, h, 0, v', e => by simp at e; subst e; obtain ⟨t, rfl⟩ := h.1; exact ⟨y, t, rfl, rfl⟩
  | v :: vs, y :: ys, h, i + 1, v', e => by simpa using StrsAre.get h.2 i v' (by simpa using e)
  | [], [], _, i, v', e => by simp at e
theorem walksS_imp {prog : Program} {w : World} {A : Around} {I : Addr} {fp wr : List Addr} {G : Array GenState → Array GenState → Prop} {n : Nat} {P P' : Nat → Value → Prop} {St : Nat → Shared → Prop} (W : WalksS prog w A I fp wr G n P St) (hi : ∀ i v, i < n → P i v → P' i v) : WalksS prog w A I fp wr G n P' St where
  sub := W.sub
  grefl := W.grefl
  gtrans := W.gtrans
  frame := W.frame
  item := fun i s Q E hlt st hQ => W.item i s Q E hlt st fun v s' hP => hQ v s' (hi i v hlt hP)
  done := W.done
  self := W.self
theorem passing_all (n : Nat) : passing (fun _ => true) n 0 = List.range n := by simp [passing]
set_option maxHeartbeats 4000000 in
theorem t_gen {p : Program} {loose : List Str} {mean : ExcName → Option Value} {mg mb : Str → Option Value} {w : World} {A₀ : Around} {dep un : Nat} {gs : Option (List Code)} {s : Shared} {base h₀ : Heap} {outer : List Env} {cn : Str} {cs : Scope} {a : Addr} {ccd : Value} {L : Addr} {m : Str → Option Value} {Q : Value → Shared → Prop} {E : Value → Shared → Prop} {ps : Array Value} {W : Addr} {items : Array Value} {ws : List Str}
    (B : Below A₀ base outer h₀) (F : Fr h₀ L s.heap m) (X : (KF w.params).In h₀) (N : News h₀ L s.heap [(767, tabJ ps)]) (T : Top p loose mean mg mb h₀) (h4 : h₀.get? 4 = some modJ) (htr : TriplesOk ps.toList) (hroom : dep + 20 < recursionLimit) (hun : un + 60 < cLine)
    (hm : m (Str.ofString "split_command") = some (.ref W)) (hl : h₀.IsList W items) (hst : StrsAre items.toList ws) (hws : ∀ y ∈ ws, y.length ≤ 1000) (hbare : AllBare s.gens)
    (hck : cs.kind = .function) (hkd : (envOf cn cs L a (.ref 771)).kindOf (Str.ofString "split_command") = some .local)
    (h : ∀ D h' tk gs' more, AllBare (s.gens.push gs') → Fr h₀ L h' m → News h₀ L h' [(767, tabJ (ps ++ more))] → TriplesOk (ps ++ more).toList → Gen PySem.Challenge.rw_nq0205_01.prog w ⟨none, dep, some (envOf cn cs L a (.ref 771) :: outer), gs, un⟩ (s.heap.objs.size - 1) D ws.length (fun j y => ∃ t, y = .str (quoteS (ws.getD j (Str.ofString ""))) t) { s with heap := h', toks := tk, gens := s.gens.push gs' } → Q (.ref D) { s with heap := h', toks := tk, gens := s.gens.push gs' }) :
    wpAny (model PySem.Challenge.rw_nq0205_01.prog w) ⟨none, dep, some (envOf cn cs L a (.ref 771) :: outer), gs, un⟩ (eval genJ (envOf cn cs L a (.ref 771))) Q E s := by
  have hLs : L < s.heap.objs.size := F.ns.lt
  refine wpAny_GeneratorExp_make (cl := []) rfl rfl (by decide) rfl rfl (by show dep < _; omega) ?_ (fun _ => rfl)
  refine ld F hm ?_ hck hkd
  have hl1 : s.heap.IsList W items := by obtain ⟨o, e, r⟩ := hl; exact ⟨o, F.keep _ _ e, r⟩
  have hWs : W < s.heap.objs.size := by obtain ⟨o, e, r⟩ := hl1; exact Heap.lt_size e
  refine wpAny_pyIter_list hl1 ?_
  generalize hI : s.heap.objs.size = I at *
  have F1 : Fr h₀ L (s.heap.push { cls := .type "list_iterator", data := .fields #[.ref W, .int 0 0] }) m := F.push _
  have N1 : News h₀ L (s.heap.push { cls := .type "list_iterator", data := .fields #[.ref W, .int 0 0] }) [(767, tabJ ps)] := fun q hq => (N.push F _) q (.tail _ hq)
  have hIt : (s.heap.push { cls := .type "list_iterator", data := .fields #[.ref W, .int 0 0] }).get? I = some { cls := .type "list_iterator", data := .fields #[.ref W, .int 0 0] } := by rw [← hI]; exact Heap.get?_push_size _ rfl
  have hl2 : (s.heap.push { cls := .type "list_iterator", data := .fields #[.ref W, .int 0 0] }).IsList W items := hl1.push _
  have hsz1 : (s.heap.push { cls := .type "list_iterator", data := .fields #[.ref W, .int 0 0] }).objs.size = I + 1 := by rw [Heap.size_push, hI]
  have hI0 : h₀.get? I = none := by
    cases e : h₀.get? I with
    | none => rfl
    | some o => have := Heap.lt_size (F.keep _ _ e); rw [hI] at this; exact absurd this (Nat.lt_irrefl _)
  generalize s.heap.push { cls := .type "list_iterator", data := .fields #[.ref W, .int 0 0] } = H1 at *
  refine ⟨T.nolimit.keeps F1.keep, ?_⟩
  have h7 : H1.get? 767 = some (tabJ ps) := (N1 _ (.head _)).1
  obtain ⟨hok, htab⟩ := code771 (X.keeps F1.keep) h7 htr
  refine genexprTab rfl hok htab fun code h3 tk3 more ext hsz hok3 htab3 => ?_
  have n7 : h₀.get? 767 = none := (N1 _ (.head _)).2.2
  have L7 : (767 : Nat) ≠ L := (N1 _ (.head _)).2.1
  have keep3 : ∀ b o, h₀.get? b = some o → h3.get? b = some o := fun b o e => ext b o (fun z => by rw [z, n7] at e; cases e) (F1.keep b o e)
  have F3 : Fr h₀ L h3 m := ⟨F1.ns.at' fun o e => ext _ _ (Ne.symm L7) e, keep3, F1.above⟩
  have N3 : News h₀ L h3 [(767, tabJ (ps ++ more))] := fun q hq => by
    obtain rfl := List.mem_singleton.mp hq
    exact ⟨htab3.2, L7, n7⟩
  have X3 : (KF w.params).In h3 := X.keeps keep3
  have I7 : I ≠ 767 := fun z => by rw [z, h7] at hIt; cases hIt
  have hIt3 : h3.get? I = some { cls := .type "list_iterator", data := .fields #[.ref W, .int 0 0] } := ext _ _ I7 hIt
  have hl3 : h3.IsList W items := by obtain ⟨o, e, r⟩ := hl; exact ⟨o, keep3 _ _ e, r⟩
  have hI3 : I < h3.objs.size := Heap.lt_size hIt3
  refine Looks.here (Looks.of_peek (In.cons4 X3 (keep3 _ _ h4)) (pk_bf w)) ?_
  intro h5 hn5 hs5
  dsimp only at hn5 hs5 ⊢
  have keep5 : ∀ b o, h3.get? b = some o → h5.get? b = some o := fun b o e => hs5.extBut b o (Nat.ne_of_lt (Heap.lt_size e)) (Heap.get?_push_of_some _ e)
  have hsz5 : h5.objs.size = h3.objs.size + 1 := by rw [hs5.1, Heap.size_push]
  have htr3 : TriplesOk (ps ++ more).toList := by
    obtain ⟨_, _, _, _, _, _, _, _, _, _, _, _, _, _, _, _, _, z, zd, ht, _⟩ := hok3
    rw [htab3.2] at z
    cases z
    cases zd
    exact ht
  generalize hO : ({ cls := .type "generator", data := .fields #[.int s.gens.size 0, .str "<genexpr>" (tk3 + 1), .str ((envOf cn cs L a (.ref 771)).qual ++ "<genexpr>") (tk3 + 1 + 1)] } : Obj) = OG
  have hOg : (h5.push OG).get? h5.objs.size = some OG := Heap.get?_push_size _ (by rw [← hO]; rfl)
  have keep6 : ∀ b o, h3.get? b = some o → (h5.push OG).get? b = some o := fun b o e => Heap.get?_push_of_some _ (keep5 b o e)
  have F6 : Fr h₀ L (h5.push OG) m := F3.keeps keep6
  have N6 : News h₀ L (h5.push OG) [(767, tabJ (ps ++ more))] := fun q hq => ⟨keep6 _ _ (N3 q hq).1, (N3 q hq).2⟩
  have hlim6 : (h5.push OG).NoLimit := T.nolimit.keeps F6.keep
  have hclt : cStatics < h3.objs.size := by obtain ⟨_, hn, _⟩ := T.nolimit.keeps F3.keep; exact hn.lt
  have hcI : cStatics ≠ I := fun z => by
    obtain ⟨mc, hns, _⟩ := T.nolimit
    obtain ⟨o, _, _, ho, _⟩ := hns
    rw [z, hI0] at ho; cases ho
  have hWI : W ≠ I := Nat.ne_of_lt hWs
  have hlen : items.size = ws.length := by rw [← hst.length, Array.length_toList]
  refine h h5.objs.size (h5.push OG) _ _ more (hbare.push rfl) F6 N6 htr3 ⟨h5.objs.size :: h3.objs.size :: List.range h3.objs.size, h3.objs.size :: [I], s.gens.size, GenAt PySem.Challenge.rw_nq0205_01.prog w (Around.in4 ⟨none, dep, some (envOf cn cs L a (.ref 771) :: outer), gs, un⟩) h5.objs.size s.gens.size h3.objs.size (List.range h3.objs.size) [I] (fun _ => true) ws.length (fun j y => ∃ t, y = .str (quoteS (ws.getD j (Str.ofString ""))) t), ?_, ?_, ?_, List.mem_cons_self, ?_, ?_⟩
  · have W0 := WalksS.genexpQ (prog := PySem.Challenge.rw_nq0205_01.prog) (w := w) (A := Around.in4 ⟨none, dep, some (envOf cn cs L a (.ref 771) :: outer), gs, un⟩) rfl h5.objs.size s.gens.size h3.objs.size (List.range h3.objs.size) [I] (fun _ => true) ws.length (fun j y => ∃ t, y = .str (quoteS (ws.getD j (Str.ofString ""))) t) (by rw [hsz5]; exact Nat.succ_ne_self _) (fun hm => by have := List.mem_range.mp hm; omega) (fun b hb => List.mem_range.mpr (by rw [List.mem_singleton.mp hb]; exact hI3)) (by show dep < _; omega) (List.mem_range.mpr hclt) (Nat.ne_of_lt hclt) (fun hm => hcI (List.mem_singleton.mp hm))
    rw [passing_all, List.length_range] at W0
    refine walksS_imp W0 fun i v hi hP => ?_
    obtain ⟨j, hj, hF⟩ := hP
    rw [List.getElem?_range hi] at hj
    cases hj
    exact hF
  · refine ⟨⟨OG, _, _, hOg, by rw [← hO], by rw [← hO], by rw [← hO]⟩, hlim6, _, Array.getElem?_push_size .., fun s'' hal => ⟨rfl, ?_⟩⟩
    have W₀ : ∀ A' : Around, A'.handled = none → Walks PySem.Challenge.rw_nq0205_01.prog w A' I (List.range h3.objs.size) [I] ws.length (fun i v => items[i]? = some v) (fun i h => h.IsListIter I W i ∧ h.IsList W items) := fun A' hA => hlen ▸ (Walks.list hA I W hWI items).mono_fp fun b hb => List.mem_range.mpr (by
      rcases List.mem_cons.mp hb with rfl | hb
      · exact hI3
      · rw [List.mem_singleton.mp hb]; exact Nat.lt_trans hWs (by omega))
    have hst0 : (h5.push OG).IsListIter I W 0 ∧ (h5.push OG).IsList W items := ⟨⟨_, keep6 _ _ hIt3, rfl, rfl⟩, by obtain ⟨o, e, r⟩ := hl3; exact ⟨o, keep6 _ _ e, r⟩⟩
    refine seg_start (A := Around.in1 (Around.in4 ⟨none, dep, some (envOf cn cs L a (.ref 771) :: outer), gs, un⟩)) (cenv := genEnv gscJ [] h3.objs.size code 0 (envOf cn cs L a (.ref 771))) (m := fun y => if y = ".0" then some (.ref I) else none) rfl W₀ _ (h5.push OG) rfl rfl rfl (fun hm => Nat.lt_irrefl _ (List.mem_range.mp hm)) ?_ s'' s'' ((W₀ ⟨none, dep, none, none, 1⟩ rfl).frame _ _ _ hst0 fun b hb o e => hal b (List.mem_cons_of_mem _ hb) o e) ((hn5.push _).at' fun o e => hal _ (List.mem_cons_self ..) o e) (GenSince.refl _ _ _) fun b hb _ o e => hal b (List.mem_cons_of_mem _ hb) o e
    intro E' i v s₂ m₂ hPv hn2 hm2 hkp
    obtain ⟨y, t, hy, rfl⟩ := hst.get i v (by rw [Array.getElem?_toList]; exact hPv)
    have hyd : ws.getD i (Str.ofString "") = y := by rw [List.getD_eq_getElem?_getD, hy]; rfl
    have hkeep : ∀ b o, (hideAll h3 [I]).get? b = some o → s₂.heap.get? b = some o := fun b o e => by
      have e3 := of_hideAll _ e
      have hbI : b ≠ I := fun z => by rw [z, hideAll_none _ (List.mem_singleton.mpr rfl)] at e; cases e
      exact hkp b (List.mem_range.mpr (Heap.lt_size e3)) (fun hm => hbI (List.mem_singleton.mp hm)) o (keep6 _ _ e3)
    have up : ∀ b o, h₀.get? b = some o → (hideAll h3 [I]).get? b = some o := fun b o e => hideAll_get _ (keep3 _ _ e) fun hm => by
      rw [List.mem_singleton.mp hm, hI0] at e; cases e
    have F'' : Fr (hideAll h3 [I]) h3.objs.size s₂.heap (fun z => if z = Str.ofString "arg" then some (.str y t) else m₂ z) := by
      have e : (fun z => if z = Str.ofString "arg" then some (Value.str y t) else m₂ z) = m₂ := by
        funext z
        split
        · rename_i hz; rw [hz]; exact hm2.symm
        · rfl
      rw [e]
      exact ⟨hn2, hkeep, Nat.le_of_eq (hideAll_size _ _)⟩
    have B3 := B.push (name := cn) (scope := cs) (a := a) (cd := .ref 771) F3 hck
    have B'' : Below ⟨none, dep, some (envOf cn cs L a (.ref 771) :: outer), gs, un⟩ base (envOf cn cs L a (.ref 771) :: outer) (hideAll h3 [I]) := ⟨rfl, fun b o e => up b o (B.stays b o e), funFrames_hideAll B3.frames fun env he b hb hf => by
      rw [List.mem_singleton] at hb
      subst hb
      rcases List.mem_cons.mp he with rfl | he
      · have : L = b := Option.some.inj hf
        exact Nat.ne_of_lt hLs this
      · obtain ⟨L₁, o₁, hf₁, ho₁⟩ := funFrames_in B.frames env he
        rw [hf₁] at hf
        rw [← (Option.some.inj hf : L₁ = b), ho₁] at hI0
        cases hI0⟩
    refine t_elt (m := m₂) B'' F'' (X.keeps up) (T.keeps up) ?_ ?_ (hws y (List.mem_of_getElem? hy)) fun h' tk t' HS => ⟨⟨t', by rw [hyd]⟩, h', tk, rfl, HS⟩
    · show dep + 0 + 1 + 12 < _; omega
    · show un + 1 + 1 + 1 + 1 + 1 + 0 + 3 + 36 < _; omega
  · intro i s' st
    exact st.1.typeIs
  · intro b hb
    show b < (h5.push OG).objs.size
    rw [Heap.size_push, hsz5]
    rcases List.mem_cons.mp hb with rfl | hb
    · rw [hsz5]; exact Nat.lt_succ_self _
    · rcases List.mem_cons.mp hb with rfl | hb
      · exact Nat.lt_succ_of_lt (Nat.lt_succ_self _)
      · exact Nat.lt_succ_of_lt (Nat.lt_succ_of_lt (List.mem_range.mp hb))
  · intro b hb
    rcases List.mem_cons.mp hb with rfl | hb
    · exact Nat.lt_of_le_of_lt (Nat.sub_le _ _) hI3
    · rw [List.mem_singleton.mp hb]; exact Nat.sub_lt (Nat.lt_of_le_of_lt (Nat.zero_le _) hLs) Nat.one_pos
end Mine
end PartC12
theorem Mine.flushC13 : True := by
  w_top off
  trivial
section PartC13
open PySem PySem.W PyProof.Rows PySem.Calls
set_option Elab.async false
namespace Mine
theorem kwC13x0 : True := by
  k_with_none
  k_with "size_fits" => first | (with_reducible assumption) | ((try simp only [PySem.Str.length_append, sizeLine_eq]); omega)
  k_with "k_room" => ((try simp only [depth_under_make, depth_under_kw, depth_in1, depth_deeper, depth_caller, depth_mark]); omega)
  k_with "k_units" => ((try simp only [units_under_kw, units_in1, units_deeper, units_caller, Around.mark_units]); omega)
  trivial
theorem GSub.one {a g h : Heap} {l : List Addr} (G : GSub a g l) (H : HSub g h) : GSub a h l := fun b o e n => H b o (G b o e n)
theorem range_quote (ws : List Str) : (List.range ws.length).map (fun j => quoteS (ws.getD j (Str.ofString ""))) = ws.map quoteS := by
  apply List.ext_getElem?
  intro i
  by_cases h : i < ws.length
  · simp [h, List.getD_eq_getElem?_getD]
  · simp [h]
theorem quoteS_len (x : Str) : (quoteS x).length ≤ 5 * x.length + 2 := by
  show (quoteL x.cps.toList).toArray.size ≤ 5 * x.cps.size + 2
  rw [List.size_toArray, ← Array.length_toList]
  unfold quoteL
  split
  · simp
  · split
    · omega
    · have := rep_len [39, 34, 39, 34, 39] (by decide) 39 x.cps.toList
      simp only [List.cons_append, List.length_cons, List.length_append, List.length_nil]
      omega
theorem fold_len : ∀ (l : List Str) (k : Nat), l.foldl (fun a x => a + x.length + (Str.ofString " ").length) k = k + (l.map fun x => x.length + 1).sum
  | [], k => rfl
  | x :: l, k => by
    rw [List.foldl_cons, fold_len l]
    simp only [List.map_cons, List.sum_cons]
    have : (Str.ofString " ").length = 1 := by decide +kernel
    omega
theorem joinOk_words {ws : List Str} (h : ∀ y ∈ ws, y.length ≤ 100) (h3 : ws.length ≤ 3) : JoinOk (Str.ofString " ") (ws.map quoteS) = true := by
  unfold JoinOk
  have e : (ws.map quoteS).toArray.foldl (· + ·.length + (Str.ofString " ").length) 0 = 0 + ((ws.map quoteS).map fun x => x.length + 1).sum := by
    rw [List.foldl_toArray]; exact fold_len _ _
  rw [e]
  have hb : ∀ (l : List Str), (∀ y ∈ l, y.length ≤ 100) → ((l.map quoteS).map fun x => x.length + 1).sum ≤ 503 * l.length := by
    intro l hl
    induction l with
    | nil => simp
    | cons x l ih =>
      have h1 := ih fun y hy => hl y (List.mem_cons_of_mem _ hy)
      have h2 := quoteS_len x
      have h4 := hl x List.mem_cons_self
      simp only [List.map_cons, List.sum_cons, List.length_cons]
      omega
  have := hb ws h
  have h5 : 0 + ((ws.map quoteS).map fun x => x.length + 1).sum ≤ 1600 := by omega
  generalize 0 + ((ws.map quoteS).map fun x => x.length + 1).sum = n at h5
  show (!decide _) = true
  simp only [Bool.not_eq_true', decide_eq_false_iff_not]
  rw [sizeLine_eq]
  omega
theorem kwC13x1 : True := by
  k_with "LeaveK" => (k_dflt (refine' leaveK_k ?k1z0b8 ?k2z0b8 ?_; (case k1z0b8 => k_asm); (case k2z0b8 => k_asm); k_whole); intro kkz0b8 kFz0b8 kNz0b8; (try dsimp only at kkz0b8 kFz0b8 kNz0b8 ⊢))
  trivial
set_option maxRecDepth 100000 in
set_option maxHeartbeats 4000000 in
theorem t_join {p : Program} {loose : List Str} {mean : ExcName → Option Value} {mg mb : Str → Option Value} {w : World} {A₀ : Around} {dep un : Nat} {gs : Option (List Code)} {s : Shared} {base h₀ : Heap} {outer : List Env} {nms : List (Str × NameKind)} {ig ic : Bool} {mo : List (Str × Const)} {loc glo bi : Addr} {cel : List (Str × Addr)} {qu : Str} {fn : Option Addr} {cod : Value} {L : Addr} {m : Str → Option Value} {news : List (Addr × Obj)} {R : Result → Shared → Prop} {ps : Array Value} {W : Addr} {items : Array Value} {ws : List Str}
    (B : Below A₀ base outer h₀) (F : Fr h₀ L s.heap m) (X : (KF w.params).In h₀) (N : News h₀ L s.heap ((767, tabJ ps) :: news)) (T : Top p loose mean mg mb h₀) (hroom : dep + 25 < recursionLimit) (hun : un + 75 < cLine)
    (h4 : h₀.get? 4 = some modJ) (htr : TriplesOk ps.toList) (hW : ∃ o, (W, o) ∈ news ∧ o.cls = .type "list" ∧ ∃ n, o.data = .seq items n) (hst : StrsAre items.toList ws) (hws : ∀ y ∈ ws, y.length ≤ 100) (hw3 : ws.length ≤ 3) (hbare : AllBare s.gens)
    (h7 : ∀ q ∈ news, q.1 ≠ 767) (h : ∀ s' t' more, Fr h₀ L s'.heap m → News h₀ L s'.heap ((767, tabJ (ps ++ more)) :: news) → TriplesOk (ps ++ more).toList → AllBare s'.gens → s'.os = s.os → R (.ok (.ret (.str (Txt.join (Str.ofString " ") (ws.map quoteS)) t'))) s') :
    codeAny (model PySem.Challenge.rw_nq0205_01.prog w) ⟨none, dep, some ((⟨⟨.function, nms, ig, ic, mo⟩, loc, glo, cel, qu, fn, cod, some L, bi⟩ : Env) :: outer), gs, un⟩ (.call (.ref 772) ⟨[.ref W], []⟩) R s := by
  revert X; k_fill; intro X
  refine' code_defG B F X (fun q hq => N q (by rw [List.mem_singleton.mp hq]; exact .head _) : News h₀ L s.heap [(767, tabJ ps)]) T rfl rfl rfl ?k6 ?k7 ?k8 ?k9 ?kB ?_ ?c2 ?c3 ?c4 ?c5
  case k6 => k_is
  case k7 => k_is
  case k8 => (show dep < _); omega
  case k9 => exact BindsTo.of_eq rfl
  case c5 => decide
  case kB => exact locs rfl
  case c2 => exact rfl
  case c3 => exact rfl
  case c4 => exact rfl
  intro g' L' h' FG' F' N' B' X' T' kG'
  (try dsimp only)
  (try k_fold)
  obtain ⟨oW, hWm, hWc, nW, hWd⟩ := hW
  have hlW : g'.IsList W items := ⟨oW, kG' _ _ (N _ (.tail _ hWm)).1 (fun z => h7 _ hWm (by simpa using z)), hWc, nW, hWd⟩
  have h4' := FG'.keep _ _ h4
  have hws' : ∀ y ∈ ws, y.length ≤ 1000 := fun y hy => Nat.le_trans (hws y hy) (by decide)
  k_steps
  rename Fr _ L' _ _ => F1
  rename News _ L' _ _ => N1
  refine t_gen (ccd := .none) (ps := ps) (W := W) B' F1 X' N1 T' h4' htr ?kr ?ku rfl hlW hst hws' hbare rfl rfl ?_
  case kr => k_room
  case ku => k_units
  intro D5 h5 tk5 gs5 more5 hb5 F5 N5 ht5 G5
  have hLK := Nat.le_sub_one_of_lt F1.ns.lt
  have h7K := Nat.le_sub_one_of_lt (Heap.lt_size (N1 _ (.head _)).1)
  (try dsimp only)
  walk1
  refine join_rowsK F5 hb5 G5 hLK (fun j => quoteS (ws.getD j (Str.ofString ""))) (fun j v hv => hv) (by rw [range_quote]; exact joinOk_words hws hw3) ?_ (by rw [sizeLine_eq]; omega)
  intro s' t' F9 G9 o9 keep9
  rw [range_quote]
  show LeaveK h₀ L m g' R _ s'
  refine ⟨L', _, [(767, tabJ (ps ++ more5))], F9, (fun q hq => ?_), fun kF kN => h s' t' more5 kF (fun q hq => ?_) ht5 G9 o9⟩
  · have := N5 q hq
    obtain rfl := List.mem_singleton.mp hq
    exact ⟨keep9 _ _ h7K this.1, this.2⟩
  · rcases List.mem_cons.mp hq with rfl | hq
    · exact kN _ (.head _)
    · exact ⟨F9.keep _ _ (kG' _ _ (N _ (.tail _ hq)).1 (fun z => h7 _ hq (by simpa using z))), (N _ (.tail _ hq)).2⟩
end Mine
end PartC13
theorem Mine.flushC14 : True := by
  w_top off
  trivial
section PartC14
open PySem PySem.W PyProof.Rows PySem.Calls
set_option Elab.async false
namespace Mine
theorem kwC14x0 : True := by
  k_with_none
  k_with "size_fits" => first | (with_reducible assumption) | ((try simp only [PySem.Str.length_append, sizeLine_eq]); omega)
  k_with "k_room" => ((try simp only [depth_under_make, depth_under_kw, depth_in1, depth_deeper, depth_caller, depth_mark]); omega)
  k_with "k_units" => ((try simp only [units_under_kw, units_in1, units_deeper, units_caller, Around.mark_units]); omega)
  k_with "LeaveK" => (k_dflt (refine' leaveK_k ?k1z0b8 ?k2z0b8 ?_; (case k1z0b8 => k_asm); (case k2z0b8 => k_asm); k_whole); intro kkz0b8 kFz0b8 kNz0b8; (try dsimp only at kkz0b8 kFz0b8 kNz0b8 ⊢))
  trivial
theorem code_defCG {prog : Program} {w : World} {A₀ A : Around} {s : Shared} {base h₀ : Heap} {outer : List Env} {L : Addr} {m : Str → Option Value} {env : Env} {K : Frag} {p : Program} {loose : List Str} {mean : ExcName → Option Value} {mg mb : Str → Option Value} {R : Result → Shared → Prop} {name qual : Str} {params : Arguments} {body : List Stmt} {scope : Scope} {dV kV doc pm cdv ct oc : Value} {an od : Option Addr} {osl : Array (Option Value)} {f : Addr} {args : Args} {binds : List (Str × Value)}
    (B : Below A₀ base outer h₀) (F : Fr h₀ L s.heap m) (X₀ : K.In h₀) (T : Top p loose mean mg mb h₀) (hA : A.frames = some (env :: outer)) (hf : env.frame = some L) (hke : env.scope.kind = .function)
    (ho : K.lookup f = some ⟨oc, od, .func (fnOf name qual params body scope dV kV doc pm an cdv ct), osl⟩) (hcd : codeIn K cdv qual = true) (hroom : A.depth < recursionLimit)
    (hbind : BindsTo s (fnOf name qual params body scope dV kV doc pm an cdv ct) args binds) (hkind : (binds.all fun y => scope.names.lookup y.1 == some .local || scope.names.lookup y.1 == some .cell) = true)
    (hnd : ((cellsFrom 0 scope.names []).map (·.1)).Nodup)
    (h : ∀ g L' h₁ tk cells, Fr h₀ L g m → Fr g L' h₁ (bindL (envOfC qual scope L' f cdv).kindOf binds fun _ => none) → News g L' h₁ cells →
      CellsAre (bindC (envOfC qual scope L' f cdv).kindOf binds fun _ => none) (cellsFrom (L' + 1) scope.names []) cells → Below A base (env :: outer) g → K.In g → Top p loose mean mg mb g → HSub s.heap g →
      wpAny (model prog w) (A.deeper (envOfC qual scope L' f cdv)) (execs body (envOfC qual scope L' f cdv))
        (fun fl s' => LeaveK h₀ L m g R (match fl with | .ret v => v | _ => .none) s')
        (fun e s' => wpAny (model prog w) (A.deeper (envOfC qual scope L' f cdv)) (leaving (envOfC qual scope L' f cdv) e) (fun _ s'' => R (.error e) s'') (fun e' s'' => R (.error e') s'') s')
        { s with heap := h₁, toks := tk })
    (hco : scope.isCoroutine = false) (hgen : scope.isGenerator = false) (hk : scope.kind = .function) : codeAny (model prog w) A (.call (.ref f) args) R s := by
  have X := X₀.keeps F.keep
  obtain ⟨FG, BG, st, lv⟩ := groundX (R := R) B F (News.nil (h₀ := h₀) (L := L) (h := s.heap)) hA hf hke
  refine codeAny_call_function (fd := fnOf name qual params body scope dV kV doc pm an cdv ct) hroom (X _ _ ho) rfl hco hgen rfl (codeRec_of X hcd) (hbind _ _ _ _ ?_)
  refine wpAny_newFunctionEnv_cells hk (kindsX hkind _) fun env' he s' x => ?_
  subst he
  refine ⟨(T.nolimit.keeps F.keep).keeps x.toInCall.keep, codeAny_func ?_⟩
  obtain ⟨h₁, tk, rfl, _⟩ := x.done
  have hk₁ := x.toInCall.keep
  obtain ⟨cells, NC, Y⟩ := Cl.news (h₀ := s.heap) (Nat.le_refl _) fun n c hm => ⟨x.cell n c (lookup_of_mem_nodup (cellsFrom_names scope.names 0 (s.heap.objs.size + 1) [] [] rfl ▸ hnd) hm), x.above n c hm⟩
  refine wpAny_mono (h (hideAll s.heap []) s.heap.objs.size h₁ tk cells FG ⟨x.toInCall.ns, fun b o e => hk₁ b o (of_hideAll _ e), Nat.le_of_eq (hideAll_size _ _)⟩ (fun p hp => ?_) Y BG (X₀.keeps st) (T.keeps st) (fun b o e => hideAll_get _ e (by simp))) (fun fl s' hl => lv _ _ hl) fun _ _ y => y
  refine ⟨(NC p hp).1, (NC p hp).2.1, ?_⟩
  cases q : (hideAll s.heap []).get? p.1 with
  | none => rfl
  | some o => have := of_hideAll _ q; rw [(NC p hp).2.2] at this; cases this
theorem HSub.trans {a b c : Heap} (x : HSub a b) (y : HSub b c) : HSub a c := fun k o e => y k o (x k o e)
theorem join_signs {ys : List Str} (h : (ys.map (·.length)).sum ≤ 4) : (Txt.join (Str.ofString "") ys).length ≤ 4 := by
  have := StrLaws.join_length_le (Str.ofString "") ys
  have h0 : (Str.ofString "").length = 0 := by decide +kernel
  rw [h0, Nat.mul_zero, Nat.add_zero] at this
  show (Builtin.Str.glued _ _).length ≤ 4
  rw [StrLaws.glued_eq_join]
  omega
noncomputable def AllSign : List Value → Prop
  | [] => True
  | v :: vs => (∃ y t, v = .str y t ∧ y.length = 1) ∧ AllSign vs
theorem AllSign.get : ∀ {vs : List Value}, AllSign vs → ∀ (i : Nat) (v : Value), vs[i]? = some v → ∃ y t, v = .str y t ∧ y.length = 1
  | _ :: _, h, 0, v, e => by simp at e; subst e; exact h.1
  | _ :: _, h, i + 1, v, e => AllSign.get h.2 i v (by simpa using e)
  | [], _, i, v, e => by simp at e
theorem item_sign {prog : Program} {w : World} {A : Around} {E : Value → Shared → Prop} {s : Shared} {value slice : PySem.Expr} {h₀ : Heap} {L l : Addr} {news : List (Addr × Obj)} {vs : List Value} {c : Nat} {k : Int} {u : Tok} {Q : Value → Shared → Prop}
    (N : News h₀ L s.heap news) (hm : (l, W.listOf vs.toArray c) ∈ news) (ha : AllSign vs) (h0 : 0 ≤ k) (h1 : k < vs.length) (hz : vs.length ≤ 100) (h : ∀ y t, y.length = 1 → Q (.str y t) s)
    (hs : subscripted slice false (.ref l) (.int k u) = operate [.ref l, .int k u] (getItem (.ref l) (.int k u)) := by with_unfolding_all rfl) :
    wpAny (model prog w) A (subscriptTail value slice (.ref l) (.int k u)) Q E s := by
  have hl : s.heap.IsList l vs.toArray := ⟨_, (N _ hm).1, rfl, c, rfl⟩
  have hlt : k.toNat < vs.length := by omega
  obtain ⟨y, t, e, hy⟩ := ha.get k.toNat vs[k.toNat] (List.getElem?_eq_getElem hlt)
  refine tail_any hl.typeIs slot_list_getitem.lookup (wpAny_getItem_list hl h0 (by omega) (x := vs[k.toNat]) (by simp [hlt]) ?_) hs
  rw [e]
  exact h y t hy
theorem half_small (n : Int) : ∃ N : Nat, (n.fmod 10).fdiv 2 = (N : Int) ∧ N ≤ 4 := by
  have h1 : n.fmod 10 = n % 10 := Int.fmod_eq_emod_of_nonneg n (by decide)
  have h2 : (n % 10).fdiv 2 = n % 10 / 2 := Int.fdiv_eq_ediv_of_nonneg _ (by decide)
  rw [h1, h2]
  exact ⟨(n % 10 / 2).toNat, by omega, by omega⟩
end Mine
end PartC14
theorem Mine.flushD1 : True := by
  w_top off
  trivial
section PartD1
open PySem PySem.W PyProof.Rows PySem.Calls
set_option Elab.async false
namespace Mine
section
variable {prog : Program} {w : World} {A : Around} {E : Value → Shared → Prop} {s : Shared} {h₀ : Heap} {L : Addr} {m : Str → Option Value} {env : Env}
/-- the turns of a comprehension by what holds between them -/
theorem comp_ind {elt : Expr} {x : Str} {scope : Scope} {cl : List (Str × Addr)} {S : List (Addr × Obj) → Prop} {P : Nat → Value → Prop} {Fin : List Value → List (Addr × Obj) → Prop} (J : Nat → List Value → List (Addr × Obj) → Prop) (n : Nat)
    (step : ∀ i ys news v I oI C oC D m₂ h tk (E' : Value → Shared → Prop), i < n → J i ys news → P i v → LCg.NsObj oC m₂ → m₂ x = some v → Fr h₀ L h m → News h₀ L h ((I, oI) :: (C, oC) :: (D, LCg.lst ys) :: news) → LCg.Off3 I C D news → ((@Ne Nat I C) ∧ (@Ne Nat I D) ∧ (@Ne Nat C D)) →
      wpAny (model prog w) A (eval elt (compEnvC scope cl C env)) (LCg.CompEnd h₀ L m { s with heap := h, toks := tk } I oI C oC D (LCg.lst ys) S (fun y news' => J (i + 1) (ys ++ [y]) news')) E' { s with heap := h, toks := tk })
    (fin : ∀ ys news, J n ys news → Fin ys news) : ∀ (k i : Nat) (ys : List Value) (news : List (Addr × Obj)), i + k = n → J i ys news → LCg.CompRest prog w A h₀ L m env elt x scope cl s S P Fin k i ys news
  | 0, i, ys, news, hk, hj => fin ys news (by rw [← hk]; exact hj)
  | k + 1, i, ys, news, hk, hj => fun v I oI C oC D m₂ h tk E' hP hC hx F N off ne =>
    wpAny_mono (step i ys news v I oI C oC D m₂ h tk E' (by omega) hj hP hC hx F N off ne) (fun y s₂ q => by
      obtain ⟨h', tk', news', e, F', N', o', S', j'⟩ := q
      exact ⟨h', tk', news', e, F', N', o', S', comp_ind J n step fin k (i + 1) (ys ++ [y]) news' (by omega) j'⟩) fun _ _ e => e
/-- the source of a comprehension over the signs of a text -/
noncomputable def StrSrc (prog : Program) (w : World) (A : Around) (h₀ : Heap) (L : Addr) (m : Str → Option Value) (env : Env) (elt : Expr) (x : Str) (scope : Scope) (cl : List (Str × Addr)) (Q : Value → Shared → Prop) (xv : Value) (s₁ : Shared) : Prop :=
  ∃ y t news, xv = .str y t ∧ A.handled = none ∧ Fr h₀ L s₁.heap m ∧ News h₀ L s₁.heap news ∧ y.length ≤ sizeLine ∧
      ∀ s₂ : Shared, (∃ h, s₂ = { s₁ with heap := h }) → LCg.CompRest prog w A h₀ L m env elt x scope cl s₂ (fun _ => True) (SignAt y) (LCg.FinE h₀ L m s₂ Q) y.length 0 [] news
/-- a comprehension over the signs of a text -/
theorem ListComp_Str {elt iter : Expr} {x : Str} {px : Pos} {scope : Scope} {cl : List (Str × Addr)} {pos : Pos} {Q : Value → Shared → Prop} (_F₀ : Fr h₀ L s.heap m)
    (hclos : closureFor scope env = pure cl) (hcell : ∀ y ∈ scope.names, y.2 ≠ .cell) (hkind : scope.kind = .function)
    (hnames : ∀ y ∈ scope.names, y.2 = .local → scope.names.lookup y.1 = some .local) (hx : scope.names.lookup x = some .local)
    (h : wpAny (model prog w) A (eval iter env) (StrSrc prog w A h₀ L m env elt x scope cl Q) E s)
    (hs : ∀ x, foldedSetIterable iter env x = pure x := by intro _; rfl) :
    wpAny (model prog w) A (eval (.ListComp elt [⟨.Name x px, iter, [], 0⟩] scope pos) env) Q E s := by
  rw [eval_ListComp]
  refine wpAny_comprehension_free (use := none) rfl hs hclos hkind hnames (wpAny_mono h (fun xv s₁ h₁ => ?_) fun _ _ e => e)
  obtain ⟨y, t, news, rfl, hh, F, N, hsz, R⟩ := h₁
  have go : ∀ (kd : String) (o : Obj), Walks prog w A s₁.heap.objs.size [s₁.heap.objs.size] [s₁.heap.objs.size] y.cps.size (SignAt y) (fun i h => h.IsStrIter s₁.heap.objs.size kd y t i) → (s₁.heap.push o).IsStrIter s₁.heap.objs.size kd y t 0 →
      wpAny (model prog w) A (newList []) (fun acc s₃ => wpAny (model prog w) A (newFunctionEnv scope env.globals cl [] env.qual none .none (some env)) (fun cenv s₄ =>
        codeAny (model prog w) A (.compStart (.ListComp elt [⟨.Name x px, iter, [], 0⟩] scope pos) 0 (.ref s₁.heap.objs.size) acc { cenv with scope := relabel scope env }) (compPost (model prog w) A E none Q acc cenv.locals) s₄) E s₃) E { s₁ with heap := s₁.heap.push o } := fun kd o W hst => by
    refine LCg.block_U (S := fun _ => True) W hsz (fun i h st => by obtain ⟨o, e, _⟩ := st; exact ⟨o, e⟩) (fun i h h' o nw st e e' _ _ _ => by obtain ⟨o', q, r⟩ := st; rw [e] at q; cases q; exact ⟨o, e', r⟩) hcell hkind hx hst (fun b hb => ?_) (F.push _) (N.grown fun _ _ e => Heap.get?_push_of_some _ e) (Nat.ne_of_lt F.ns.lt) (next_is_new F) (fun p hp => Nat.ne_of_lt (Heap.lt_size (N p hp).1)) trivial (R _ ⟨_, rfl⟩) ?_
    · rw [List.mem_singleton.mp hb]
      show s₁.heap.objs.size < (s₁.heap.push _).objs.size
      rw [Heap.size_push]; exact Nat.lt_succ_self _
    · intro D C h tk m' ys news' F' N' o1 hn hC₀ hD₀ hCL hDL hCD offC fin
      refine ⟨m', hn, fun h'' hs'' => fin D h'' tk (F'.change hs'' hCL hC₀) (fun p hp => ?_) o1⟩
      refine ⟨hs''.extBut _ _ ?_ (N' p hp).1, (N' p hp).2⟩
      rcases List.mem_cons.mp hp with rfl | hp
      · exact Ne.symm hCD
      · exact offC p hp
  cases ha : y.cps.all (· < 128)
  · exact wpAny_pyIter_wide ha (go _ _ (Walks.strWide hh _ y t) ⟨_, Heap.get?_push_size _ rfl, rfl, rfl⟩)
  · exact wpAny_pyIter_ascii ha (go _ _ (Walks.strAscii hh _ y t) ⟨_, Heap.get?_push_size _ rfl, rfl, rfl⟩)
theorem src_ind {elt : Expr} {x : Str} {scope : Scope} {cl : List (Str × Addr)} {Q : Value → Shared → Prop} {y : Str} {t : Tok} {news : List (Addr × Obj)} (J : Nat → List Value → List (Addr × Obj) → Prop)
    (hh : A.handled = none) (F : Fr h₀ L s.heap m) (N : News h₀ L s.heap news) (hy : y.length ≤ sizeLine) (h0 : J 0 [] news)
    (step : ∀ i c u ys news' I oI C oC D m₂ h tk (E' : Value → Shared → Prop), y.cps[i]? = some c → J i ys news' → LCg.NsObj oC m₂ → m₂ x = some (.str ⟨#[c]⟩ u) → Fr h₀ L h m → News h₀ L h ((I, oI) :: (C, oC) :: (D, LCg.lst ys) :: news') → LCg.Off3 I C D news' → ((@Ne Nat I C) ∧ (@Ne Nat I D) ∧ (@Ne Nat C D)) →
      wpAny (model prog w) A (eval elt (compEnvC scope cl C env)) (LCg.CompEnd h₀ L m { s with heap := h, toks := tk } I oI C oC D (LCg.lst ys) (fun _ => True) (fun z news'' => J (i + 1) (ys ++ [z]) news'')) E' { s with heap := h, toks := tk })
    (fin : ∀ D h tk ys news', J y.length ys news' → Fr h₀ L h m → News h₀ L h ((D, LCg.lst ys) :: news') → LCg.Off1 D news' → Q (.ref D) { s with heap := h, toks := tk }) :
    StrSrc prog w A h₀ L m env elt x scope cl Q (.str y t) s := by
  refine ⟨y, t, news, rfl, hh, F, N, hy, ?_⟩
  rintro s₂ ⟨h₂, rfl⟩
  refine comp_ind J y.length ?_ (fun ys news' hj D h tk F' N' o' => fin D h tk ys news' hj F' N' o') y.length 0 [] news (Nat.zero_add _) h0
  rintro i ys news' v I oI C oC D m₂ h tk E' hi hj ⟨c, u, hc, rfl⟩ hC hx F' N' off ne
  exact step i c u ys news' I oI C oC D m₂ h tk E' hc hj hC hx F' N' off ne
/-- all of a list of truths -/
theorem call_all_bools {D : Addr} {bs : List Bool} {c : Nat} {news : List (Addr × Obj)} {Q : Value → Shared → Prop} (hh : A.handled = none) (F : Fr h₀ L s.heap m) (N : News h₀ L s.heap ((D, { cls := .type "list", data := .seq (bs.map Value.bool).toArray c }) :: news))
    (h : ∀ h' tk, Fr h₀ L h' m → News h₀ L h' news → Q (.bool (bs.all id)) { s with heap := h', toks := tk }) : wpAny (model prog w) A (call (.builtin "all") [.ref D]) Q E s := by
  have hl : s.heap.IsList D (bs.map Value.bool).toArray := ⟨_, (N _ (.head _)).1, rfl, c, rfl⟩
  have hlt : D < s.heap.objs.size := Heap.lt_size (N _ (.head _)).1
  refine call_all_walk (wpAny_pyIter_list hl ?_)
  refine ⟨s.heap.objs.size, _, _, _, _, _, fun i => (bs[i]?).getD false, rfl, Walks.list (A := A.in1) hh _ D (Nat.ne_of_lt hlt) (bs.map Value.bool).toArray, ⟨⟨_, Heap.get?_push_size _ rfl, rfl, rfl⟩, hl.push _⟩, ?_, fun h' tk hk => ?_⟩
  · intro i v s' Q' E' hP hQ
    simp only [List.getElem?_toArray, List.getElem?_map] at hP
    cases e : bs[i]? with
    | none => rw [e] at hP; cases hP
    | some b =>
      rw [e] at hP
      cases hP
      simp only [e, Option.getD_some] at hQ
      exact wpAny_pure hQ
  · have e : (List.range (bs.map Value.bool).toArray.size).all (fun i => (bs[i]?).getD false) = bs.all id := by
      have : (List.range (bs.map Value.bool).toArray.size).map (fun i => (bs[i]?).getD false) = bs := by
        apply List.ext_getElem?
        intro i
        by_cases hi : i < bs.length
        · simp [hi]
        · simp [hi]
      conv => rhs; rw [← this]
      rw [List.all_map]
      rfl
    rw [e]
    have up : ∀ b o, b ≠ s.heap.objs.size → s.heap.get? b = some o → h'.get? b = some o := fun b o hb q => hk b o (fun hm => hb (List.mem_singleton.mp hm)) (Heap.get?_push_of_some _ q)
    have F1 : Fr h₀ L h' m := ⟨F.ns.at' fun o q => up _ _ (Nat.ne_of_lt F.ns.lt) q, fun b o q => up b o (Nat.ne_of_lt (Heap.lt_size (F.keep b o q))) (F.keep b o q), F.above⟩
    exact h h' tk F1 fun q hq => ⟨up _ _ (Nat.ne_of_lt (Heap.lt_size (N q (.tail _ hq)).1)) (N q (.tail _ hq)).1, (N q (.tail _ hq)).2⟩
/-- a loop over a range, by what holds between its turns -/
noncomputable def StepQ (h₀ : Heap) (L : Addr) (J : (Str → Option Value) → List (Addr × Obj) → Prop) (I : Addr) (oI : Obj) (s : Shared) (Q : Flow → Shared → Prop) (f : Flow) (s₂ : Shared) : Prop :=
  match f with
  | .ret v => Q (.ret v) s₂
  | .brk => Q .next s₂
  | _ => ∃ h' tk m' news', s₂ = { s with heap := h', toks := tk } ∧ Fr h₀ L h' m' ∧ News h₀ L h' ((I, oI) :: news') ∧ (∀ p ∈ news', p.1 ≠ I) ∧ J m' news'
theorem range_turns {target : Expr} {body : List Stmt} {Q : Flow → Shared → Prop} {r : Addr} {a b : Int} {t u v : Tok} {n : Nat} {news : List (Addr × Obj)} (J : Nat → (Str → Option Value) → List (Addr × Obj) → Prop)
    (hh : A.handled = none) (hgo : ∀ I v, letOwnedTupleGo target (.ref I) v = pure ()) (F : Fr h₀ env.locals s.heap m) (N : News h₀ env.locals s.heap news) (hr : IsRange s.heap r a b 1 t u v) (hsm : Builtin.Range.small a b 1 = true) (hn : Builtin.Range.rangeSize a b 1 = ((n : Nat) : Int))
    (h0 : J 0 m news)
    (step : ∀ i t m₁ news₁ h₁ tk₁ I oI, i < n → J i m₁ news₁ → Fr h₀ env.locals h₁ m₁ → News h₀ env.locals h₁ ((I, oI) :: news₁) → (∀ p ∈ news₁, p.1 ≠ I) →
      wpAny (model prog w) A (assign target env (.int (a + (i : Int)) t)) (fun _ s₃ => wpAny (model prog w) A (execs body env) (StepQ h₀ env.locals (J (i + 1)) I oI { s with heap := h₁, toks := tk₁ } Q) E s₃) E { s with heap := h₁, toks := tk₁ })
    (done : ∀ h' tk m' news', Fr h₀ env.locals h' m' → News h₀ env.locals h' news' → J n m' news' → Q .next { s with heap := h', toks := tk }) :
    wpAny (model prog w) A (pyIter (.ref r)) (fun it s₂ => TurnsAt prog w A h₀ env target body Q E it s₂) E s := by
  refine wpAny_pyIter_range hr hsm ?_
  rw [hn]
  have hLs : env.locals < s.heap.objs.size := F.ns.lt
  have W := KTurns.ofWalks (target := target) (LCg.range_walks (prog := prog) (w := w) (I := s.heap.objs.size) hh a n) (fun i v s Q E _ hq => by rw [hgo]; exact wpAny_pure hq)
  refine ⟨s.heap.objs.size, _, _, n, _, _, _, m, news, J, rfl, W, ?_, ?_, ?_, ?_, F.push _, N.grown fun _ _ e => Heap.get?_push_of_some _ e, h0, ?_, ?_⟩
  · intro hm; rw [List.mem_singleton.mp hm] at hLs; exact Nat.lt_irrefl _ hLs
  · intro b hb; rw [List.mem_singleton.mp hb]; exact next_is_new F
  · intro p hp hI; exact absurd (Heap.lt_size (N p hp).1) ((List.mem_singleton.mp hI) ▸ Nat.lt_irrefl _)
  · show IsRangeIter _ _ _ _ _
    simpa using Heap.get?_push_size _ rfl
  · intro i vv m₁ news₁ h₁ tk₁ own hi hP hJ hoff hown hat hall hst F₁ N₁
    obtain ⟨t', rfl⟩ := hP
    obtain ⟨oI, hI⟩ : ∃ oI, h₁.get? s.heap.objs.size = some oI := ⟨_, hst⟩
    have hmem := hall s.heap.objs.size (List.mem_singleton.mpr rfl) (next_is_new F) _ hI
    have N₂ : News h₀ env.locals h₁ ((s.heap.objs.size, oI) :: news₁) := fun q hq => by
      rcases List.mem_cons.mp hq with rfl | hq
      · exact N₁ _ (List.mem_append_left _ hmem)
      · exact N₁ q (List.mem_append_right _ hq)
    refine wpAny_mono (step i t' m₁ news₁ h₁ tk₁ s.heap.objs.size oI hi hJ F₁ N₂ (fun q hq z => hoff q hq (List.mem_singleton.mpr z))) (fun _ s₃ q => wpAny_mono q (fun f s₄ q₄ => ?_) fun _ _ e => e) fun _ _ e => e
    have fin : (∃ h' tk m' news', s₄ = { s with heap := h', toks := tk } ∧ Fr h₀ env.locals h' m' ∧ News h₀ env.locals h' ((s.heap.objs.size, oI) :: news') ∧ (∀ p ∈ news', p.1 ≠ s.heap.objs.size) ∧ J (i + 1) m' news') → LoopStepU h₀ env.locals [s.heap.objs.size] own (J (i + 1)) { s with heap := h₁, toks := tk₁ } .next s₄ := by
      rintro ⟨h', tk, m', news', rfl, F', N', off', hj⟩
      refine ⟨rfl, h', tk, m', news', rfl, F', fun q hq => ?_, fun q hq z => off' q hq (List.mem_singleton.mp z), hj⟩
      rcases List.mem_append.mp hq with hq | hq
      · have e1 := List.mem_singleton.mp (hown q hq)
        have e2 := hat q hq
        rw [e1, hI] at e2
        have : q = (s.heap.objs.size, oI) := Prod.ext e1 (Option.some.inj e2).symm
        rw [this]; exact N' _ (.head _)
      · exact N' q (.tail _ hq)
    cases f with
    | ret v => exact q₄
    | brk => exact q₄
    | next => exact fin q₄
    | cont => exact fin q₄
  · intro h' tk m' news' F' N' _ hj
    exact done h' tk m' news' F' N' hj
end
end Mine
end PartD1
theorem Mine.flushD2 : True := by
  w_top off
  trivial
section PartD2
open PySem PySem.W PyProof.Rows PySem.Calls
set_option Elab.async false
namespace Mine
/-! the cells of the words, plain -/
structure Cell where
  a : List Nat
  b : List Nat
  k : Int
  q : Bool
noncomputable def S (l : List Nat) : Str := ⟨l.toArray⟩
noncomputable def blankC : Cell := ⟨[32], [], -1, false⟩
noncomputable def markC (k : Int) : Cell := ⟨[39], [], k, true⟩
noncomputable def bareC (k : Int) (c : Nat) : Cell := ⟨[c], [c], k, false⟩
noncomputable def quotC (k : Int) (c : Nat) : Cell := ⟨if c = 39 then [39, 34, 39, 34, 39] else [c], [c], k, true⟩
/-- is the word written between marks -/
noncomputable def markedW (w : List Nat) : Bool := !(!w.isEmpty && w.all safeN)
noncomputable def itemCells (k : Int) (q : Bool) (w : List Nat) : List Cell := if q then markC k :: (w.map (quotC k) ++ [markC k]) else w.map (bareC k)
noncomputable def sepC (k : Nat) : List Cell := if 0 < k then [blankC] else []
noncomputable def cellsFrom : Nat → List (List Nat) → List Cell
  | _, [] => []
  | k, w :: ws => sepC k ++ itemCells k (markedW w) w ++ cellsFrom (k + 1) ws
theorem cellsFrom_snoc : ∀ (k : Nat) (ws : List (List Nat)) (w : List Nat), cellsFrom k (ws ++ [w]) = cellsFrom k ws ++ (sepC (k + ws.length) ++ itemCells ((k + ws.length : Nat) : Int) (markedW w) w)
  | k, [], w => by simp [cellsFrom]
  | k, v :: ws, w => by
    have := cellsFrom_snoc (k + 1) ws w
    simp only [List.cons_append, cellsFrom, List.length_cons, this, List.append_assoc]
    rw [show k + 1 + ws.length = k + (ws.length + 1) by omega]
noncomputable def IsCell (o : Obj) (c : Cell) : Prop := o.cls = .type "list" ∧ ∃ t0 t1 t2 n, o.data = .seq #[.str (S c.a) t0, .str (S c.b) t1, .int c.k t2, .bool c.q] n
noncomputable def CellsIn (news : List (Addr × Obj)) : List Value → List Cell → Prop
  | [], [] => True
  | v :: vs, c :: cs => (∃ a o, v = .ref a ∧ (a, o) ∈ news ∧ IsCell o c) ∧ CellsIn news vs cs
  | _, _ => False
theorem CellsIn.mono {n n' : List (Addr × Obj)} (hs : ∀ p ∈ n, p ∈ n') : ∀ {vs : List Value} {cs : List Cell}, CellsIn n vs cs → CellsIn n' vs cs
  | [], [], _ => trivial
  | _ :: _, _ :: _, ⟨⟨a, o, e, hm, hc⟩, r⟩ => ⟨⟨a, o, e, hs _ hm, hc⟩, CellsIn.mono hs r⟩
theorem CellsIn.append {n : List (Addr × Obj)} : ∀ {vs : List Value} {cs : List Cell} {vs' : List Value} {cs' : List Cell}, CellsIn n vs cs → CellsIn n vs' cs' → CellsIn n (vs ++ vs') (cs ++ cs')
  | [], [], _, _, _, h => h
  | _ :: _, _ :: _, _, _, ⟨x, r⟩, h => ⟨x, CellsIn.append r h⟩
theorem CellsIn.length {n : List (Addr × Obj)} : ∀ {vs : List Value} {cs : List Cell}, CellsIn n vs cs → vs.length = cs.length
  | [], [], _ => rfl
  | _ :: _, _ :: _, ⟨_, r⟩ => by simp [CellsIn.length r]
theorem S_one (c : Nat) : S [c] = ⟨#[c]⟩ := rfl
end Mine
end PartD2
theorem Mine.flushD2b : True := by
  w_top off
  trivial
section PartD2b
open PySem PySem.W PyProof.Rows PySem.Calls
set_option Elab.async false
namespace Mine
theorem base_list {h₀ h : Heap} {L W : Addr} {m : Str → Option Value} {items : Array Value} (F : Fr h₀ L h m) (hl : h₀.IsList W items) : h.IsList W items := by obtain ⟨o, e, r⟩ := hl; exact ⟨o, F.keep _ _ e, r⟩
theorem item_base {prog : Program} {w : World} {A : Around} {E : Value → Shared → Prop} {s : Shared} {value slice : PySem.Expr} {h₀ : Heap} {L W : Addr} {m : Str → Option Value} {items : Array Value} {ws : List Str} {i : Nat} {y : Str} {k : Int} {u : Tok} {Q : Value → Shared → Prop}
    (F : Fr h₀ L s.heap m) (hl : h₀.IsList W items) (hst : StrsAre items.toList ws) (h3 : ws.length ≤ 3) (hk : k = (i : Int)) (hy : ws[i]? = some y) (h : ∀ t, Q (.str y t) s)
    (hs : subscripted slice false (.ref W) (.int k u) = operate [.ref W, .int k u] (getItem (.ref W) (.int k u)) := by with_unfolding_all rfl) :
    wpAny (model prog w) A (subscriptTail value slice (.ref W) (.int k u)) Q E s := by
  have hls := base_list F hl
  have hi : i < ws.length := (List.getElem?_eq_some_iff.mp hy).1
  have hi2 : i < items.size := by rw [← Array.length_toList, hst.length]; exact hi
  obtain ⟨y', t, e1, e2⟩ := hst.get i items[i] (by rw [Array.getElem?_toList]; exact Array.getElem?_eq_getElem hi2)
  rw [hy] at e1
  cases e1
  refine tail_any hls.typeIs slot_list_getitem.lookup (wpAny_getItem_list hls (by omega) (by omega) (x := items[i]) (by rw [hk]; simp [hi2]) ?_) hs
  rw [e2]
  exact h t
/-- what holds behind a turn of the loop over the words -/
noncomputable def CellTurn (h₀ : Heap) (L : Addr) (m : Str → Option Value) (CL c1 c2 : Addr) (o1 : Obj) (I : Addr) (oI : Obj) (cs : List Cell) (kv : Value) (s : Shared) (f : Flow) (s₂ : Shared) : Prop :=
  f = .next ∧ ∃ h' tk vs c ok tl, s₂ = { s with heap := h', toks := tk } ∧ Fr h₀ L h' m ∧ News h₀ L h' ((I, oI) :: (CL, W.listOf vs.toArray c) :: (c2, ok) :: (c1, o1) :: tl) ∧ CellsIn tl vs cs ∧ ok.data = .cell (some kv) ∧
    (∀ p ∈ tl, p.1 ≠ CL) ∧ (∀ p ∈ tl, p.1 ≠ c2) ∧ (∀ p ∈ tl, p.1 ≠ c1) ∧ (∀ p ∈ tl, p.1 ≠ I)
theorem itemCells_len (k : Int) (q : Bool) (w : List Nat) (h : w.length ≤ 4) : (itemCells k q w).length ≤ 6 := by
  unfold itemCells
  split
  · simp; omega
  · simp; omega
theorem cellsFrom_len : ∀ (k : Nat) (ws : List (List Nat)), (∀ w ∈ ws, w.length ≤ 4) → (cellsFrom k ws).length ≤ 7 * ws.length
  | _, [], _ => Nat.le_refl _
  | k, w :: ws, h => by
    have h1 := cellsFrom_len (k + 1) ws fun v hv => h v (List.mem_cons_of_mem _ hv)
    have h2 := itemCells_len k (markedW w) w (h w List.mem_cons_self)
    have h3 : (sepC k).length ≤ 1 := by unfold sepC; split <;> simp
    simp only [cellsFrom, List.length_append, List.length_cons]
    omega
noncomputable abbrev wl (ws : List Str) : List (List Nat) := ws.map fun y => y.cps.toList
theorem cell_two {prog : Program} {w : World} {A : Around} {E : Value → Shared → Prop} {s s₀ : Shared} {h₀ : Heap} {L : Addr} {m : Str → Option Value} {env : Env} {CL c1 c2 I : Addr} {o1 oI : Obj} {kv : Value} {S1 : Stmt} {rest : List Stmt} {cs2 : List Cell} (cs1 : List Cell)
    (h1 : wpAny (model prog w) A (exec S1 env) (CellTurn h₀ L m CL c1 c2 o1 I oI cs1 kv s₀) E s)
    (h2 : ∀ h' tk vs c ok tl, Fr h₀ L h' m → News h₀ L h' ((I, oI) :: (CL, W.listOf vs.toArray c) :: (c2, ok) :: (c1, o1) :: tl) → CellsIn tl vs cs1 → ok.data = .cell (some kv) → (∀ p ∈ tl, p.1 ≠ CL) → (∀ p ∈ tl, p.1 ≠ c2) → (∀ p ∈ tl, p.1 ≠ c1) → (∀ p ∈ tl, p.1 ≠ I) →
      wpAny (model prog w) A (execs rest env) (CellTurn h₀ L m CL c1 c2 o1 I oI cs2 kv s₀) E { s₀ with heap := h', toks := tk }) :
    wpAny (model prog w) A (execs (S1 :: rest) env) (CellTurn h₀ L m CL c1 c2 o1 I oI cs2 kv s₀) E s := by
  refine wpAny_execs_cons (wpAny_mono h1 (fun f s' q => ?_) fun _ _ e => e)
  obtain ⟨rfl, h', tk, vs, c, ok, tl, rfl, F', N', hc, hok, g1, g2, g3, g4⟩ := q
  exact h2 h' tk vs c ok tl F' N' hc hok g1 g2 g3 g4
theorem cell_last {prog : Program} {w : World} {A : Around} {E : Value → Shared → Prop} {s s₀ : Shared} {h₀ : Heap} {L : Addr} {m : Str → Option Value} {env : Env} {CL c1 c2 I : Addr} {o1 oI : Obj} {kv : Value} {S1 : Stmt} {cs2 : List Cell}
    (h1 : wpAny (model prog w) A (exec S1 env) (CellTurn h₀ L m CL c1 c2 o1 I oI cs2 kv s₀) E s) : wpAny (model prog w) A (execs [S1] env) (CellTurn h₀ L m CL c1 c2 o1 I oI cs2 kv s₀) E s := by
  refine wpAny_execs_cons (wpAny_mono h1 (fun f s' q => ?_) fun _ _ e => e)
  obtain ⟨rfl, r⟩ := q
  exact wpAny_execs_nil ⟨rfl, r⟩
theorem isCell_of {x y : Str} {t0 t1 t2 : Tok} {k : Int} {q : Bool} {n : Nat} {c : Cell} (hx : x = S c.a) (hy : y = S c.b) (hk : k = c.k) (hq : q = c.q) : IsCell (W.listOf #[.str x t0, .str y t1, .int k t2, .bool q] n) c := by
  subst hx hy hk hq
  exact ⟨rfl, t0, t1, t2, n, rfl⟩
theorem S32 : Str.ofString " " = S [32] := by decide +kernel
theorem S39 : Str.ofString "'" = S [39] := by decide +kernel
theorem Snil : Str.ofString "" = S [] := by decide +kernel
theorem S5 : Str.ofString "'\"'\"'" = S [39, 34, 39, 34, 39] := by decide +kernel
theorem CellTurn.push {s : Shared} {h₀ h' : Heap} {L : Addr} {m : Str → Option Value} {CL c1 c2 I a : Addr} {o o1 oI ok : Obj} {kv : Value} {cs cs' : List Cell} {cell : Cell} {vs : List Value} {c : Nat} {tl : List (Addr × Obj)} {tk : Nat}
    (F : Fr h₀ L h' m) (N : News h₀ L h' ((a, o) :: (I, oI) :: (CL, W.listOf (vs.toArray.push (.ref a)) c) :: (c2, ok) :: (c1, o1) :: tl)) (hc : CellsIn tl vs cs) (ho : IsCell o cell) (hok : ok.data = .cell (some kv))
    (f1 : ∀ p ∈ tl, p.1 ≠ CL) (f2 : ∀ p ∈ tl, p.1 ≠ c2) (f3 : ∀ p ∈ tl, p.1 ≠ c1) (f4 : ∀ p ∈ tl, p.1 ≠ I) (l1 : @Ne Nat a I) (l2 : @Ne Nat a CL) (l3 : @Ne Nat a c2) (l4 : @Ne Nat a c1) (he : cs' = cs ++ [cell]) :
    CellTurn h₀ L m CL c1 c2 o1 I oI cs' kv s .next { s with heap := h', toks := tk } := by
  have all : ∀ (b : Addr), @Ne Nat a b → (∀ p ∈ tl, p.1 ≠ b) → ∀ p ∈ (a, o) :: tl, p.1 ≠ b := fun b h1 h2 p hp => by
    rcases List.mem_cons.mp hp with rfl | hp
    · exact h1
    · exact h2 p hp
  refine ⟨rfl, h', tk, vs ++ [.ref a], c, ok, (a, o) :: tl, rfl, F, fun p hp => N p ?_, ?_, hok, all _ l2 f1, all _ l3 f2, all _ l4 f3, all _ l1 f4⟩
  · rw [show (vs ++ [Value.ref a]).toArray = vs.toArray.push (.ref a) by simp] at hp
    simp only [List.mem_cons] at hp ⊢
    rcases hp with h | h | h | h | h | h
    · exact .inr (.inl h)
    · exact .inr (.inr (.inl h))
    · exact .inr (.inr (.inr (.inl h)))
    · exact .inr (.inr (.inr (.inr (.inl h))))
    · exact .inl h
    · exact .inr (.inr (.inr (.inr (.inr h))))
  · rw [he]
    exact (hc.mono fun p hp => List.mem_cons_of_mem _ hp).append ⟨⟨a, o, rfl, List.mem_cons_self, ho⟩, trivial⟩
noncomputable def CellTest (h₀ : Heap) (L : Addr) (m : Str → Option Value) (led : List (Addr × Obj)) (b0 : Bool) (s₀ : Shared) (b : Bool) (s' : Shared) : Prop := b = b0 ∧ ∃ h' tk, s' = { s₀ with heap := h', toks := tk } ∧ Fr h₀ L h' m ∧ News h₀ L h' led
theorem cell_if {prog : Program} {w : World} {A : Around} {E : Value → Shared → Prop} {s : Shared} {h₀ : Heap} {L : Addr} {m : Str → Option Value} {env : Env} {led : List (Addr × Obj)} {test : Expr} {body orelse : List Stmt} {pos : Pos} {Q : Flow → Shared → Prop} (_F0 : Fr h₀ L s.heap m) (_N0 : News h₀ L s.heap led) (b0 : Bool)
    (h1 : wpAny (model prog w) A (isTrue test env (eval test env)) (CellTest h₀ L m led b0 s) E s)
    (ht : b0 = true → ∀ h' tk, Fr h₀ L h' m → News h₀ L h' led → wpAny (model prog w) A (execs body env) Q E { s with heap := h', toks := tk })
    (he : b0 = false → ∀ h' tk, Fr h₀ L h' m → News h₀ L h' led → wpAny (model prog w) A (execs orelse env) Q E { s with heap := h', toks := tk }) :
    wpAny (model prog w) A (exec (.If test body orelse pos) env) Q E s := by
  refine wpAny_If (wpAny_mono h1 (fun b s' q => ?_) fun _ _ e => e)
  obtain ⟨rfl, h', tk, rfl, F', N'⟩ := q
  cases b with
  | true => exact ht rfl h' tk F' N'
  | false => exact he rfl h' tk F' N'
theorem safe_found (c : Nat) : (!(Builtin.Str.occurrences (Str.ofString "abcdefghijklmnopqrstuvwxyzABCDEFGHIJKLMNOPQRSTUVWXYZ0123456789_@%+=:,./-") ⟨#[c]⟩ 0 (Str.ofString "abcdefghijklmnopqrstuvwxyzABCDEFGHIJKLMNOPQRSTUVWXYZ0123456789_@%+=:,./-").length 1).isEmpty) = safeN c := by
  rw [StrLaws.found_one]
  unfold safeN
  rw [List.contains_eq_mem]
theorem take_sign {α : Type} {y : Str} {j c : Nat} (f : Nat → α) (h : y.cps[j]? = some c) : (y.cps.toList.take j).map f ++ [f c] = (y.cps.toList.take (j + 1)).map f := by
  rw [List.take_succ, Array.getElem?_toList, h]
  simp
theorem take_full (y : Str) : y.cps.toList.take y.length = y.cps.toList := List.take_of_length_le (by rw [Array.length_toList]; exact Nat.le_refl _)
theorem emp_iff (y : Str) : (y != Str.ofString "") = !y.cps.toList.isEmpty := by
  by_cases h : y = Str.ofString ""
  · subst h; decide +kernel
  · have h1 : (y != Str.ofString "") = true := bne_iff_ne.mpr h
    have h2 : y.cps.toList.isEmpty = false := by
      cases e : y.cps.toList with
      | nil => exact absurd (Str.ext' (Array.toList_inj.mp (e.trans (by decide +kernel)))) h
      | cons a l => rfl
    rw [h1, h2]; rfl
theorem test_no {y : Str} (h : (y != Str.ofString "") = false) : false = !markedW y.cps.toList := by
  rw [emp_iff] at h
  unfold markedW
  rw [h]; rfl
theorem test_no' {y : Str} (h : y = Str.ofString "") : false = !markedW y.cps.toList := test_no (by subst h; decide +kernel)
theorem test_all {y : Str} (h : (y != Str.ofString "") = true) : ((y.cps.toList.take y.length).map safeN).all id = !markedW y.cps.toList := by
  rw [emp_iff] at h
  unfold markedW
  rw [h, take_full, List.all_map]
  simp
theorem test_all' {y : Str} (h : ¬ y = Str.ofString "") : ((y.cps.toList.take y.length).map safeN).all id = !markedW y.cps.toList := test_all (bne_iff_ne.mpr h)
theorem test_allT {y : Str} {b : Bool} (h : (y != Str.ofString "") = true) (a : ((y.cps.toList.take y.length).map safeN).all id = b) : b = !markedW y.cps.toList := a.symm.trans (test_all h)
theorem extend_turn {prog : Program} {w : World} {A : Around} {E : Value → Shared → Prop} {s : Shared} {h₀ : Heap} {L : Addr} {m : Str → Option Value} {CL c1 c2 I D : Addr} {o1 oI ok : Obj} {vs ys : List Value} {c : Nat} {tl : List (Addr × Obj)} {Q : Value → Shared → Prop}
    (F : Fr h₀ L s.heap m) (N : News h₀ L s.heap ((D, LCg.lst ys) :: (I, oI) :: (CL, W.listOf vs.toArray c) :: (c2, ok) :: (c1, o1) :: tl)) (hz : vs.length + ys.length ≤ 1000) (hD : @Ne Nat D CL) (hI : @Ne Nat I CL) (h2 : @Ne Nat c2 CL) (h1 : @Ne Nat c1 CL) (ht : ∀ p ∈ tl, p.1 ≠ CL)
    (h : ∀ h' c', Fr h₀ L h' m → News h₀ L h' ((I, oI) :: (CL, W.listOf (vs ++ ys).toArray c') :: (c2, ok) :: (c1, o1) :: tl) → Q .none { s with heap := h' }) :
    wpAny (model prog w) A (call (.builtin "list.extend") [.ref CL, .ref D]) Q E s := by
  have zD := N (D, LCg.lst ys) (.head _)
  have zC := N (CL, W.listOf vs.toArray c) (.tail _ (.tail _ (.head _)))
  have hl : s.heap.IsList CL vs.toArray := ⟨_, zC.1, rfl, c, rfl⟩
  refine wpAny_call_entry PySem.F.slot_list_extend hl.typeIs PySem.F.entry_list_extend ?_ (PySem.F.args_list_extend_2 _ _)
  show wpAny _ _ (Builtin.List.listExtendWith (.ref CL) (.ref D) .none) _ _ s
  unfold Builtin.List.listExtendWith
  refine wpAny_bind (wpAny_typeOf (T := "list") ⟨_, zD.1, rfl⟩ ?_)
  rw [if_pos (by simp)]
  unfold Builtin.List.listItems
  refine wpAny_bind (wpAny_bind (wpAny_seqItems zD.1 rfl (wpAny_pure ?_)))
  refine wpAny_bind (wpAny_bind (wpAny_seqItems zC.1 rfl (wpAny_pure ?_)))
  rw [if_neg (by
    simp only [Bool.and_eq_true, not_and, Builtin.List.listTooLong]
    intro _ hh
    simp only [List.size_toArray, decide_eq_true_eq] at hh
    revert hh
    simp only [sizeLine_eq]
    omega)]
  show wpAny _ _ (updateSeq CL (· ++ ys.toArray) >>= _) _ _ s
  refine wpAny_bind (wpAny_updateSeq zC.1 rfl ?_ (by rw [List.size_toArray, sizeLine_eq]; omega) (by simp only [Array.size_append, List.size_toArray, sizeLine_eq]; omega))
  refine wpAny_pure ⟨.none, rfl, ?_⟩
  have sb : Heap.SameBut CL s.heap (s.heap.update CL (Obj.mapSeq (· ++ ys.toArray))) := Heap.SameBut.update ..
  have hg := Heap.get?_update_self (Obj.mapSeq (· ++ ys.toArray)) zC.1 rfl
  have old : ∀ q, q ∈ ((D, LCg.lst ys) :: (I, oI) :: (CL, W.listOf vs.toArray c) :: (c2, ok) :: (c1, o1) :: tl) → q.1 ≠ CL → (s.heap.update CL (Obj.mapSeq (· ++ ys.toArray))).get? q.1 = some q.2 ∧ q.1 ≠ L ∧ h₀.get? q.1 = none := fun q hq hne => ⟨sb.extBut _ _ hne (N q hq).1, (N q hq).2⟩
  obtain ⟨cc, hg⟩ : ∃ cc, (s.heap.update CL (Obj.mapSeq (· ++ ys.toArray))).get? CL = some (W.listOf (vs ++ ys).toArray cc) := ⟨_, hg.trans (by rw [← List.append_toArray]; rfl)⟩
  refine h _ cc (F.change sb zC.2.1 zC.2.2) fun q hq => ?_
  rcases List.mem_cons.mp hq with rfl | hq
  · exact old _ (.tail _ (.head _)) hI
  · rcases List.mem_cons.mp hq with rfl | hq
    · exact ⟨hg, zC.2⟩
    · rcases List.mem_cons.mp hq with rfl | hq
      · exact old _ (.tail _ (.tail _ (.tail _ (.head _)))) h2
      · rcases List.mem_cons.mp hq with rfl | hq
        · exact old _ (.tail _ (.tail _ (.tail _ (.tail _ (.head _))))) h1
        · exact old _ (.tail _ (.tail _ (.tail _ (.tail _ (.tail _ hq))))) (ht q hq)
/-- one made cell -/
noncomputable def CellEl (h₀ : Heap) (L : Addr) (m : Str → Option Value) (led : List (Addr × Obj)) (cell : Cell) (s : Shared) (z : Value) (s₂ : Shared) : Prop :=
  ∃ h' tk a o, z = .ref a ∧ s₂ = { s with heap := h', toks := tk } ∧ Fr h₀ L h' m ∧ News h₀ L h' ((a, o) :: led) ∧ IsCell o cell ∧ AllLt a led
theorem off3_cons {I C D : Addr} {p : Addr × Obj} {l : List (Addr × Obj)} (h : (@Ne Nat p.1 I) ∧ (@Ne Nat p.1 C) ∧ (@Ne Nat p.1 D)) (r : LCg.Off3 I C D l) : LCg.Off3 I C D (p :: l) := ⟨h, r⟩
theorem src_cells {prog : Program} {w : World} {A : Around} {s : Shared} {h₀ : Heap} {L : Addr} {m : Str → Option Value} {env : Env} {elt : Expr} {x : Str} {scope : Scope} {cl : List (Str × Addr)} {Q : Value → Shared → Prop} {y : Str} {t : Tok} {I CL c1 c2 : Addr} {oI oCL ok o1 : Obj} {tl : List (Addr × Obj)} (f : Nat → Cell)
    (hh : A.handled = none) (F : Fr h₀ L s.heap m) (N : News h₀ L s.heap ((I, oI) :: (CL, oCL) :: (c2, ok) :: (c1, o1) :: tl)) (hy : y.length ≤ 4)
    (f1 : ∀ p ∈ tl, p.1 ≠ CL) (f2 : ∀ p ∈ tl, p.1 ≠ c2) (f3 : ∀ p ∈ tl, p.1 ≠ c1) (f4 : ∀ p ∈ tl, p.1 ≠ I)
    (step : ∀ c u ys tl' I2 oI2 C2 oC2 D2 m₂ h tk (E' : Value → Shared → Prop), LCg.NsObj oC2 m₂ → m₂ x = some (.str ⟨#[c]⟩ u) → Fr h₀ L h m → News h₀ L h ((I2, oI2) :: (C2, oC2) :: (D2, LCg.lst ys) :: (I, oI) :: (CL, oCL) :: (c2, ok) :: (c1, o1) :: tl') →
      wpAny (model prog w) A (eval elt (compEnvC scope cl C2 env)) (CellEl h₀ L m ((I2, oI2) :: (C2, oC2) :: (D2, LCg.lst ys) :: (I, oI) :: (CL, oCL) :: (c2, ok) :: (c1, o1) :: tl') (f c) { s with heap := h, toks := tk }) E' { s with heap := h, toks := tk })
    (fin : ∀ D h tk ys tl', Fr h₀ L h m → News h₀ L h ((D, LCg.lst ys) :: (I, oI) :: (CL, oCL) :: (c2, ok) :: (c1, o1) :: tl') → CellsIn tl' ys (y.cps.toList.map f) → (∀ p ∈ tl, p ∈ tl') → (∀ p ∈ tl', p.1 ≠ CL) → (∀ p ∈ tl', p.1 ≠ c2) → (∀ p ∈ tl', p.1 ≠ c1) → (∀ p ∈ tl', p.1 ≠ I) → @Ne Nat D CL → ys.length ≤ 4 → Q (.ref D) { s with heap := h, toks := tk }) :
    StrSrc prog w A h₀ L m env elt x scope cl Q (.str y t) s := by
  refine src_ind (fun j ys news' => ∃ tl', news' = (I, oI) :: (CL, oCL) :: (c2, ok) :: (c1, o1) :: tl' ∧ (∀ p ∈ tl, p ∈ tl') ∧ CellsIn tl' ys ((y.cps.toList.take j).map f) ∧ (∀ p ∈ tl', p.1 ≠ CL) ∧ (∀ p ∈ tl', p.1 ≠ c2) ∧ (∀ p ∈ tl', p.1 ≠ c1) ∧ (∀ p ∈ tl', p.1 ≠ I)) hh F N (by rw [sizeLine_eq]; omega) ⟨tl, rfl, fun _ h => h, trivial, f1, f2, f3, f4⟩ ?_ ?_
  · rintro j ch u ys news' I2 oI2 C2 oC2 D2 m2 h2 tk2 E2 hch ⟨tl', rfl, hs', hc', e1, e2, e3, e4⟩ hC2 hx2 F2 N2 off2 ne2
    refine wpAny_mono (step ch u ys tl' I2 oI2 C2 oC2 D2 m2 h2 tk2 E2 hC2 hx2 F2 N2) (fun z s₂ q => ?_) fun _ _ e => e
    obtain ⟨h', tk, a, o, rfl, rfl, F', N', hcell, hlt⟩ := q
    have lt : ∀ p ∈ ((I2, oI2) :: (C2, oC2) :: (D2, LCg.lst ys) :: (I, oI) :: (CL, oCL) :: (c2, ok) :: (c1, o1) :: tl'), p.1 < a := fun p hp => by
      have gen : ∀ (l : List (Addr × Obj)), AllLt a l → ∀ p ∈ l, p.1 < a := fun l => by
        induction l with
        | nil => intro _ p hp; cases hp
        | cons q r ih => intro hl p hp; rcases List.mem_cons.mp hp with rfl | hp; exact hl.1; exact ih hl.2 p hp
      exact gen _ hlt p hp
    have ne : ∀ p ∈ ((I2, oI2) :: (C2, oC2) :: (D2, LCg.lst ys) :: (I, oI) :: (CL, oCL) :: (c2, ok) :: (c1, o1) :: tl'), @Ne Nat a p.1 := fun p hp => Nat.ne_of_gt (lt p hp)
    have all : ∀ (b : Addr), @Ne Nat a b → (∀ p ∈ tl', p.1 ≠ b) → ∀ p ∈ (a, o) :: tl', p.1 ≠ b := fun b h1 h2 p hp => by
      rcases List.mem_cons.mp hp with rfl | hp
      · exact h1
      · exact h2 p hp
    refine LCg.CompEnd.intro F' N' ((I, oI) :: (CL, oCL) :: (c2, ok) :: (c1, o1) :: (a, o) :: tl') ?_ ?_ trivial ⟨(a, o) :: tl', rfl, fun p hp => List.mem_cons_of_mem _ (hs' p hp), ?_, all _ (ne (CL, oCL) (by simp)) e1, all _ (ne (c2, ok) (by simp)) e2, all _ (ne (c1, o1) (by simp)) e3, all _ (ne (I, oI) (by simp)) e4⟩
    · intro p hp
      simp only [List.mem_cons] at hp ⊢
      rcases hp with h | h | h | h | h | h | h | h | h
      · exact .inr (.inl h)
      · exact .inr (.inr (.inl h))
      · exact .inr (.inr (.inr (.inl h)))
      · exact .inr (.inr (.inr (.inr (.inl h))))
      · exact .inr (.inr (.inr (.inr (.inr (.inl h)))))
      · exact .inr (.inr (.inr (.inr (.inr (.inr (.inl h))))))
      · exact .inr (.inr (.inr (.inr (.inr (.inr (.inr (.inl h)))))))
      · exact .inl h
      · exact .inr (.inr (.inr (.inr (.inr (.inr (.inr (.inr h)))))))
    · refine off3_cons off2.1 (off3_cons off2.2.1 (off3_cons off2.2.2.1 (off3_cons off2.2.2.2.1 (off3_cons ⟨ne (I2, oI2) (by simp), ne (C2, oC2) (by simp), ne (D2, LCg.lst ys) (by simp)⟩ off2.2.2.2.2))))
    · rw [← take_sign f hch]
      exact (hc'.mono fun p hp => List.mem_cons_of_mem _ hp).append ⟨⟨a, o, rfl, List.mem_cons_self, hcell⟩, trivial⟩
  · rintro D h tk ys news' ⟨tl', rfl, hs', hc', e1, e2, e3, e4⟩ F' N' o'
    rw [take_full] at hc'
    refine fin D h tk ys tl' F' N' hc' hs' e1 e2 e3 e4 (Ne.symm o'.2.1) ?_
    rw [hc'.length, List.length_map, Array.length_toList]
    exact hy
theorem cells_next {ws : List Str} {i : Nat} {y : Str} (h : ws[i]? = some y) : cellsFrom 0 (wl (ws.take (i + 1))) = (cellsFrom 0 (wl (ws.take i)) ++ sepC i) ++ itemCells (i : Int) (markedW y.cps.toList) y.cps.toList := by
  have hi : i < ws.length := (List.getElem?_eq_some_iff.mp h).1
  have e : wl (ws.take (i + 1)) = wl (ws.take i) ++ [y.cps.toList] := by
    unfold wl
    rw [List.take_succ, h]; simp
  have hl : (wl (ws.take i)).length = i := by simp [wl]; omega
  rw [e, cellsFrom_snoc, hl, Nat.zero_add, List.append_assoc]
theorem chq {c : Nat} (h : ((⟨#[c]⟩ : Str) == Str.ofString "'") = true) : c = 39 := by
  have := eq_of_beq h
  rw [S39] at this
  simpa [S] using this
theorem chq' {c : Nat} (h : ((⟨#[c]⟩ : Str) == Str.ofString "'") = false) : c ≠ 39 := by
  rintro rfl
  revert h
  decide +kernel
theorem qa_yes {c : Nat} {k : Int} (h : ((⟨#[c]⟩ : Str) == Str.ofString "'") = true) : Str.ofString "'\"'\"'" = S (quotC k c).a := by
  rw [S5]; unfold quotC; rw [if_pos (chq h)]
theorem qa_no {c : Nat} {k : Int} (h : ((⟨#[c]⟩ : Str) == Str.ofString "'") = false) : (⟨#[c]⟩ : Str) = S (quotC k c).a := by
  unfold quotC; rw [if_neg (chq' h)]; rfl
theorem loop_cells {prog : Program} {w : World} {A : Around} {E : Value → Shared → Prop} {s : Shared} {h₀ : Heap} {m : Str → Option Value} {env : Env} {target : Expr} {body : List Stmt} {Q : Flow → Shared → Prop} {r CL c1 c2 : Addr} {o1 o2 : Obj} {t u v : Tok} {items : Array Value} {ws : List Str}
    (hh : A.handled = none) (hgo : ∀ I v, letOwnedTupleGo target (.ref I) v = pure ()) (F : Fr h₀ env.locals s.heap m) (N : News h₀ env.locals s.heap [(CL, W.listOf #[] 0), (c2, o2), (c1, o1)]) (hr : IsRange s.heap r 0 ((items.size : Nat) : Int) 1 t u v)
    (hsz : items.size = ws.length) (h3 : ws.length ≤ 3) (hd2 : ∃ v, o2.data = .cell v)
    (turn : ∀ (i : Nat) (y : Str) (k : Int) (t : Tok) (vs : List Value) (c : Nat) (ok : Obj) (tl : List (Addr × Obj)) (h₁ : Heap) (tk₁ : Nat) (I : Addr) (oI : Obj), ws[i]? = some y → k = (i : Int) → i < 3 → CellsIn tl vs (cellsFrom 0 (wl (ws.take i))) → (∃ v, ok.data = .cell v) →
      (∀ p ∈ tl, p.1 ≠ CL) → (∀ p ∈ tl, p.1 ≠ c2) → (∀ p ∈ tl, p.1 ≠ c1) → (∀ p ∈ tl, p.1 ≠ I) → @Ne Nat CL I → @Ne Nat c2 I → @Ne Nat c1 I → Fr h₀ env.locals h₁ m → News h₀ env.locals h₁ ((I, oI) :: (CL, W.listOf vs.toArray c) :: (c2, ok) :: (c1, o1) :: tl) →
      wpAny (model prog w) A (assign target env (.int k t)) (fun _ s₃ => wpAny (model prog w) A (execs body env) (CellTurn h₀ env.locals m CL c1 c2 o1 I oI (cellsFrom 0 (wl (ws.take (i + 1)))) (.int k t) { s with heap := h₁, toks := tk₁ }) E s₃) E { s with heap := h₁, toks := tk₁ })
    (done : ∀ h' tk vs c ok tl, Fr h₀ env.locals h' m → News h₀ env.locals h' ((CL, W.listOf vs.toArray c) :: (c2, ok) :: (c1, o1) :: tl) → CellsIn tl vs (cellsFrom 0 (wl ws)) → (∀ p ∈ tl, p.1 ≠ CL) → Q .next { s with heap := h', toks := tk }) :
    wpAny (model prog w) A (pyIter (.ref r)) (fun it s₂ => TurnsAt prog w A h₀ env target body Q E it s₂) E s := by
  refine range_turns (n := ws.length) (fun i m₁ news₁ => m₁ = m ∧ ∃ vs c ok tl, news₁ = (CL, W.listOf vs.toArray c) :: (c2, ok) :: (c1, o1) :: tl ∧ CellsIn tl vs (cellsFrom 0 (wl (ws.take i))) ∧ (∃ v, ok.data = .cell v) ∧ (∀ p ∈ tl, p.1 ≠ CL) ∧ (∀ p ∈ tl, p.1 ≠ c2) ∧ (∀ p ∈ tl, p.1 ≠ c1)) hh hgo F N hr ?_ ?_ ?_ ?_ ?_
  · have : ws.length = 0 ∨ ws.length = 1 ∨ ws.length = 2 ∨ ws.length = 3 := by omega
    rw [hsz]; rcases this with e | e | e | e <;> rw [e] <;> decide
  · have : ws.length = 0 ∨ ws.length = 1 ∨ ws.length = 2 ∨ ws.length = 3 := by omega
    rw [hsz]; rcases this with e | e | e | e <;> rw [e] <;> decide
  · exact ⟨rfl, [], 0, o2, [], rfl, trivial, hd2, (fun _ h => nomatch h), (fun _ h => nomatch h), (fun _ h => nomatch h)⟩
  · rintro i t' m₁ news₁ h₁ tk₁ I oI hi ⟨rfl, vs, c, ok, tl, rfl, hc, hok, f1, f2, f3⟩ F₁ N₁ off
    refine wpAny_mono (turn i ws[i] (0 + (i : Int)) t' vs c ok tl h₁ tk₁ I oI (List.getElem?_eq_getElem hi) (by omega) (by omega) hc hok f1 f2 f3 (fun p hp => off p (.tail _ (.tail _ (.tail _ hp)))) (off (CL, W.listOf vs.toArray c) (.head _)) (off (c2, ok) (.tail _ (.head _))) (off (c1, o1) (.tail _ (.tail _ (.head _)))) F₁ N₁) (fun _ s₃ q => wpAny_mono q (fun f s₄ q₄ => ?_) fun _ _ e => e) fun _ _ e => e
    obtain ⟨rfl, h', tk, vs', c', ok', tl', rfl, F', N', hc', hok', g1, g2, g3, g4⟩ := q₄
    refine ⟨h', tk, m₁, _, rfl, F', N', ?_, rfl, vs', c', ok', tl', rfl, hc', ⟨_, hok'⟩, g1, g2, g3⟩
    intro p hp
    simp only [List.mem_cons] at hp
    rcases hp with rfl | rfl | rfl | hp
    · exact off (CL, W.listOf vs.toArray c) (.head _)
    · exact off (c2, ok) (.tail _ (.head _))
    · exact off (c1, o1) (.tail _ (.tail _ (.head _)))
    · exact g4 p hp
  · rintro h' tk m' news' F' N' ⟨rfl, vs, c, ok, tl, rfl, hc, _, f1, _, _⟩
    rw [List.take_length] at hc
    exact done h' tk vs c ok tl F' N' hc f1
end Mine
end PartD2b
theorem Mine.flushD3 : True := by
  w_top off
  trivial
section PartD3
open PySem PySem.W PyProof.Rows PySem.Calls
set_option Elab.async false
namespace Mine
theorem kwD3x0 : True := by
  k_with_none
  k_with "size_fits" => first | (with_reducible assumption) | ((try simp only [PySem.Str.length_append, sizeLine_eq]); omega)
  k_with "k_room" => ((try simp only [depth_under_make, depth_under_kw, depth_in1, depth_deeper, depth_caller, depth_mark]); omega)
  k_with "k_units" => ((try simp only [units_under_kw, units_in1, units_deeper, units_caller, Around.mark_units]); omega)
  k_with "LeaveK" => (k_dflt (refine' leaveK_k ?k1z0b8 ?k2z0b8 ?_; (case k1z0b8 => k_asm); (case k2z0b8 => k_asm); k_whole); intro kkz0b8 kFz0b8 kNz0b8; (try dsimp only at kkz0b8 kFz0b8 kNz0b8 ⊢))
  k_with "k_all" => (first | (with_reducible assumption) | exact List.forall_mem_nil _ | (refine' List.forall_mem_cons.mpr ⟨?az6b5, ?bz6b5⟩; (case az6b5 => k_ne); (case bz6b5 => k_all)))
  k_with "eval ListComp" => (k_here; k_dflt (refine' ListComp_Str (by k_asm) (by with_unfolding_all rfl) (by decide) (by rfl) (by decide) (by rfl) ?_))
  k_with "call builtin:all" => (k_here; k_dflt (refine' call_all_bools rfl ?Fzb36 ?Nzb36 ?_; (case Fzb36 => k_asm); (case Nzb36 => k_asm)); intro h'zb36 tk'zb36 F'zb36 N'zb36; (try dsimp only))
  k_with "call builtin:list.extend" => (k_here; k_dflt (refine' extend_turn ?Fz26a ?Nz26a ?zz26a ?hDz26a ?hIz26a ?h2z26a ?h1z26a ?htz26a ?_; (case Fz26a => k_asm); (case Nz26a => k_asm); (case zz26a => omega); (case hDz26a => assumption); (case hIz26a => first | assumption | exact Ne.symm (by assumption)); (case h2z26a => k_ne); (case h1z26a => k_ne); (case htz26a => assumption)); intro h'z26a c'z26a F'z26a N'z26a; (try dsimp only))
  k_with "exec For Name Call cons nil" => (k_here; refine' For_turns ?Fz0c8 ?_; (case Fz0c8 => k_asm); k_whole)
  k_with "call builtin:len" => (k_here; k_dflt (refine' len_list (base_list ?Fz000 ?lz000) ?zz000 ?_; (case Fz000 => k_asm); (case lz000 => assumption); (case zz000 => assumption)); (try dsimp only))
  k_with "subscriptTail" => (k_here; (with_reducible show wpAny _ _ (subscriptTail _ _ (Value.ref _) (Value.int _ _)) _ _ _); k_dflt (refine' item_base ?Fzf8a ?lzf8a ?hstzf8a ?h3zf8a ?hkzf8a ?hyzf8a ?_ ?hszf8a; (case Fzf8a => k_asm); (case lzf8a => assumption); (case hstzf8a => assumption); (case h3zf8a => assumption); (case hkzf8a => assumption); (case hyzf8a => assumption); (case hszf8a => with_unfolding_all rfl)); intro t'zf8a; (try dsimp only))
  k_with "subscriptTail Name Name ref int" => (k_here; (with_reducible show wpAny _ _ (subscriptTail _ _ (Value.ref _) (Value.int _ _)) _ _ _); k_dflt (refine' item_base ?Fzf8a ?lzf8a ?hstzf8a ?h3zf8a ?hkzf8a ?hyzf8a ?_ ?hszf8a; (case Fzf8a => k_asm); (case lzf8a => assumption); (case hstzf8a => assumption); (case h3zf8a => assumption); (case hkzf8a => assumption); (case hyzf8a => assumption); (case hszf8a => with_unfolding_all rfl)); intro t'zf8a; (try dsimp only))
  trivial
set_option maxRecDepth 100000 in
set_option maxHeartbeats 4000000 in
theorem t_cells {p : Program} {loose : List Str} {mean : ExcName → Option Value} {mg mb : Str → Option Value} {w : World} {A₀ : Around} {dep un : Nat} {gs : Option (List Code)} {s : Shared} {base h₀ : Heap} {outer : List Env} {nms : List (Str × NameKind)} {ig ic : Bool} {mo : List (Str × Const)} {loc glo bi : Addr} {cel : List (Str × Addr)} {qu : Str} {fn : Option Addr} {cod : Value} {L : Addr} {m : Str → Option Value} {R : Result → Shared → Prop} {WA : Addr} {items : Array Value} {ws : List Str}
    (B : Below A₀ base outer h₀) (F : Fr h₀ L s.heap m) (X : (KF w.params).In h₀) (T : Top p loose mean mg mb h₀) (hroom : dep + 20 < recursionLimit) (hun : un + 60 < cLine)
    (hl : s.heap.IsList WA items) (hst : StrsAre items.toList ws) (hw : ∀ y ∈ ws, y.length ≤ 4) (h3 : ws.length ≤ 3) (h : ∀ h' tk CL vs c tl, Fr h₀ L h' m → HSub s.heap h' → News h₀ L h' ((CL, W.listOf vs.toArray c) :: tl) → CellsIn tl vs (cellsFrom 0 (wl ws)) → (∀ p ∈ (CL, W.listOf vs.toArray c) :: tl, s.heap.get? p.1 = none) → (∀ p ∈ tl, p.1 ≠ CL) → R (.ok (.ret (.ref CL))) { s with heap := h', toks := tk }) :
    codeAny (model PySem.Challenge.rw_nq0205_01.prog w) ⟨none, dep, some ((⟨⟨.function, nms, ig, ic, mo⟩, loc, glo, cel, qu, fn, cod, some L, bi⟩ : Env) :: outer), gs, un⟩ (.call (.ref 790) ⟨[.ref WA], []⟩) R s := by
  revert X; k_fill; intro X
  refine' code_defCG B F X T rfl rfl rfl ?k6 ?k7 ?k8 ?k9 ?kB ?kD ?_ ?c2 ?c3 ?c4
  case k6 => k_is
  case k7 => k_is
  case k8 => (show dep < _); omega
  case k9 => exact BindsTo.of_eq rfl
  case kB => exact rfl
  case kD => decide +kernel
  case c2 => exact rfl
  case c3 => exact rfl
  case c4 => exact rfl
  intro g' L' h' tk' cells' FG' F' N' Y' B' X' T' kG'
  k_cells Y'
  (try simp only [List.cons_append, List.nil_append] at N')
  (try dsimp only)
  (try k_fold)
  have hlW : g'.IsList WA items := by obtain ⟨o, e, r⟩ := hl; exact ⟨o, kG' _ _ e, r⟩
  have hisz : items.size = ws.length := by rw [← hst.length, Array.length_toList]
  have hfit : ((items.size : Nat) : Int) < 2 ^ 63 := by omega
  k_steps
  rename IsRange _ _ _ _ _ _ _ _ => hr
  rename Fr g' L' _ _ => F1
  rename News g' L' _ _ => N1
  refine loop_cells (ws := ws) rfl (fun _ _ => rfl) F1 N1 hr hisz h3 ⟨_, by assumption⟩ ?turn ?done
  case turn =>
    clear F1 N1 hr
    intro i y k t vs c ok tl h₁ tk₁ I oI hy hk hi hc hok f1 f2 f3 f4 n1 n2 n3 F1 N1
    obtain ⟨vok, hok⟩ := hok
    have hy4 : y.length ≤ 4 := hw y (List.mem_of_getElem? hy)
    have hlen : vs.length ≤ 21 := by
      rw [hc.length]
      have := cellsFrom_len 0 (wl (ws.take i)) (by
        intro v hv
        obtain ⟨z, hz, rfl⟩ := List.mem_map.mp hv
        rw [Array.length_toList]
        exact hw z (List.mem_of_mem_take hz))
      simp only [List.length_map, List.length_take] at this
      omega
    have hvs : vs.toArray.size ≤ sizeLine := by rw [List.size_toArray, sizeLine_eq]; omega
    iterate 2 walk1
    rename Obj => ok2
    refine cell_two (cellsFrom 0 (wl (ws.take i)) ++ sepC i) ?first ?second
    case first =>
      k_steps
      · refine CellTurn.push (cell := blankC) (by assumption) (by assumption) hc (isCell_of S32 Snil rfl rfl) (by assumption) f1 f2 f3 f4 ?_ ?_ ?_ ?_ (by rw [show sepC i = [blankC] from if_pos (by omega)])
        all_goals k_ne
      · exact ⟨rfl, _, _, vs, c, _, tl, rfl, by assumption, by assumption, by rw [show sepC i = [] from if_neg (by omega), List.append_nil]; exact hc, by assumption, f1, f2, f3, f4⟩
    case second =>
      clear hc f1 f2 f3 f4 hvs hlen hok
      intro h2 tk2 vs c ok tl F2 N2 hc hok f1 f2 f3 f4
      have hlen : vs.length ≤ 22 := by
        rw [hc.length]
        have := cellsFrom_len 0 (wl (ws.take i)) (by
          intro v hv
          obtain ⟨z, hz, rfl⟩ := List.mem_map.mp hv
          rw [Array.length_toList]
          exact hw z (List.mem_of_mem_take hz))
        have h3 : (sepC i).length ≤ 1 := by unfold sepC; split <;> simp
        simp only [List.length_append, List.length_map, List.length_take] at this ⊢
        omega
      rw [cells_next hy]
      refine cell_last ?_
      refine cell_if F2 N2 (!markedW y.cps.toList) ?test ?yes ?no
      case test =>
        k_steps
        · refine src_ind (fun j ys news' => news' = (I, oI) :: _ ∧ ys = ((y.cps.toList.take j).map safeN).map Value.bool) rfl (by assumption) (by assumption) (by rw [sizeLine_eq]; omega) ⟨rfl, rfl⟩ ?step ?fin
          case step =>
            rintro j ch u ys news' I2 oI2 C2 oC2 D2 m2 h2 tk2 E2 hch ⟨rfl, rfl⟩ hC2 hx2 F2 N2 off2 ne2
            k_steps
            exact LCg.CompEnd.intro (by assumption) (by assumption) _ (fun p hp => hp) off2 trivial ⟨rfl, by rw [safe_found, ← take_sign safeN hch, List.map_append]; rfl⟩
          case fin =>
            rintro D2 h3 tk3 ys news' ⟨rfl, rfl⟩ F3 N3 o3
            k_steps
            all_goals exact ⟨test_allT (by assumption) (by assumption), _, _, rfl, by assumption, by assumption⟩
        · exact ⟨test_no (by assumption), _, _, rfl, by assumption, by assumption⟩
      case yes =>
        intro hb h4 tk4 F4 N4
        k_steps
        refine src_cells (bareC (i : Int)) rfl (by assumption) (by assumption) hy4 f1 f2 f3 f4 ?step ?fin
        case step =>
          intro ch u ys tl' I2 oI2 C2 oC2 D2 m2 h2 tk2 E2 hC2 hx2 F2 N2
          k_steps
          exact ⟨_, _, _, _, rfl, rfl, by assumption, by assumption, isCell_of rfl rfl hk rfl, by assumption⟩
        case fin =>
          intro D2 h3 tk3 ys tl' F3 N3 hc3 hs3 e1 e2 e3 e4 nD hys
          k_steps
          refine ⟨rfl, _, _, vs ++ ys, _, ok, tl', rfl, by assumption, by assumption, ?_, hok, e1, e2, e3, e4⟩
          rw [show markedW y.cps.toList = false by simpa using hb]
          exact (hc.mono hs3).append hc3
      case no =>
        intro hb h4 tk4 F4 N4
        rw [show markedW y.cps.toList = true by simpa using hb]
        have hvs : vs.toArray.size ≤ sizeLine := by rw [List.size_toArray, sizeLine_eq]; omega
        refine cell_two ((cellsFrom 0 (wl (ws.take i)) ++ sepC i) ++ [markC i]) ?one ?two
        case one =>
          k_steps
          refine CellTurn.push (cell := markC i) (by assumption) (by assumption) hc (isCell_of S39 Snil hk rfl) (by assumption) f1 f2 f3 f4 ?_ ?_ ?_ ?_ rfl
          all_goals k_ne
        case two =>
          have hl1 : ((cellsFrom 0 (wl (ws.take i)) ++ sepC i) ++ [markC (i : Int)]).length ≤ 23 := by
            rw [List.length_append, ← hc.length]; simp; omega
          generalize hcs : (cellsFrom 0 (wl (ws.take i)) ++ sepC i) = cs at *
          clear hc f1 f2 f3 f4 hvs hok F4 N4 F2 N2 hlen
          clear vs
          intro h5 tk5 vs c ok tl F5 N5 hc hok f1 f2 f3 f4
          have hlen : vs.length ≤ 23 := by rw [hc.length]; exact hl1
          refine cell_two ((cs ++ [markC i]) ++ y.cps.toList.map (quotC i)) ?three ?four
          case three =>
            k_steps
            refine src_cells (quotC (i : Int)) rfl (by assumption) (by assumption) hy4 f1 f2 f3 f4 ?step ?fin
            case step =>
              intro ch u ys tl' I2 oI2 C2 oC2 D2 m2 h2 tk2 E2 hC2 hx2 F2 N2
              k_steps
              · exact ⟨_, _, _, _, rfl, rfl, by assumption, by assumption, isCell_of (qa_yes (by assumption)) rfl hk rfl, by assumption⟩
              · exact ⟨_, _, _, _, rfl, rfl, by assumption, by assumption, isCell_of (qa_no (by assumption)) rfl hk rfl, by assumption⟩
            case fin =>
              intro D2 h3 tk3 ys tl' F3 N3 hc3 hs3 e1 e2 e3 e4 nD hys
              k_steps
              exact ⟨rfl, _, _, vs ++ ys, _, ok, tl', rfl, by assumption, by assumption, (hc.mono hs3).append hc3, hok, e1, e2, e3, e4⟩
          case four =>
            have hl2 : ((cs ++ [markC (i : Int)]) ++ y.cps.toList.map (quotC i)).length ≤ 27 := by
              have e2 : (y.cps.toList.map (quotC (i : Int))).length ≤ 4 := by rw [List.length_map, Array.length_toList]; exact hy4
              rw [List.length_append]
              omega
            clear hc f1 f2 f3 f4 hok F5 N5 hlen
            clear vs
            intro h6 tk6 vs c ok tl F6 N6 hc hok f1 f2 f3 f4
            have hvs : vs.toArray.size ≤ sizeLine := by rw [List.size_toArray, sizeLine_eq, hc.length]; omega
            k_steps
            refine CellTurn.push (cell := markC i) (by assumption) (by assumption) hc (isCell_of S39 Snil hk rfl) (by assumption) f1 f2 f3 f4 ?_ ?_ ?_ ?_ (by simp [itemCells])
            all_goals k_ne

  case done =>
    intro h' tk vs c ok tl F1 N1 hc f1
    have fresh : ∀ p ∈ ((_, W.listOf vs.toArray c) :: (_, ok) :: (_, _) :: tl), s.heap.get? p.1 = none := fun p hp => by
      cases q : s.heap.get? p.1 with
      | none => rfl
      | some o => have := (N1 p hp).2.2; rw [kG' _ _ q] at this; cases this
    k_steps
    refine h _ _ _ vs c tl (by assumption) (HSub.trans kG' (by assumption)) (fun q hq => (by assumption : News h₀ L _ _) q ?_) hc (fun q hq => fresh q ?_) f1
    all_goals (rcases List.mem_cons.mp hq with rfl | hq; exact .head _; exact .tail _ (.tail _ (.tail _ hq)))
end Mine
end PartD3
theorem Mine.flushD4a : True := by
  w_top off
  trivial
section PartD4a
open PySem PySem.W PyProof.Rows PySem.Calls
set_option Elab.async false
namespace Mine
/-- the cells stand in a heap -/
noncomputable def CellsB (h : Heap) : List Value → List Cell → Prop
  | [], [] => True
  | v :: vs, c :: cs => (∃ a o, v = .ref a ∧ h.get? a = some o ∧ IsCell o c) ∧ CellsB h vs cs
  | _, _ => False
theorem CellsB.keeps {h h' : Heap} (k : HSub h h') : ∀ {vs : List Value} {cs : List Cell}, CellsB h vs cs → CellsB h' vs cs
  | [], [], _ => trivial
  | _ :: _, _ :: _, ⟨⟨a, o, e, hm, hc⟩, r⟩ => ⟨⟨a, o, e, k _ _ hm, hc⟩, CellsB.keeps k r⟩
theorem CellsB.length {h : Heap} : ∀ {vs : List Value} {cs : List Cell}, CellsB h vs cs → vs.length = cs.length
  | [], [], _ => rfl
  | _ :: _, _ :: _, ⟨_, r⟩ => by simp [CellsB.length r]
theorem CellsB.of_in {h₀ h : Heap} {L : Addr} {tl : List (Addr × Obj)} (N : News h₀ L h tl) : ∀ {vs : List Value} {cs : List Cell}, CellsIn tl vs cs → CellsB h vs cs
  | [], [], _ => trivial
  | _ :: _, _ :: _, ⟨⟨a, o, e, hm, hc⟩, r⟩ => ⟨⟨a, o, e, (N _ hm).1, hc⟩, CellsB.of_in N r⟩
theorem CellsB.get {h : Heap} : ∀ {vs : List Value} {cs : List Cell}, CellsB h vs cs → ∀ (i : Nat) (c : Cell), cs[i]? = some c → ∃ a o, vs[i]? = some (.ref a) ∧ h.get? a = some o ∧ IsCell o c
  | _ :: _, _ :: _, ⟨⟨a, o, e, hm, hc⟩, _⟩, 0, c, q => by simp at q; subst q; exact ⟨a, o, by simp [e], hm, hc⟩
  | _ :: _, _ :: _, ⟨_, r⟩, i + 1, c, q => by simpa using CellsB.get r i c (by simpa using q)
  | [], [], _, i, c, q => by simp at q
theorem CellsB.drop {h : Heap} : ∀ {vs : List Value} {cs : List Cell}, CellsB h vs cs → ∀ n, CellsB h (vs.drop n) (cs.drop n)
  | _, _, h, 0 => h
  | [], [], _, n + 1 => trivial
  | _ :: _, _ :: _, ⟨_, r⟩, n + 1 => by simpa using CellsB.drop r n
theorem CellsB.take {h : Heap} : ∀ {vs : List Value} {cs : List Cell}, CellsB h vs cs → ∀ n, CellsB h (vs.take n) (cs.take n)
  | _, _, _, 0 => by simp [CellsB]
  | [], [], _, n + 1 => trivial
  | _ :: _, _ :: _, ⟨x, r⟩, n + 1 => ⟨x, CellsB.take r n⟩
/-- a cell of a list of the base -/
theorem item_cell {prog : Program} {w : World} {A : Around} {E : Value → Shared → Prop} {s : Shared} {value slice : PySem.Expr} {h₀ : Heap} {L CA : Addr} {m : Str → Option Value} {vs : List Value} {cs : List Cell} {i : Nat} {c : Cell} {k : Int} {u : Tok} {Q : Value → Shared → Prop}
    (F : Fr h₀ L s.heap m) (hl : h₀.IsList CA vs.toArray) (hc : CellsB h₀ vs cs) (hn : cs.length ≤ 30) (hk : k = (i : Int)) (hi : cs[i]? = some c) (h : ∀ a o, h₀.get? a = some o → IsCell o c → Q (.ref a) s)
    (hs : subscripted slice false (.ref CA) (.int k u) = operate [.ref CA, .int k u] (getItem (.ref CA) (.int k u)) := by with_unfolding_all rfl) :
    wpAny (model prog w) A (subscriptTail value slice (.ref CA) (.int k u)) Q E s := by
  have hls := base_list F hl
  obtain ⟨a, o, e1, e2, e3⟩ := hc.get i c hi
  have hi2 : i < cs.length := (List.getElem?_eq_some_iff.mp hi).1
  exact tail_any hls.typeIs slot_list_getitem.lookup (wpAny_getItem_list hls (by omega) (by omega) (x := .ref a) (by rw [hk]; simpa using e1) (h a o e2 e3)) hs
/-- a part of a cell -/
noncomputable def partOf (c : Cell) : Nat → Tok → Value
  | 0, t => .str (S c.a) t
  | 1, t => .str (S c.b) t
  | 2, t => .int c.k t
  | _, _ => .bool c.q
theorem item_part {prog : Program} {w : World} {A : Around} {E : Value → Shared → Prop} {s : Shared} {value slice : PySem.Expr} {h₀ : Heap} {L a : Addr} {m : Str → Option Value} {o : Obj} {c : Cell} {u : Tok} {Q : Value → Shared → Prop} (i : Nat)
    (F : Fr h₀ L s.heap m) (ho : h₀.get? a = some o) (hc : IsCell o c) (hi : i < 4) (h : ∀ t, Q (partOf c i t) s)
    (hs : subscripted slice false (.ref a) (.int (i : Int) u) = operate [.ref a, .int (i : Int) u] (getItem (.ref a) (.int (i : Int) u)) := by with_unfolding_all rfl) :
    wpAny (model prog w) A (subscriptTail value slice (.ref a) (.int (i : Int) u)) Q E s := by
  obtain ⟨h1, t0, t1, t2, n, h2⟩ := hc
  have hls : s.heap.IsList a #[.str (S c.a) t0, .str (S c.b) t1, .int c.k t2, .bool c.q] := ⟨o, F.keep _ _ ho, h1, n, h2⟩
  have : i = 0 ∨ i = 1 ∨ i = 2 ∨ i = 3 := by omega
  rcases this with rfl | rfl | rfl | rfl
  · exact tail_any hls.typeIs slot_list_getitem.lookup (wpAny_getItem_list hls (by omega) (by omega) (x := .str (S c.a) t0) rfl (h t0)) hs
  · exact tail_any hls.typeIs slot_list_getitem.lookup (wpAny_getItem_list hls (by omega) (by omega) (x := .str (S c.b) t1) rfl (h t1)) hs
  · exact tail_any hls.typeIs slot_list_getitem.lookup (wpAny_getItem_list hls (by omega) (by omega) (x := .int c.k t2) rfl (h t2)) hs
  · exact tail_any hls.typeIs slot_list_getitem.lookup (wpAny_getItem_list hls (by omega) (by omega) (x := .bool c.q) rfl (h 0)) hs
theorem item_a {prog : Program} {w : World} {A : Around} {E : Value → Shared → Prop} {s : Shared} {value slice : PySem.Expr} {h₀ : Heap} {L a : Addr} {m : Str → Option Value} {o : Obj} {c : Cell} {u : Tok} {Q : Value → Shared → Prop}
    (F : Fr h₀ L s.heap m) (ho : h₀.get? a = some o) (hc : IsCell o c) (h : ∀ t : Tok, Q (.str (S c.a) t) s)
    (hs : subscripted slice false (.ref a) (.int 0 u) = operate [.ref a, .int 0 u] (getItem (.ref a) (.int 0 u)) := by with_unfolding_all rfl) :
    wpAny (model prog w) A (subscriptTail value slice (.ref a) (.int 0 u)) Q E s := item_part 0 F ho hc (by decide) h hs
theorem item_b {prog : Program} {w : World} {A : Around} {E : Value → Shared → Prop} {s : Shared} {value slice : PySem.Expr} {h₀ : Heap} {L a : Addr} {m : Str → Option Value} {o : Obj} {c : Cell} {u : Tok} {Q : Value → Shared → Prop}
    (F : Fr h₀ L s.heap m) (ho : h₀.get? a = some o) (hc : IsCell o c) (h : ∀ t : Tok, Q (.str (S c.b) t) s)
    (hs : subscripted slice false (.ref a) (.int 1 u) = operate [.ref a, .int 1 u] (getItem (.ref a) (.int 1 u)) := by with_unfolding_all rfl) :
    wpAny (model prog w) A (subscriptTail value slice (.ref a) (.int 1 u)) Q E s := item_part 1 F ho hc (by decide) h hs
theorem item_k {prog : Program} {w : World} {A : Around} {E : Value → Shared → Prop} {s : Shared} {value slice : PySem.Expr} {h₀ : Heap} {L a : Addr} {m : Str → Option Value} {o : Obj} {c : Cell} {u : Tok} {Q : Value → Shared → Prop}
    (F : Fr h₀ L s.heap m) (ho : h₀.get? a = some o) (hc : IsCell o c) (h : ∀ t : Tok, Q (.int c.k t) s)
    (hs : subscripted slice false (.ref a) (.int 2 u) = operate [.ref a, .int 2 u] (getItem (.ref a) (.int 2 u)) := by with_unfolding_all rfl) :
    wpAny (model prog w) A (subscriptTail value slice (.ref a) (.int 2 u)) Q E s := item_part 2 F ho hc (by decide) h hs
theorem item_q {prog : Program} {w : World} {A : Around} {E : Value → Shared → Prop} {s : Shared} {value slice : PySem.Expr} {h₀ : Heap} {L a : Addr} {m : Str → Option Value} {o : Obj} {c : Cell} {u : Tok} {Q : Value → Shared → Prop}
    (F : Fr h₀ L s.heap m) (ho : h₀.get? a = some o) (hc : IsCell o c) (h : ∀ t : Tok, Q (.bool c.q) s)
    (hs : subscripted slice false (.ref a) (.int 3 u) = operate [.ref a, .int 3 u] (getItem (.ref a) (.int 3 u)) := by with_unfolding_all rfl) :
    wpAny (model prog w) A (subscriptTail value slice (.ref a) (.int 3 u)) Q E s := item_part 3 F ho hc (by decide) h hs
/-! the bounds, plain -/
noncomputable def begT (cs : List Cell) : Nat → Nat
  | 0 => 0
  | i + 1 => if (cs[i]?).map (·.b) = some [47] then i + 1 else begT cs i
noncomputable def dotAt (cs : List Cell) (b p : Nat) : Bool := ((cs[p]?).map (·.b) == some [46]) && ((cs.drop b).take (p - b)).any fun c => c.b != [46]
noncomputable def endT (cs : List Cell) (b : Nat) : Nat → Nat
  | 0 => cs.length
  | j + 1 => if dotAt cs b (b + j) then b + j else endT cs b j
/-- the names of _law_bounds' frame -/
noncomputable abbrev bF (CA : Addr) (b e : Value) (pl : Option Value) : Str → Option Value := fun y =>
  if y = Str.ofString "place" then pl else if y = Str.ofString "end" then some e else if y = Str.ofString "begin" then some b else if y = Str.ofString "cells" then some (.ref CA) else none
theorem bF_pl {h₀ h : Heap} {L CA : Addr} {b e v : Value} {pl : Option Value} (F : Fr h₀ L h (fun y => if y = Str.ofString "place" then some v else bF CA b e pl y)) : Fr h₀ L h (bF CA b e (some v)) :=
  Fr.cong F fun y => by
    dsimp only [bF]
    split <;> rfl
theorem bF_beg {h₀ h : Heap} {L CA : Addr} {b b' e v : Value} {pl : Option Value} (F : Fr h₀ L h (fun y => if y = Str.ofString "begin" then some b' else if y = Str.ofString "place" then some v else bF CA b e pl y)) : Fr h₀ L h (bF CA b' e (some v)) :=
  Fr.cong F fun y => by
    by_cases h1 : y = Str.ofString "begin"
    · subst h1; kernel_rfl
    · dsimp only [bF]
      rw [if_neg h1, if_neg h1]
      split <;> rfl
theorem bF_end {h₀ h : Heap} {L CA : Addr} {b e e' v : Value} {pl : Option Value} (F : Fr h₀ L h (fun y => if y = Str.ofString "end" then some e' else if y = Str.ofString "place" then some v else bF CA b e pl y)) : Fr h₀ L h (bF CA b e' (some v)) :=
  Fr.cong F fun y => by
    by_cases h1 : y = Str.ofString "end"
    · subst h1; kernel_rfl
    · dsimp only [bF]
      rw [if_neg h1, if_neg h1]
      split <;> rfl
theorem lookup_one {k y : Str} {v : Value} (h : y ≠ k) : List.lookup y [(k, v)] = none := by simp [List.lookup, beq_eq_false_iff_ne.mpr h]
theorem bF_init {h₀ h : Heap} {L CA : Addr} {b e : Value} {m0 : Str → Option Value} (F : Fr h₀ L h (fun y => if y = Str.ofString "end" then some e else if y = Str.ofString "begin" then some b else m0 y)) (hm : ∀ y, m0 y = List.lookup y [(Str.ofString "cells", .ref CA)]) : Fr h₀ L h (bF CA b e none) :=
  Fr.cong F fun y => by
    by_cases h1 : y = Str.ofString "place"
    · subst h1
      rw [hm]
      kernel_rfl
    · dsimp only [bF]
      rw [if_neg h1]
      split
      · rfl
      · split
        · rfl
        · rw [hm]
          split
          · rename_i q; rw [q]; kernel_rfl
          · rename_i q; exact lookup_one q
theorem bF_begI {h₀ h : Heap} {L CA : Addr} {b e v : Value} {x x' : Int} {t : Tok} {pl : Option Value} (F : Fr h₀ L h (fun y => if y = Str.ofString "begin" then some (.int x t) else if y = Str.ofString "place" then some v else bF CA b e pl y)) (q : x = x') : Fr h₀ L h (bF CA (.int x' t) e (some v)) := q ▸ bF_beg F
theorem bF_endI {h₀ h : Heap} {L CA : Addr} {b e v : Value} {x x' : Int} {t : Tok} {pl : Option Value} (F : Fr h₀ L h (fun y => if y = Str.ofString "end" then some (.int x t) else if y = Str.ofString "place" then some v else bF CA b e pl y)) (q : x = x') : Fr h₀ L h (bF CA b (.int x' t) (some v)) := q ▸ bF_end F
theorem bF_plB {h₀ h : Heap} {L CA : Addr} {e v : Value} {x x' : Int} {t : Tok} {pl : Option Value} (F : Fr h₀ L h (fun y => if y = Str.ofString "place" then some v else bF CA (.int x t) e pl y)) (q : x = x') : Fr h₀ L h (bF CA (.int x' t) e (some v)) := q ▸ bF_pl F
theorem bF_plE {h₀ h : Heap} {L CA : Addr} {b v : Value} {x x' : Int} {t : Tok} {pl : Option Value} (F : Fr h₀ L h (fun y => if y = Str.ofString "place" then some v else bF CA b (.int x t) pl y)) (q : x = x') : Fr h₀ L h (bF CA b (.int x' t) (some v)) := q ▸ bF_pl F
theorem S_beq (x y : List Nat) : (S x == S y) = decide (x = y) := by
  by_cases h : x = y
  · subst h; simp
  · rw [decide_eq_false h]
    refine beq_eq_false_iff_ne.mpr fun e => h ?_
    have := congrArg (fun z : Str => z.cps.toList) e
    simpa [S] using this
theorem S47 : Str.ofString "/" = S [47] := by decide +kernel
theorem S46 : Str.ofString "." = S [46] := by decide +kernel
theorem begT_yes {cs : List Cell} {i : Nat} {c : Cell} (hi : cs[i]? = some c) (h : (S c.b == Str.ofString "/") = true) : begT cs (i + 1) = i + 1 := by
  rw [S47, S_beq, decide_eq_true_eq] at h
  simp only [begT, hi, Option.map_some, h, if_true]
theorem begT_no {cs : List Cell} {i : Nat} {c : Cell} (hi : cs[i]? = some c) (h : (S c.b == Str.ofString "/") = false) : begT cs (i + 1) = begT cs i := by
  rw [S47, S_beq, decide_eq_false_iff_not] at h
  simp only [begT, hi, Option.map_some]
  rw [if_neg (by simpa using h)]
theorem begT_le (cs : List Cell) : ∀ i, begT cs i ≤ i
  | 0 => Nat.le_refl _
  | i + 1 => by
    unfold begT
    split
    · exact Nat.le_refl _
    · exact Nat.le_succ_of_le (begT_le cs i)
noncomputable def BTurn (h₀ : Heap) (L CA : Addr) (b e : Int) (I : Addr) (oI : Obj) (s : Shared) (f : Flow) (s₂ : Shared) : Prop :=
  f = .next ∧ ∃ h' tk tb te pl, s₂ = { s with heap := h', toks := tk } ∧ Fr h₀ L h' (bF CA (.int b tb) (.int e te) pl) ∧ News h₀ L h' [(I, oI)]
theorem loop_b {prog : Program} {w : World} {A : Around} {E : Value → Shared → Prop} {s : Shared} {h₀ : Heap} {env : Env} {target : Expr} {body : List Stmt} {Q : Flow → Shared → Prop} {r CA : Addr} {t u v tb te : Tok} {pl : Option Value} {a b : Int} {n a0 : Nat} (B D : Nat → Int)
    (hh : A.handled = none) (hgo : ∀ I v, letOwnedTupleGo target (.ref I) v = pure ()) (F : Fr h₀ env.locals s.heap (bF CA (.int (B 0) tb) (.int (D 0) te) pl)) (N : News h₀ env.locals s.heap []) (hr : IsRange s.heap r a b 1 t u v) (ha : a = (a0 : Int)) (hb : b = ((a0 + n : Nat) : Int)) (hn : a0 + n ≤ 30)
    (turn : ∀ (i : Nat) (k : Int) (t tb te : Tok) (pl : Option Value) (h₁ : Heap) (tk₁ : Nat) (I : Addr) (oI : Obj), i < n → k = ((a0 + i : Nat) : Int) → Fr h₀ env.locals h₁ (bF CA (.int (B i) tb) (.int (D i) te) pl) → News h₀ env.locals h₁ [(I, oI)] →
      wpAny (model prog w) A (assign target env (.int k t)) (fun _ s₃ => wpAny (model prog w) A (execs body env) (BTurn h₀ env.locals CA (B (i + 1)) (D (i + 1)) I oI { s with heap := h₁, toks := tk₁ }) E s₃) E { s with heap := h₁, toks := tk₁ })
    (done : ∀ h' tk tb te pl, Fr h₀ env.locals h' (bF CA (.int (B n) tb) (.int (D n) te) pl) → News h₀ env.locals h' [] → Q .next { s with heap := h', toks := tk }) :
    wpAny (model prog w) A (pyIter (.ref r)) (fun it s₂ => TurnsAt prog w A h₀ env target body Q E it s₂) E s := by
  subst ha hb
  refine range_turns (n := n) (fun i m₁ news₁ => news₁ = [] ∧ ∃ tb te pl, m₁ = bF CA (.int (B i) tb) (.int (D i) te) pl) hh hgo F N hr ?_ ?_ ⟨rfl, _, _, _, rfl⟩ ?_ ?_
  · have ok : ∀ i : Int, 0 ≤ i → i ≤ 100 → Builtin.Range.rangeFitsLong i = true := fun i h1 h2 => by
      unfold Builtin.Range.rangeFitsLong
      simp only [Bool.and_eq_true, decide_eq_true_eq]
      omega
    have hs : Builtin.Range.rangeSize (a0 : Int) ((a0 + n : Nat) : Int) 1 = (n : Int) := by unfold Builtin.Range.rangeSize; simp; omega
    unfold Builtin.Range.small
    simp only [Bool.and_eq_true]
    refine ⟨⟨⟨⟨ok _ (by omega) (by omega), ok _ (by omega) (by omega)⟩, by decide⟩, by rw [hs]; exact ok _ (by omega) (by omega)⟩, ?_⟩
    rw [hs, Bool.or_eq_true]
    right
    rw [if_pos (by decide)]
    exact ok _ (by omega) (by omega)
  · unfold Builtin.Range.rangeSize
    simp
    omega
  · rintro i t' m₁ news₁ h₁ tk₁ I oI hi ⟨rfl, tb, te, pl, rfl⟩ F₁ N₁ off
    refine wpAny_mono (turn i ((a0 : Int) + (i : Int)) t' tb te pl h₁ tk₁ I oI hi (by omega) F₁ N₁) (fun _ s₃ q => wpAny_mono q (fun f s₄ q₄ => ?_) fun _ _ e => e) fun _ _ e => e
    obtain ⟨rfl, h', tk, tb', te', pl', rfl, F', N'⟩ := q₄
    exact ⟨h', tk, _, [], rfl, F', N', (fun _ h => nomatch h), rfl, _, _, _, rfl⟩
  · rintro h' tk m' news' F' N' ⟨rfl, tb, te, pl, rfl⟩
    exact done h' tk tb te pl F' N'
end Mine
end PartD4a
theorem Mine.flushD4b : True := by
  w_top off
  trivial
section PartD4b
open PySem PySem.W PyProof.Rows PySem.Calls
set_option Elab.async false
namespace Mine
section
variable {prog : Program} {w : World} {A : Around} {E : Value → Shared → Prop} {s : Shared} {h₀ : Heap} {L : Addr} {m : Str → Option Value} {env : Env}
/-- the turns of a comprehension with a test, by what holds between them -/
theorem comp_indT {ct elt : Expr} {x : Str} {scope : Scope} {cl : List (Str × Addr)} {S : List (Addr × Obj) → Prop} {P : Nat → Value → Prop} {Fin : List Value → List (Addr × Obj) → Prop} (J : Nat → List Value → List (Addr × Obj) → Prop) (n : Nat)
    (step : ∀ i ys news v I oI C oC D m₂ h tk (E' : Value → Shared → Prop), i < n → J i ys news → P i v → LCg.NsObj oC m₂ → m₂ x = some v → Fr h₀ L h m → News h₀ L h ((I, oI) :: (C, oC) :: (D, LCg.lst ys) :: news) → LCg.Off3 I C D news → ((@Ne Nat I C) ∧ (@Ne Nat I D) ∧ (@Ne Nat C D)) →
      wpAny (model prog w) A (isTrue ct (compEnvC scope cl C env) (eval ct (compEnvC scope cl C env))) (fun ok s' => if ok = true then
        wpAny (model prog w) A (eval elt (compEnvC scope cl C env)) (LCg.CompEnd h₀ L m { s with heap := h, toks := tk } I oI C oC D (LCg.lst ys) S (fun y news' => J (i + 1) (ys ++ [y]) news')) E' s'
        else LCg.CompEnd h₀ L m { s with heap := h, toks := tk } I oI C oC D (LCg.lst ys) S (fun _ news' => J (i + 1) ys news') Value.none s') E' { s with heap := h, toks := tk })
    (fin : ∀ ys news, J n ys news → Fin ys news) : ∀ (k i : Nat) (ys : List Value) (news : List (Addr × Obj)), i + k = n → J i ys news → LCt.CompRestT prog w A h₀ L m env ct elt x scope cl s S P Fin k i ys news
  | 0, i, ys, news, hk, hj => fin ys news (by rw [← hk]; exact hj)
  | k + 1, i, ys, news, hk, hj => fun v I oI C oC D m₂ h tk E' hP hC hx F N off ne =>
    wpAny_mono (step i ys news v I oI C oC D m₂ h tk E' (by omega) hj hP hC hx F N off ne) (fun ok s₂ q => by
      cases ok with
      | true =>
        simp only [if_true] at q ⊢
        refine wpAny_mono q (fun y s₃ q₃ => ?_) fun _ _ e => e
        obtain ⟨h', tk', news', e, F', N', o', S', j'⟩ := q₃
        exact ⟨h', tk', news', e, F', N', o', S', comp_indT J n step fin k (i + 1) (ys ++ [y]) news' (by omega) j'⟩
      | false =>
        simp only [Bool.false_eq_true, if_false] at q ⊢
        obtain ⟨h', tk', news', e, F', N', o', S', j'⟩ := q
        exact ⟨h', tk', news', e, F', N', o', S', comp_indT J n step fin k (i + 1) ys news' (by omega) j'⟩) fun _ _ e => e
/-- the end of an element that keeps the ledger -/
noncomputable def KeepEl (h₀ : Heap) (L : Addr) (m : Str → Option Value) (led : List (Addr × Obj)) (J : Value → Prop) (s : Shared) (y : Value) (s₂ : Shared) : Prop :=
  ∃ h' tk, s₂ = { s with heap := h', toks := tk } ∧ Fr h₀ L h' m ∧ News h₀ L h' led ∧ J y
/-- a comprehension with a test over a list of the ledger; the ledger stays -/
theorem srcT_keep {ct elt : Expr} {x : Str} {scope : Scope} {cl : List (Str × Addr)} {Q : Value → Shared → Prop} {ax : Addr} {its : Array Value} {c : Nat} {news : List (Addr × Obj)} (J : Nat → List Value → Prop)
    (hh : A.handled = none) (F : Fr h₀ L s.heap m) (N : News h₀ L s.heap news) (hm : (ax, ({ cls := .type "list", data := .seq its c } : Obj)) ∈ news) (hsz : its.size ≤ sizeLine) (h0 : J 0 [])
    (step : ∀ i ys v I oI C oC D m₂ h tk (E' : Value → Shared → Prop), its[i]? = some v → J i ys → LCg.NsObj oC m₂ → m₂ x = some v → Fr h₀ L h m → News h₀ L h ((I, oI) :: (C, oC) :: (D, LCg.lst ys) :: news) → LCg.Off3 I C D news → ((@Ne Nat I C) ∧ (@Ne Nat I D) ∧ (@Ne Nat C D)) →
      wpAny (model prog w) A (isTrue ct (compEnvC scope cl C env) (eval ct (compEnvC scope cl C env))) (fun ok s' => if ok = true then
        wpAny (model prog w) A (eval elt (compEnvC scope cl C env)) (KeepEl h₀ L m ((I, oI) :: (C, oC) :: (D, LCg.lst ys) :: news) (fun y => J (i + 1) (ys ++ [y])) { s with heap := h, toks := tk }) E' s'
        else KeepEl h₀ L m ((I, oI) :: (C, oC) :: (D, LCg.lst ys) :: news) (fun _ => J (i + 1) ys) { s with heap := h, toks := tk } Value.none s') E' { s with heap := h, toks := tk })
    (fin : ∀ D h tk ys, J its.size ys → Fr h₀ L h m → News h₀ L h ((D, LCg.lst ys) :: news) → LCg.Off1 D news → Q (.ref D) { s with heap := h, toks := tk }) :
    LCt.CompSrcT prog w A h₀ L m env ct elt x scope cl (fun s₂ => LCg.FinE h₀ L m s₂ Q) (.ref ax) s := by
  refine LCt.CompSrcT.ledger hh F N hm hsz fun g => ?_
  refine comp_indT (fun j ys news' => news' = news ∧ J j ys) its.size ?_ (fun ys news' hj D h tk F' N' o' => by obtain ⟨rfl, hj⟩ := hj; exact fin D h tk ys hj F' N' o') its.size 0 [] news (Nat.zero_add _) ⟨rfl, h0⟩
  rintro i ys news' v I oI C oC D m₂ h tk E' hi ⟨rfl, hj⟩ hv hC hx F' N' off ne
  refine wpAny_mono (step i ys v I oI C oC D m₂ h tk E' hv hj hC hx F' N' off ne) (fun ok s₂ q => ?_) fun _ _ e => e
  cases ok with
  | true =>
    simp only [if_true] at q ⊢
    refine wpAny_mono q (fun y s₃ q₃ => ?_) fun _ _ e => e
    obtain ⟨h', tk', rfl, F2, N2, j2⟩ := q₃
    exact LCg.CompEnd.intro F2 N2 _ (fun p hp => hp) off (.inr ⟨_, hm, rfl, _, rfl⟩) ⟨rfl, j2⟩
  | false =>
    simp only [Bool.false_eq_true, if_false] at q ⊢
    obtain ⟨h', tk', rfl, F2, N2, j2⟩ := q
    exact LCg.CompEnd.intro F2 N2 _ (fun p hp => hp) off (.inr ⟨_, hm, rfl, _, rfl⟩) ⟨rfl, j2⟩
/-- a list and the empty list -/
theorem ne_empty {l b : Addr} {items : Array Value} {Q : Value → Shared → Prop} (hl : s.heap.IsList l items) (hb : s.heap.IsList b #[]) (hu : A.units < cLine)
    (h : Q (.bool (items.size != 0)) s) : wpAny (model prog w) A (compareOp .NotEq (.ref l) (.ref b)) Q E s := by
  cases e : (items.size != 0) with
  | true => rw [e] at h; exact SeqAt.RcNeAt.lists_lengths hl hb e hu prog w E Q h
  | false =>
    rw [e] at h
    have e' : items.size = 0 := by simpa using e
    refine SeqAt.RcNeAt.lists (e := fun _ => true) hl hb e' hu (fun j h1 h2 => absurd h2 (Nat.not_lt_zero _)) prog w E Q ?_
    rw [e']
    exact h
end
theorem dotAt_eq {cs : List Cell} {b j : Nat} {c : Cell} (hi : cs[b + j]? = some c) : dotAt cs b (b + j) = ((S c.b == Str.ofString ".") && ((cs.drop b).take j).any fun c => c.b != [46]) := by
  rw [S46, S_beq, dotAt, hi, Nat.add_sub_cancel_left]
  congr 1
  rw [Option.map_some, Bool.eq_iff_iff]
  simp
theorem endT_yes {cs : List Cell} {b j : Nat} {c : Cell} (hi : cs[b + j]? = some c) (h : (S c.b == Str.ofString ".") = true) (h2 : (((cs.drop b).take j).any fun c => c.b != [46]) = true) : endT cs b (j + 1) = b + j := by
  simp only [endT, dotAt_eq hi, h, h2, Bool.and_self, if_true]
theorem endT_no {cs : List Cell} {b j : Nat} {c : Cell} (hi : cs[b + j]? = some c) (h : (S c.b == Str.ofString ".") = false) : endT cs b (j + 1) = endT cs b j := by
  simp only [endT, dotAt_eq hi, h, Bool.false_and, Bool.false_eq_true, if_false]
theorem endT_no2 {cs : List Cell} {b j : Nat} {c : Cell} (hi : cs[b + j]? = some c) (h2 : (((cs.drop b).take j).any fun c => c.b != [46]) = false) : endT cs b (j + 1) = endT cs b j := by
  simp only [endT, dotAt_eq hi, h2, Bool.and_false, Bool.false_eq_true, if_false]
theorem CellsB.item {h : Heap} {vs : List Value} {cs : List Cell} (hc : CellsB h vs cs) {i : Nat} {v : Value} (e : vs[i]? = some v) : ∃ c a o, cs[i]? = some c ∧ v = .ref a ∧ h.get? a = some o ∧ IsCell o c := by
  have hi : i < cs.length := by rw [← hc.length]; exact (List.getElem?_eq_some_iff.mp e).1
  obtain ⟨a, o, q, ho, hq⟩ := hc.get i _ (List.getElem?_eq_getElem hi)
  rw [e] at q
  cases q
  exact ⟨_, a, o, List.getElem?_eq_getElem hi, rfl, ho, hq⟩
theorem Sne_dot {b : List Nat} : (S b != Str.ofString ".") = (b != [46]) := by
  rw [bne, bne, S46, S_beq, Bool.eq_iff_iff]
  simp
theorem notdot_yes {ys : List Value} {y : Value} {p : Bool} {b : List Nat} (h : (S b != Str.ofString ".") = true) : (ys ++ [y]).isEmpty = !(p || b != [46]) := by
  rw [Sne_dot] at h
  rw [h]
  simp
theorem notdot_no {ys : List Value} {p : Bool} {b : List Nat} (hj : ys.isEmpty = !p) (h : (S b != Str.ofString ".") = false) : ys.isEmpty = !(p || b != [46]) := by
  rw [Sne_dot] at h
  rw [h, Bool.or_false, hj]
theorem size_any {ys : List Value} {kc : List Cell} {n : Nat} {p : Cell → Bool} (hj : ys.isEmpty = !(kc.take n).any p) (hn : kc.length ≤ n) : (ys.toArray.size != 0) = kc.any p := by
  rw [List.take_of_length_le hn] at hj
  cases ys with
  | nil => simp at hj ⊢; exact hj
  | cons a r => simp at hj ⊢; exact hj
theorem fresh_head {g g₀ h : Heap} {L D : Addr} {o : Obj} {rest : List (Addr × Obj)} (N : News g L h ((D, o) :: rest)) (k : ∀ b o', g₀.get? b = some o' → g.get? b = some o') : g₀.get? D = none := by
  cases q : g₀.get? D with
  | none => rfl
  | some o' => have := (N _ (.head _)).2.2; rw [k _ _ q] at this; cases this
/-- a pair -/
noncomputable def IsPair (o : Obj) (a b : Value) : Prop := o.cls = .type "tuple" ∧ ∃ n, o.data = .seq #[a, b] n
theorem any_take_succ {cs : List Cell} {i : Nat} {c : Cell} (p : Cell → Bool) (e : cs[i]? = some c) : (cs.take (i + 1)).any p = ((cs.take i).any p || p c) := by
  rw [List.take_add_one, e]
  simp
/-- a goal that the walk leaves alone -/
noncomputable def Stop (p : Prop) : Prop := p
theorem stop_of {p : Prop} (h : Stop p) : p := h
theorem stop_to {p : Prop} (h : p) : Stop p := h
end Mine
end PartD4b
theorem Mine.flushD4 : True := by
  w_top off
  trivial
section PartD4
open PySem PySem.W PyProof.Rows PySem.Calls
set_option Elab.async false
namespace Mine
theorem kwD4x0 : True := by
  k_with_none
  k_with "size_fits" => first | (with_reducible assumption) | ((try simp only [PySem.Str.length_append, sizeLine_eq]); omega)
  k_with "k_room" => ((try simp only [depth_under_make, depth_under_kw, depth_in1, depth_deeper, depth_caller, depth_mark]); omega)
  k_with "k_units" => ((try simp only [units_under_kw, units_in1, units_deeper, units_caller, Around.mark_units]); omega)
  k_with "LeaveK" => (k_dflt (refine' leaveK_k ?k1z0b8 ?k2z0b8 ?_; (case k1z0b8 => k_asm); (case k2z0b8 => k_asm); k_whole); intro kkz0b8 kFz0b8 kNz0b8; (try dsimp only at kkz0b8 kFz0b8 kNz0b8 ⊢))
  k_with "exec For Name Call cons nil" => (k_here; (rename Fr _ _ _ _ => lF9z242); (with_unfolding_all refine' For_turns lF9z242 ?_; k_whole))
  k_with "call builtin:len" => (k_here; k_dflt (refine' len_list (base_list ?Fz000 ?lz000) ?zz000 ?_; (case Fz000 => k_asm); (case lz000 => assumption); (case zz000 => assumption)); (try dsimp only))
  k_with "subscriptTail" => (k_here; (with_reducible show wpAny _ _ (subscriptTail _ _ (Value.ref _) (Value.int _ _)) _ _ _); k_dflt (refine' item_cell ?Fz7e1 ?lz7e1 ?hcz7e1 ?hnz7e1 ?hkz7e1 ?hiz7e1 ?_ ?hsz7e1; (case Fz7e1 => k_asm); (case lz7e1 => assumption); (case hcz7e1 => assumption); (case hnz7e1 => assumption); (case hkz7e1 => assumption); (case hiz7e1 => assumption); (case hsz7e1 => with_unfolding_all rfl)); intro a'z7e1 o'z7e1 ho'z7e1 hq'z7e1; (try dsimp only))
  k_with "subscriptTail" => (k_here; (with_reducible show wpAny _ _ (subscriptTail _ _ (Value.ref _) (Value.int 1 _)) _ _ _); k_dflt (refine' item_b ?Fz597 ?hoz597 ?hcz597 ?_ ?hsz597; (case Fz597 => k_asm); (case hoz597 => assumption); (case hcz597 => assumption); (case hsz597 => with_unfolding_all rfl)); intro t'z597; (try dsimp only))
  k_with "compareOp NotEq ref ref" => (k_here; refine stop_of ?_)
  k_with "eval ListComp" => (k_here; k_dflt (refine LCt.ListComp_T (F₀ := by k_asm) (by with_unfolding_all rfl) (by decide) (by rfl) (by decide) (by rfl) ?_))
  trivial
set_option maxRecDepth 100000 in
set_option maxHeartbeats 4000000 in
theorem t_bounds {p : Program} {loose : List Str} {mean : ExcName → Option Value} {mg mb : Str → Option Value} {w : World} {A₀ : Around} {dep un : Nat} {gs : Option (List Code)} {s : Shared} {base h₀ : Heap} {outer : List Env} {nms : List (Str × NameKind)} {ig ic : Bool} {mo : List (Str × Const)} {loc glo bi : Addr} {cel : List (Str × Addr)} {qu : Str} {fn : Option Addr} {cod : Value} {L : Addr} {m : Str → Option Value} {R : Result → Shared → Prop} {CA : Addr} {vs : List Value} {cs : List Cell}
    (B : Below A₀ base outer h₀) (F : Fr h₀ L s.heap m) (X : (KF w.params).In h₀)  (T : Top p loose mean mg mb h₀) (hroom : dep + 20 < recursionLimit) (hun : un + 60 < cLine)
    (hl : s.heap.IsList CA vs.toArray) (hc : CellsB s.heap vs cs) (hn : cs.length ≤ 30) (h : ∀ h' tk TA oT tb te, Fr h₀ L h' m → HSub s.heap h' → News h₀ L h' [(TA, oT)] → IsPair oT (.int (begT cs cs.length : Nat) tb) (.int (endT cs (begT cs cs.length) (cs.length - begT cs cs.length) : Nat) te) → s.heap.get? TA = none → R (.ok (.ret (.ref TA))) { s with heap := h', toks := tk }) :
    codeAny (model PySem.Challenge.rw_nq0205_01.prog w) ⟨none, dep, some ((⟨⟨.function, nms, ig, ic, mo⟩, loc, glo, cel, qu, fn, cod, some L, bi⟩ : Env) :: outer), gs, un⟩ (.call (.ref 795) ⟨[.ref CA], []⟩) R s := by
  revert X; k_fill; intro X
  refine' code_defG B F X News.nil T rfl rfl rfl ?k6 ?k7 ?k8 ?k9 ?kB ?_ ?c2 ?c3 ?c4 ?c5
  case k6 => k_is
  case k7 => k_is
  case k8 => (show dep < _); omega
  case k9 => exact BindsTo.of_eq rfl
  case c5 => decide
  case kB => exact locs rfl
  case c2 => exact rfl
  case c3 => exact rfl
  case c4 => exact rfl
  intro g' L' h' FG' F' N' B' X' T' kG'
  (try dsimp only)
  (try k_fold)
  have hlC : g'.IsList CA vs.toArray := by obtain ⟨o, e, r⟩ := hl; exact ⟨o, kG' _ _ e (by simp), r⟩
  have hcC : CellsB g' vs cs := hc.keeps fun b o e => kG' _ _ e (by simp)
  have hvl : vs.length = cs.length := hc.length
  have hfit : ((vs.toArray.size : Nat) : Int) < 2 ^ 63 := by rw [List.size_toArray]; omega
  k_steps
  rename IsRange _ _ _ _ _ _ _ _ => hr
  rename Fr g' L' _ _ => F1
  rename News g' L' _ _ => N1
  refine loop_b (a := 0) (CA := CA) (pl := none) (n := cs.length) (a0 := 0) (fun i => (begT cs i : Int)) (fun _ => ((vs.toArray.size : Nat) : Int)) rfl (fun _ _ => rfl) (bF_init F1 (fun y => by with_unfolding_all rfl)) N1 hr ?ha ?hb ?hn ?turn ?done
  case ha => rfl
  case hb => rw [List.size_toArray, hvl, Nat.zero_add]
  case hn => omega
  case turn =>
    clear F1 N1 hr
    intro i k t tb te pl h₁ tk₁ I oI hi hk F1 N1
    obtain ⟨c, hci⟩ : ∃ c, cs[i]? = some c := ⟨cs[i], List.getElem?_eq_getElem hi⟩
    rw [Nat.zero_add] at hk
    k_steps
    · exact ⟨rfl, _, _, _, _, _, rfl, bF_begI (by assumption) (by rw [begT_yes hci (by assumption)]; omega), by assumption⟩
    · exact ⟨rfl, _, _, _, _, _, rfl, bF_plB (by assumption) (by rw [begT_no hci (by assumption)]), by assumption⟩
  case done =>
    clear F1 N1 hr
    intro h1 tk1 tb te pl F1 N1
    have hble := begT_le cs cs.length
    generalize hbeg : begT cs cs.length = bg at *
    k_steps
    rename IsRange _ _ _ _ _ _ _ _ => hr
    rename Fr g' _ _ _ => F2
    rename News g' _ _ _ => N2
    refine loop_b (a := (bg : Int)) (CA := CA) (n := cs.length - bg) (a0 := bg) (fun _ => (bg : Int)) (fun j => (endT cs bg j : Int)) rfl (fun _ _ => rfl) (by rw [show ((endT cs bg 0 : Nat) : Int) = ((vs.toArray.size : Nat) : Int) by rw [List.size_toArray, hvl]; rfl]; exact F2) N2 hr rfl ?hb ?hn ?turn2 ?done2
    case hb => rw [List.size_toArray, hvl]; omega
    case hn => omega
    case turn2 =>
      clear F2 N2 hr
      intro i k t tb te pl h₁ tk₁ I oI hi hk F1 N1
      obtain ⟨c, hci⟩ : ∃ c, cs[bg + i]? = some c := ⟨cs[bg + i], List.getElem?_eq_getElem (by omega)⟩
      k_steps
      rotate_left
      · exact ⟨rfl, _, _, _, _, _, rfl, bF_plE (by assumption) (by rw [endT_no hci (by assumption)]), by assumption⟩
      rename Fr g' L' _ _ => F3
      rename News g' L' _ _ => N3
      have hsl : slicePick vs.toArray (some (bg : Int)) (some k) none = ((vs.drop bg).take i).toArray := by
        rw [hk, slicePick_run _ _ _ (by rw [List.size_toArray]; omega) (by omega), Nat.add_sub_cancel_left]
      have hkc := (hcC.drop bg).take i
      rw [hsl] at N3
      generalize hSL : (_ + 1 : Nat) = SL at N3 ⊢
      refine srcT_keep (fun j ys => ys.isEmpty = !(((cs.drop bg).take i).take j).any fun c => c.b != [46]) rfl F3 N3 (.head _) ?hsz rfl ?step ?fin
      case hsz => rw [sizeLine_eq, List.size_toArray]; simp; omega
      case step =>
        rintro j ys v I2 oI2 C2 oC2 D2 m2 h2 tk2 E2 hv hj hC2 hx2 F2 N2 off2 ne2
        rw [List.getElem?_toArray] at hv
        obtain ⟨c2, a2, o2, hc2, rfl, ho2, hq2⟩ := hkc.item hv
        rw [any_take_succ _ hc2]
        k_steps
        · exact ⟨_, _, rfl, by assumption, by assumption, notdot_yes (by assumption)⟩
        · exact ⟨_, _, rfl, by assumption, by assumption, notdot_no hj (by assumption)⟩
      case fin =>
        rintro D2 h2 tk2 ys hj F2 N2 off2
        k_steps
        refine stop_to ?_
        rename News g' L' _ _ => N4
        have hj2 : (ys.toArray.size != 0) = ((cs.drop bg).take i).any fun c => c.b != [46] := size_any hj (by rw [List.size_toArray, hkc.length]; exact Nat.le_refl _)
        refine ne_empty ⟨_, (N4 _ (.tail _ (.head _))).1, rfl, _, rfl⟩ ⟨_, (N4 _ (.head _)).1, rfl, _, rfl⟩ (by k_units) ?_
        rw [hj2]
        k_steps
        · exact ⟨rfl, _, _, _, _, _, rfl, bF_endI (by assumption) (by rw [endT_yes hci (by assumption) (by assumption)]; exact hk), fun q hq => (by assumption : News g' L' _ _) q (.tail _ (.tail _ (.tail _ hq)))⟩
        · exact ⟨rfl, _, _, _, _, _, rfl, bF_plE (by assumption) (by rw [endT_no2 hci (by assumption)]), fun q hq => (by assumption : News g' L' _ _) q (.tail _ (.tail _ (.tail _ hq)))⟩
    case done2 =>
      clear F2 N2 hr
      intro h3 tk3 tb3 te3 pl3 F3 N3
      k_steps
      rename News g' _ _ _ => N4
      rename News h₀ L _ _ => N5
      subst hbeg
      exact h _ _ _ _ _ _ (by assumption) (fun b o e => (by assumption : HSub g' _) _ _ (kG' _ _ e (by simp))) N5 ⟨rfl, _, rfl⟩ (fresh_head N4 fun _ _ e => kG' _ _ e (by simp))
end Mine
end PartD4
theorem Mine.flushE1 : True := by
  w_top off
  trivial
section PartE1
open PySem PySem.W PyProof.Rows PySem.Calls
set_option Elab.async false
namespace Mine
/-! the plain law: cells are read by a machine of two states -/
inductive St where
  | out (k : Nat)
  | inq (k : Nat)
noncomputable def St.k : St → Nat
  | .out k => k
  | .inq k => k
noncomputable def St.isQ : St → Bool
  | .out _ => false
  | .inq _ => true
/-- one cell -/
inductive Step : St → Cell → St → Prop
  | blank (k) : Step (.out k) blankC (.out (k + 1))
  | bare (k c) : safeN c = true → Step (.out k) (bareC k c) (.out k)
  | opens (k) : Step (.out k) (markC k) (.inq k)
  | sign (k c) : Step (.inq k) (quotC k c) (.inq k)
  | shuts (k) : Step (.inq k) (markC k) (.out k)
inductive Run : St → List Cell → St → Prop
  | nil (s) : Run s [] s
  | cons {s c s' cs s''} : Step s c s' → Run s' cs s'' → Run s (c :: cs) s''
theorem Run.append {s s' s'' : St} {xs ys : List Cell} (h : Run s xs s') (h2 : Run s' ys s'') : Run s (xs ++ ys) s'' := by
  induction h with
  | nil => exact h2
  | cons a _ ih => exact .cons a (ih h2)
theorem Run.split {s s'' : St} {xs ys : List Cell} : Run s (xs ++ ys) s'' → ∃ s', Run s xs s' ∧ Run s' ys s'' := by
  induction xs generalizing s with
  | nil => exact fun h => ⟨s, .nil s, h⟩
  | cons c xs ih =>
    intro h
    cases h with
    | cons a r =>
      obtain ⟨s', h1, h2⟩ := ih r
      exact ⟨s', .cons a h1, h2⟩
noncomputable def flatA (cs : List Cell) : List Nat := cs.flatMap (·.a)
noncomputable def flatB (cs : List Cell) : List Nat := cs.flatMap (·.b)
/-- the words that the cells tell -/
noncomputable def toks : List Nat → Bool → List Cell → List (List Nat)
  | t, has, [] => if has then [t] else []
  | t, has, c :: r => if c.k = -1 then (if has then [t] else []) ++ toks [] false r else toks (t ++ c.b) true r
/-- the rest of the words, in the midst of one -/
noncomputable def ToksG (cs : List Nat) (ls : LS) (t : Str) (q : Bool) (r : Option (List Str)) : Prop :=
  (∃ ls' cs', rtok cs ls t q = some (ls', cs', none) ∧ r = some []) ∨ (∃ ls' cs' y r', rtok cs ls t q = some (ls', cs', some y) ∧ Toks cs' ls' r' ∧ r = r'.map (y :: ·)) ∨ (rtok cs ls t q = none ∧ r = none)
theorem ToksG.toks {cs : List Nat} {ls : LS} {r : Option (List Str)} (h : ToksG cs ls (Str.ofString "") false r) : Toks cs ls r := by
  rcases h with ⟨ls', cs', e, rfl⟩ | ⟨ls', cs', y, r', e, h, rfl⟩ | ⟨e, rfl⟩
  · exact .stop e
  · exact .more e h
  · exact .fail e
theorem ToksG.of {cs cs' : List Nat} {ls ls' : LS} {t t' : Str} {q q' : Bool} {r : Option (List Str)} (e : rtok cs ls t q = rtok cs' ls' t' q') (h : ToksG cs' ls' t' q' r) : ToksG cs ls t q r := by
  unfold ToksG at h ⊢
  rw [e]
  exact h
theorem S_append (x y : List Nat) : S x ++ S y = S (x ++ y) := by
  show Str.mk _ = Str.mk _
  congr 1
  simp [S]
theorem S_nil : Str.ofString "" = S [] := by decide +kernel
theorem S_ch (c : Nat) : chS c = S [c] := rfl
theorem safe_ne {c : Nat} (h : safeN c = true) : c ≠ 32 ∧ c ≠ 39 ∧ c ≠ 34 := by
  have : ∀ c ∈ (Str.ofString "abcdefghijklmnopqrstuvwxyzABCDEFGHIJKLMNOPQRSTUVWXYZ0123456789_@%+=:,./-").cps.toList, c ≠ 32 ∧ c ≠ 39 ∧ c ≠ 34 := by decide +kernel
  exact this c (List.contains_iff_mem.mp h)
/-- the state of the lexer -/
noncomputable def lsOf : St → Bool → LS
  | .out _, false => .sp
  | .out _, true => .a
  | .inq _, _ => .q
theorem lex_run {s s' : St} {cs : List Cell} (h : Run s cs s') : ∀ has, lexOk (flatA cs) (lsOf s has) = true := by
  induction h with
  | nil s => intro has; cases s <;> cases has <;> rfl
  | cons a _ ih =>
    intro has
    cases a with
    | blank k => cases has <;> exact ih false
    | bare k c hc =>
      obtain ⟨h1, h2, h3⟩ := safe_ne hc
      have := ih true
      cases has <;> simp only [flatA, List.flatMap_cons, bareC, List.cons_append, List.nil_append, lsOf, lexOk, h1, h2, h3, if_false, hc, Bool.true_and] <;> exact this
    | opens k => cases has <;> exact ih true
    | sign k c =>
      have := ih true
      by_cases h : c = 39
      · subst h; exact this
      · simp only [flatA, List.flatMap_cons, quotC, h, if_false, List.cons_append, List.nil_append, lsOf, lexOk]
        exact this
    | shuts k => exact ih true
end Mine
end PartE1
theorem Mine.flushE2 : True := by
  w_top off
  trivial
section PartE2
open PySem PySem.W PyProof.Rows PySem.Calls
set_option Elab.async false
namespace Mine
noncomputable def InvT : St → List Nat → Bool → Bool → Prop
  | .out _, t, false, q => t = [] ∧ q = false
  | .out _, t, true, q => t ≠ [] ∨ q = true
  | .inq _, _, has, _ => has = true
theorem S_inj {x y : List Nat} (h : S x = S y) : x = y := by
  have := congrArg (fun z : Str => z.cps.toList) h
  simpa [S] using this
theorem fin_some {t : List Nat} {q : Bool} (h : t ≠ [] ∨ q = true) : finT (S t) q = some (S t) := by
  unfold finT
  rw [if_neg]
  rintro ⟨h1, h2⟩
  rcases h with h | h
  · exact h (S_inj (h2.trans S_nil))
  · rw [h] at h1; cases h1
theorem fin_none : finT (S []) false = none := by
  unfold finT
  rw [if_pos ⟨rfl, S_nil.symm⟩]
theorem toks_cons {t : List Nat} {has : Bool} {c : Cell} {cs : List Cell} (hk : c.k ≠ -1) : toks t has (c :: cs) = toks (t ++ c.b) true cs := by
  conv => lhs; unfold toks
  rw [if_neg hk]
theorem tok_run {s s' : St} {cs : List Cell} (h : Run s cs s') : ∀ t has q, InvT s t has q → ToksG (flatA cs) (lsOf s has) (S t) q (if s'.isQ then none else some ((toks t has cs).map S)) := by
  induction h with
  | nil s =>
    intro t has q hi
    cases s with
    | out k =>
      cases has with
      | false =>
        obtain ⟨rfl, rfl⟩ := hi
        exact .inl ⟨.no, [], by show some (LS.no, [], finT (S []) false) = _; rw [fin_none], rfl⟩
      | true =>
        exact .inr (.inl ⟨.no, [], S t, some [], by show some (LS.no, [], finT (S t) q) = _; rw [fin_some hi], .stop (cs' := []) (ls' := .no) (by show some (LS.no, [], finT (Str.ofString "") false) = _; rw [S_nil, fin_none]), rfl⟩)
    | inq k => exact .inr (.inr ⟨by cases has <;> rfl, rfl⟩)
  | @cons s0 c s1 cs s2 a r ih =>
    intro t has q hi
    cases a with
    | blank k =>
      cases has with
      | false =>
        obtain ⟨rfl, rfl⟩ := hi
        exact ToksG.of (cs' := flatA cs) (ls' := .sp) (t' := S []) (q' := false) rfl (ih [] false false ⟨rfl, rfl⟩)
      | true =>
        have h1 := ih [] false false ⟨rfl, rfl⟩
        rw [← S_nil] at h1
        refine .inr (.inl ⟨.sp, flatA cs, S t, _, by show some (LS.sp, flatA cs, finT (S t) q) = _; rw [fin_some hi], h1.toks, ?_⟩)
        cases s2.isQ <;> rfl
    | bare k c hc =>
      obtain ⟨h1, h2, h3⟩ := safe_ne hc
      have hk : (bareC (k : Int) c).k ≠ -1 := by show (k : Int) ≠ -1; omega
      have ht : toks t has (bareC (k : Int) c :: cs) = toks (t ++ [c]) true cs := toks_cons hk
      rw [ht]
      cases has with
      | false =>
        obtain ⟨rfl, rfl⟩ := hi
        refine ToksG.of (cs' := flatA cs) (ls' := .a) (t' := S ([] ++ [c])) (q' := false) ?_ (ih ([] ++ [c]) true false (.inl (by simp)))
        show rtok (c :: flatA cs) .sp _ _ = _
        simp only [rtok, h1, h2, h3, if_false]
        rfl
      | true =>
        refine ToksG.of (cs' := flatA cs) (ls' := .a) (t' := S (t ++ [c])) (q' := q) ?_ (ih (t ++ [c]) true q (.inl (by simp)))
        show rtok (c :: flatA cs) .a _ _ = _
        simp only [rtok, h1, h2, h3, if_false]
        rw [S_ch, S_append]
    | opens k =>
      have hk : (markC (k : Int)).k ≠ -1 := by show (k : Int) ≠ -1; omega
      have ht : toks t has (markC (k : Int) :: cs) = toks (t ++ []) true cs := toks_cons hk
      rw [ht, List.append_nil]
      cases has with
      | false => exact ToksG.of (cs' := flatA cs) (ls' := .q) (t' := S t) (q' := q) rfl (ih t true q rfl)
      | true => exact ToksG.of (cs' := flatA cs) (ls' := .q) (t' := S t) (q' := q) rfl (ih t true q rfl)
    | sign k c =>
      have hk : (quotC (k : Int) c).k ≠ -1 := by show (k : Int) ≠ -1; omega
      have ht : toks t has (quotC (k : Int) c :: cs) = toks (t ++ [c]) true cs := toks_cons hk
      rw [ht]
      refine ToksG.of (cs' := flatA cs) (ls' := .q) (t' := S (t ++ [c])) (q' := true) ?_ (ih (t ++ [c]) true true rfl)
      by_cases h : c = 39
      · subst h
        show rtok (39 :: 34 :: 39 :: 34 :: 39 :: flatA cs) .q _ _ = _
        simp only [rtok, if_true, reduceIte, show (34 : Nat) ≠ 32 by decide, show (34 : Nat) ≠ 39 by decide, show (39 : Nat) ≠ 34 by decide, show (39 : Nat) ≠ 32 by decide]
        rw [S_ch, S_append]
      · have e : flatA (quotC (k : Int) c :: cs) = c :: flatA cs := by simp [flatA, quotC, h]
        rw [e]
        show rtok (c :: flatA cs) .q _ _ = _
        simp only [rtok, h, if_false]
        rw [S_ch, S_append]
    | shuts k =>
      have hk : (markC (k : Int)).k ≠ -1 := by show (k : Int) ≠ -1; omega
      have ht : toks t has (markC (k : Int) :: cs) = toks (t ++ []) true cs := toks_cons hk
      rw [ht, List.append_nil]
      exact ToksG.of (cs' := flatA cs) (ls' := .a) (t' := S t) (q' := true) rfl (ih t true true (.inr rfl))
end Mine
end PartE2
theorem Mine.flushE3 : True := by
  w_top off
  trivial
section PartE3
open PySem PySem.W PyProof.Rows PySem.Calls
set_option Elab.async false
namespace Mine
noncomputable def hasK (cs : List Cell) (j : Nat) : Bool := cs.any fun c => c.k == (j : Int)
noncomputable def sel (cs : List Cell) (j : Nat) : List Nat := flatB (cs.filter fun c => c.k == (j : Int))
noncomputable def dueR (cs : List Cell) (js : List Nat) : List (List Nat) := js.filterMap fun j => if hasK cs j then some (sel cs j) else none
theorem Step.mono {s s' : St} {c : Cell} (h : Step s c s') : s.k ≤ s'.k := by
  cases h <;> simp [St.k]
theorem Step.low {s s' : St} {c : Cell} (h : Step s c s') : (c = blankC ∧ s = .out s.k ∧ s' = .out (s.k + 1)) ∨ (c.k = (s.k : Int) ∧ s'.k = s.k) := by
  cases h
  · exact .inl ⟨rfl, rfl, rfl⟩
  all_goals exact .inr ⟨rfl, rfl⟩
theorem Run.mono {s s' : St} {cs : List Cell} (h : Run s cs s') : s.k ≤ s'.k := by
  induction h with
  | nil => exact Nat.le_refl _
  | cons a _ ih => exact Nat.le_trans a.mono ih
theorem Run.low {s s' : St} {cs : List Cell} (h : Run s cs s') : ∀ c ∈ cs, c.k = -1 ∨ (s.k : Int) ≤ c.k := by
  induction h with
  | nil => intro c hc; cases hc
  | cons a _ ih =>
    intro c hc
    rcases List.mem_cons.mp hc with rfl | hc
    · rcases a.low with ⟨rfl, _, _⟩ | ⟨h1, _⟩
      · exact .inl rfl
      · exact .inr (by omega)
    · rcases ih c hc with h | h
      · exact .inl h
      · exact .inr (by have := a.mono; omega)
theorem hasK_low {s s' : St} {cs : List Cell} (h : Run s cs s') {j : Nat} (hj : j < s.k) : hasK cs j = false ∧ sel cs j = [] := by
  have e : ∀ c ∈ cs, (c.k == (j : Int)) = false := fun c hc => by
    rw [beq_eq_false_iff_ne]
    rcases h.low c hc with h | h <;> omega
  refine ⟨?_, ?_⟩
  · unfold hasK
    rw [List.any_eq_false]
    intro c hc
    rw [e c hc]
    exact Bool.false_ne_true
  · unfold sel
    rw [List.filter_eq_nil_iff.mpr]
    · rfl
    · intro c hc
      rw [e c hc]
      exact Bool.false_ne_true
theorem dueR_js (cs : List Cell) (j : Nat) (js : List Nat) : dueR cs (j :: js) = (if hasK cs j = true then [sel cs j] else []) ++ dueR cs js := by
  unfold dueR
  cases h : hasK cs j <;> simp [List.filterMap_cons, h]
theorem dueR_cons {c : Cell} {cs : List Cell} {js : List Nat} (h : ∀ j ∈ js, (c.k == (j : Int)) = false) : dueR (c :: cs) js = dueR cs js := by
  induction js with
  | nil => rfl
  | cons j js ih =>
    have e := h j List.mem_cons_self
    rw [dueR_js, dueR_js, ih fun i hi => h i (List.mem_cons_of_mem _ hi)]
    simp only [hasK, sel, List.any_cons, List.filter_cons, e, Bool.false_or, Bool.false_eq_true, if_false]
    rfl
theorem toks_due {s s' : St} {cs : List Cell} (h : Run s cs s') : ∀ (t : List Nat) (has : Bool) (n : Nat), (has = false → t = []) → s'.k ≤ s.k + n →
    toks t has cs = (if (has || hasK cs s.k) = true then [t ++ sel cs s.k] else []) ++ dueR cs (List.range' (s.k + 1) n) := by
  induction h with
  | nil s =>
    intro t has n ht hn
    have e : dueR [] (List.range' (s.k + 1) n) = [] := by
      unfold dueR
      rw [List.filterMap_eq_nil_iff]
      intro j _
      rfl
    rw [e]
    cases has <;> simp [toks, hasK, sel, flatB]
  | @cons s0 c s1 cs s2 a r ih =>
    intro t has n ht hn
    rcases a.low with ⟨rfl, e0, e1⟩ | ⟨hk, e1⟩
    · have hm := r.mono
      have hs1 : s1.k = s0.k + 1 := by rw [e1]; rfl
      obtain ⟨n', rfl⟩ : ∃ n', n = n' + 1 := ⟨n - 1, by omega⟩
      have low := hasK_low r (j := s0.k) (by omega)
      have hb : ∀ j : Nat, ((blankC.k) == (j : Int)) = false := fun j => by rw [beq_eq_false_iff_ne]; show (-1 : Int) ≠ _; omega
      have b1 : hasK (blankC :: cs) s0.k = false := by unfold hasK; rw [List.any_cons, hb]; exact low.1
      have b2 : sel (blankC :: cs) s0.k = [] := by unfold sel; rw [List.filter_cons, hb]; exact low.2
      have ht2 : toks t has (blankC :: cs) = (if has then [t] else []) ++ toks [] false cs := by
        conv => lhs; unfold toks
        rw [if_pos (show blankC.k = -1 from rfl)]
      rw [ht2, ih [] false n' (fun _ => rfl) (by omega), dueR_cons fun j _ => hb j, b1, b2, List.range'_succ, hs1]
      rw [List.append_nil, Bool.or_false, List.nil_append, Bool.false_or]
      rw [dueR_js]
    · have hne : c.k ≠ -1 := by omega
      rw [toks_cons hne, ih (t ++ c.b) true n (by intro h; cases h) (by omega), e1]
      have hc : (c.k == ((s0.k : Nat) : Int)) = true := by rw [hk]; simp
      have c1 : hasK (c :: cs) s0.k = true := by unfold hasK; rw [List.any_cons, hc]; rfl
      have c2 : sel (c :: cs) s0.k = c.b ++ sel cs s0.k := by unfold sel; rw [List.filter_cons, hc]; simp [flatB]
      rw [c1, c2, dueR_cons fun j hj => by
        rw [List.mem_range'_1] at hj
        rw [beq_eq_false_iff_ne, hk]; omega]
      simp
/-- the words due -/
theorem due_toks {s s' : St} {cs : List Cell} {nw : Nat} (h : Run s cs s') (hn : s'.k < nw) : dueR cs (List.range nw) = toks [] false cs := by
  have hm := h.mono
  have e : List.range nw = List.range' 0 s.k ++ (s.k :: List.range' (s.k + 1) (nw - s.k - 1)) := by
    rw [List.range_eq_range', ← List.range'_succ]
    have := List.range'_append_1 (s := 0) (m := s.k) (n := nw - s.k - 1 + 1)
    rw [Nat.zero_add] at this
    rw [this]
    congr 1
    omega
  rw [toks_due h [] false (nw - s.k - 1) (fun _ => rfl) (by omega), e]
  have z : ∀ js : List Nat, (∀ j ∈ js, j < s.k) → ∀ ks, dueR cs (js ++ ks) = dueR cs ks := fun js => by
    induction js with
    | nil => intro _ ks; rfl
    | cons j js ih =>
      intro hj ks
      rw [List.cons_append, dueR_js, (hasK_low h (hj j List.mem_cons_self)).1, ih fun i hi => hj i (List.mem_cons_of_mem _ hi)]
      rfl
  rw [z _ (fun j hj => by rw [List.mem_range'_1] at hj; omega), dueR_js]
  simp
end Mine
end PartE3
theorem Mine.flushE4 : True := by
  w_top off
  trivial
section PartE4
open PySem PySem.W PyProof.Rows PySem.Calls
set_option Elab.async false
namespace Mine
theorem run_bare (k : Nat) : ∀ w : List Nat, w.all safeN = true → Run (.out k) (w.map (bareC k)) (.out k)
  | [], _ => .nil _
  | c :: w, h => by
    rw [List.all_cons, Bool.and_eq_true] at h
    exact .cons (.bare k c h.1) (run_bare k w h.2)
theorem run_quot (k : Nat) : ∀ w : List Nat, Run (.inq k) (w.map (quotC k)) (.inq k)
  | [] => .nil _
  | c :: w => .cons (.sign k c) (run_quot k w)
theorem run_item (k : Nat) (w : List Nat) : Run (.out k) (itemCells k (markedW w) w) (.out k) := by
  unfold itemCells
  cases h : markedW w with
  | true => exact .cons (.opens k) ((run_quot k w).append (.cons (.shuts k) (.nil _)))
  | false =>
    refine run_bare k w ?_
    unfold markedW at h
    simp only [Bool.not_eq_false', Bool.and_eq_true] at h
    exact h.2
theorem run_from : ∀ (ws : List (List Nat)) (k : Nat), Run (.out k) (cellsFrom (k + 1) ws) (.out (k + ws.length))
  | [], k => .nil _
  | w :: ws, k => by
    have h := (run_item (k + 1) w).append (run_from ws (k + 1))
    rw [show k + (w :: ws).length = k + 1 + ws.length by simp; omega]
    exact .cons (.blank k) h
theorem run_cells (w : List Nat) (ws : List (List Nat)) : Run (.out 0) (cellsFrom 0 (w :: ws)) (.out ws.length) := by
  have h := (run_item 0 w).append (run_from ws 0)
  rw [Nat.zero_add ws.length] at h
  exact h
/-- a sign's cell tells the state -/
theorem Step.sign_of {s s' : St} {c : Cell} {x : Nat} (h : Step s c s') (hb : c.b = [x]) : s' = s ∧ c.q = s.isQ ∧ c.k = (s.k : Int) := by
  cases h with
  | blank => cases hb
  | bare => exact ⟨rfl, rfl, rfl⟩
  | opens => cases hb
  | sign => exact ⟨rfl, rfl, rfl⟩
  | shuts => cases hb
theorem Run.one {s s' : St} {c : Cell} (h : Run s [c] s') : Step s c s' := by
  cases h with
  | cons a r => cases r; exact a
theorem Run.head {s s' : St} {c : Cell} {cs : List Cell} (h : Run s (c :: cs) s') : ∃ s1, Step s c s1 ∧ Run s1 cs s' := by
  cases h with
  | cons a r => exact ⟨_, a, r⟩
/-- the text with the marks put back -/
noncomputable def aheadC (s : St) : List Cell := if s.isQ then [markC s.k] else []
theorem run_ahead {s s' : St} {cs : List Cell} (h : Run s cs s') : Run (.out s.k) (aheadC s ++ cs) s' := by
  cases s with
  | out k => exact h
  | inq k => exact .cons (.opens k) h
theorem run_behind {s s' : St} {cs : List Cell} (h : Run s cs s') : Run s (cs ++ aheadC s') (.out s'.k) := by
  cases s' with
  | out k => simpa [aheadC, St.isQ, St.k] using h
  | inq k => exact h.append (.cons (.shuts k) (.nil _))
/-- a mark more changes no word that is there -/
theorem dueR_mark {xs ys : List Cell} {k : Nat} {js : List Nat} (hk : hasK (xs ++ ys) k = true) : dueR (xs ++ markC k :: ys) js = dueR (xs ++ ys) js := by
  induction js with
  | nil => rfl
  | cons j js ih =>
    rw [dueR_js, dueR_js, ih]
    congr 1
    have e1 : sel (xs ++ markC k :: ys) j = sel (xs ++ ys) j := by
      unfold sel flatB
      rw [List.filter_append, List.filter_append, List.filter_cons]
      split <;> simp [markC]
    have e2 : hasK (xs ++ markC k :: ys) j = hasK (xs ++ ys) j := by
      by_cases h : j = k
      · subst h
        rw [hk]
        unfold hasK
        simp [markC]
      · unfold hasK
        have : ((markC (k : Int)).k == (j : Int)) = false := by rw [beq_eq_false_iff_ne]; show (k : Int) ≠ j; omega
        rw [List.any_append, List.any_cons, this, List.any_append, Bool.false_or]
    rw [e1, e2]
/-- inside of marks, the first cell is of the word -/
theorem has_first {k : Nat} {s' : St} {cs : List Cell} (h : Run (.inq k) cs s') (hne : cs ≠ []) : hasK cs k = true := by
  cases h with
  | nil => exact absurd rfl hne
  | cons a r =>
    rcases a.low with ⟨_, e, _⟩ | ⟨e, _⟩
    · cases e
    · unfold hasK
      rw [List.any_cons, e]
      simp [St.k]
/-- and so is the last -/
theorem has_last {s : St} {k : Nat} {cs : List Cell} (h : Run s cs (.inq k)) (hne : cs ≠ []) : hasK cs k = true := by
  obtain ⟨xs, c, rfl⟩ : ∃ xs c, cs = xs ++ [c] := ⟨cs.dropLast, cs.getLast hne, (List.dropLast_concat_getLast hne).symm⟩
  obtain ⟨s1, _, h2⟩ := h.split
  have a := h2.one
  rcases a.low with ⟨_, _, e⟩ | ⟨e, e2⟩
  · cases e
  · have : s1.k = k := e2.symm
    unfold hasK
    rw [List.any_append, List.any_cons, e, this]
    simp
/-- what the law looks at: the words of the kept cells, with the marks put back -/
theorem due_kept {s s' : St} {kept : List Cell} {nw : Nat} (h : Run s kept s') (hn : s'.k < nw) (hne : s.isQ = true ∨ s'.isQ = true → kept ≠ []) :
    Run (.out s.k) (aheadC s ++ (kept ++ aheadC s')) (.out s'.k) ∧ dueR kept (List.range nw) = toks [] false (aheadC s ++ (kept ++ aheadC s')) := by
  have r := run_ahead (run_behind h)
  refine ⟨r, ?_⟩
  rw [← due_toks r hn]
  have e2 : dueR (kept ++ aheadC s') (List.range nw) = dueR kept (List.range nw) := by
    cases s' with
    | out k => simp [aheadC, St.isQ]
    | inq k =>
      have := dueR_mark (xs := kept) (ys := []) (k := k) (js := List.range nw) (by simpa using has_last h (hne (.inr rfl)))
      simpa [aheadC, St.isQ, St.k] using this
  rw [← e2]
  cases s with
  | out k => rfl
  | inq k =>
    have hk : hasK (kept ++ aheadC s') k = true := by
      have := has_first h (hne (.inl rfl))
      unfold hasK at this ⊢
      rw [List.any_append, this]
      rfl
    exact (dueR_mark (xs := []) (ys := kept ++ aheadC s') hk).symm
end Mine
end PartE4
theorem Mine.flushE5 : True := by
  w_top off
  trivial
section PartE5
open PySem PySem.W PyProof.Rows PySem.Calls
set_option Elab.async false
namespace Mine
/-! the bounds -/
theorem begT_none (cs : List Cell) : ∀ i j, begT cs i ≤ j → j < i → (cs[j]?).map (·.b) ≠ some [47]
  | 0, j, _, h => absurd h (Nat.not_lt_zero _)
  | i + 1, j, h1, h2 => by
    unfold begT at h1
    split at h1
    · omega
    · rename_i hn
      by_cases e : j = i
      · rw [e]; exact hn
      · exact begT_none cs i j h1 (by omega)
theorem begT_slash (cs : List Cell) : ∀ i, begT cs i = 0 ∨ (0 < begT cs i ∧ (cs[begT cs i - 1]?).map (·.b) = some [47])
  | 0 => .inl rfl
  | i + 1 => by
    unfold begT
    split
    · rename_i h; exact .inr ⟨Nat.succ_pos _, by simpa using h⟩
    · exact begT_slash cs i
theorem endT_is (cs : List Cell) (b : Nat) : ∀ j, (endT cs b j = cs.length ∧ ∀ p, b ≤ p → p < b + j → dotAt cs b p = false) ∨
    (b ≤ endT cs b j ∧ endT cs b j < b + j ∧ dotAt cs b (endT cs b j) = true ∧ ∀ p, endT cs b j < p → p < b + j → dotAt cs b p = false)
  | 0 => .inl ⟨rfl, fun p h1 h2 => by omega⟩
  | j + 1 => by
    unfold endT
    cases h : dotAt cs b (b + j) with
    | true =>
      rw [if_pos rfl]
      exact .inr ⟨by omega, by omega, h, fun p h1 h2 => by omega⟩
    | false =>
      rw [if_neg Bool.false_ne_true]
      rcases endT_is cs b j with ⟨h1, h2⟩ | ⟨h1, h2, h3, h4⟩
      · refine .inl ⟨h1, fun p q1 q2 => ?_⟩
        by_cases e : p = b + j
        · rw [e]; exact h
        · exact h2 p q1 (by omega)
      · refine .inr ⟨h1, by omega, h3, fun p q1 q2 => ?_⟩
        by_cases e : p = b + j
        · rw [e]; exact h
        · exact h4 p q1 (by omega)
/-- the cells behind the last slash -/
theorem post_noslash (cs : List Cell) : ∀ c ∈ cs.drop (begT cs cs.length), c.b ≠ [47] := by
  intro c hc
  obtain ⟨i, hi, rfl⟩ := List.getElem_of_mem hc
  have hi' : begT cs cs.length + i < cs.length := by rw [List.length_drop] at hi; omega
  have := begT_none cs cs.length (begT cs cs.length + i) (by omega) hi'
  rw [List.getElem?_eq_getElem hi'] at this
  rw [List.getElem_drop]
  intro e
  exact this (by rw [Option.map_some, e])
theorem pre_slash (cs : List Cell) : cs.take (begT cs cs.length) = [] ∧ begT cs cs.length = 0 ∨ ∃ xs s, cs.take (begT cs cs.length) = xs ++ [s] ∧ s.b = [47] ∧ 0 < begT cs cs.length ∧ cs[begT cs cs.length - 1]? = some s := by
  rcases begT_slash cs cs.length with h | ⟨h0, h⟩
  · exact .inl ⟨by rw [h]; rfl, h⟩
  · have hle := begT_le cs cs.length
    generalize begT cs cs.length = b at h0 h hle ⊢
    cases e : cs[b - 1]? with
    | none => rw [e] at h; cases h
    | some s =>
      rw [e, Option.map_some, Option.some.injEq] at h
      refine .inr ⟨cs.take (b - 1), s, ?_, h, h0, rfl⟩
      have : cs.take (b - 1 + 1) = cs.take (b - 1) ++ cs[b - 1]?.toList := List.take_add_one
      rw [e, show b - 1 + 1 = b by omega] at this
      exact this
theorem dot_mono {cs : List Cell} {b p p' : Nat} (h : dotAt cs b p = true) (hp : p ≤ p') (hd : (cs[p']?).map (·.b) = some [46]) : dotAt cs b p' = true := by
  unfold dotAt at h ⊢
  rw [Bool.and_eq_true] at h ⊢
  refine ⟨by rw [hd]; rfl, ?_⟩
  have h2 := h.2
  rw [List.any_eq_true] at h2 ⊢
  obtain ⟨c, hc, hq⟩ := h2
  refine ⟨c, ?_, hq⟩
  have : (cs.drop b).take (p - b) = ((cs.drop b).take (p' - b)).take (p - b) := by rw [List.take_take]; congr 1; omega
  rw [this] at hc
  exact List.mem_of_mem_take hc
/-- the kept cells: up to the last dot that has another sign ahead of it, or all -/
theorem kept_is (cs : List Cell) (b : Nat) (hb : b ≤ cs.length) :
    (endT cs b (cs.length - b) = cs.length ∧ ∀ xs c ys, cs.drop b = xs ++ c :: ys → c.b = [46] → ∀ x ∈ xs, x.b = [46]) ∨
    ∃ d rest, cs.drop b = (cs.drop b).take (endT cs b (cs.length - b) - b) ++ d :: rest ∧ d.b = [46] ∧ (∃ x ∈ (cs.drop b).take (endT cs b (cs.length - b) - b), x.b ≠ [46]) ∧ (∀ c ∈ rest, c.b ≠ [46]) ∧ b ≤ endT cs b (cs.length - b) ∧ endT cs b (cs.length - b) < cs.length ∧ cs[endT cs b (cs.length - b)]? = some d := by
  rcases endT_is cs b (cs.length - b) with ⟨h1, h2⟩ | ⟨h1, h2, h3, h4⟩
  · refine .inl ⟨h1, fun xs c ys e hc x hx => ?_⟩
    have hl : (cs.drop b).length = xs.length + 1 + ys.length := by rw [e]; simp; omega
    rw [List.length_drop] at hl
    have hd := h2 (b + xs.length) (by omega) (by omega)
    have hg : cs[b + xs.length]? = some c := by
      rw [← List.getElem?_drop, e, List.getElem?_append_right (Nat.le_refl _), Nat.sub_self]; rfl
    unfold dotAt at hd
    rw [hg, Option.map_some, hc, Nat.add_sub_cancel_left, e, List.take_left] at hd
    simp only [beq_self_eq_true, Bool.true_and, List.any_eq_false, bne_iff_ne, ne_eq, Decidable.not_not] at hd
    exact hd x hx
  · generalize endT cs b (cs.length - b) = e at h1 h2 h3 h4 ⊢
    have he : e < cs.length := by omega
    have h3' := h3
    unfold dotAt at h3'
    rw [Bool.and_eq_true, List.any_eq_true, List.getElem?_eq_getElem he] at h3'
    obtain ⟨hd, x, hx, hq⟩ := h3'
    rw [Option.map_some, beq_iff_eq, Option.some.injEq] at hd
    refine .inr ⟨cs[e], cs.drop (e + 1), ?_, hd, ⟨x, hx, by simpa using hq⟩, ?_, h1, he, List.getElem?_eq_getElem he⟩
    · have e1 : cs.drop b = (cs.drop b).take (e - b) ++ (cs.drop b).drop (e - b) := (List.take_append_drop _ _).symm
      conv => lhs; rw [e1]
      rw [List.drop_drop, show b + (e - b) = e by omega, List.drop_eq_getElem_cons he]
    · intro c hc hb46
      obtain ⟨i, hi, rfl⟩ := List.getElem_of_mem hc
      have hi' : e + 1 + i < cs.length := by rw [List.length_drop] at hi; omega
      rw [List.getElem_drop] at hb46
      have := dot_mono (p' := e + 1 + i) h3 (by omega) (by rw [List.getElem?_eq_getElem hi', Option.map_some, hb46])
      rw [h4 (e + 1 + i) (by omega) (by omega)] at this
      cases this
end Mine
end PartE5
theorem Mine.flushE6 : True := by
  w_top off
  trivial
section PartE6
open PySem PySem.W PyProof.Rows PySem.Calls
set_option Elab.async false
namespace Mine
theorem S_length (x : List Nat) : (S x).length = x.length := by show (S x).cps.size = _; simp [S]
theorem at_one {x : List Nat} {c i : Nat} : StrLaws.At (S x) (S [c]) (S x).length i ↔ x[i]? = some c := by
  have := StrLaws.subAt_one (S x) c i
  rw [show (S x).cps.toList = x by simp [S]] at this
  exact this
theorem rfind_last {p r : List Nat} {c : Nat} (h : c ∉ r) : Txt.rfind (S (p ++ c :: r)) (S [c]) = (p.length : Int) := by
  rcases rfind_whole (S (p ++ c :: r)) (S [c]) with ⟨_, h2⟩ | ⟨i, h1, h2, h3⟩
  · exact absurd (at_one.mpr (by simp)) (h2 p.length)
  · rw [h1]
    rw [at_one] at h2
    have hle : p.length ≤ i := by
      rcases Nat.lt_or_ge i p.length with hl | hg
      · exact absurd (at_one.mpr (by simp)) (h3 p.length hl)
      · exact hg
    rcases Nat.lt_or_ge p.length i with hl | hg
    · rw [List.getElem?_append_right (by omega)] at h2
      obtain ⟨j, hj⟩ : ∃ j, i - p.length = j + 1 := ⟨i - p.length - 1, by omega⟩
      rw [hj, List.getElem?_cons_succ] at h2
      exact absurd (List.mem_of_getElem? h2) h
    · omega
theorem rfind_none {x : List Nat} {c : Nat} (h : c ∉ x) : Txt.rfind (S x) (S [c]) = -1 := by
  rcases rfind_whole (S x) (S [c]) with ⟨h1, _⟩ | ⟨i, _, h2, _⟩
  · exact h1
  · exact absurd (List.mem_of_getElem? (at_one.mp h2)) h
theorem slice_fromS {x : List Nat} {n : Nat} (h : n ≤ x.length) : Txt.slice (S x) (some (n : Int)) none = S (x.drop n) := by
  rw [slice_from_eq (b := (x.length : Int)) (by omega) (by rw [S_length]; omega) (by rw [S_length])]
  show Str.mk _ = Str.mk _
  congr 1
  have e : (S x).cps.toList = x := by simp [S]
  rw [e, Int.toNat_natCast, List.take_of_length_le (by rw [List.length_drop]; omega)]
theorem slice_toS {x : List Nat} {n : Nat} (h : n ≤ x.length) : Txt.slice (S x) none (some (n : Int)) = S (x.take n) := by
  rw [beq_iff_eq.mp (slice_closes_to (x := S x) (j := (n : Int)) ⟨by omega, by simp [S]; omega⟩)]
  show Str.mk _ = Str.mk _
  congr 2
end Mine
end PartE6
theorem Mine.flushE7 : True := by
  w_top off
  trivial
section PartE7
open PySem PySem.W PyProof.Rows PySem.Calls
set_option Elab.async false
namespace Mine
/-- a dot or a slash of the text is a cell by itself -/
noncomputable def GoodC (c : Cell) : Prop := c.a ≠ [] ∧ ∀ x, x = 46 ∨ x = 47 → (x ∈ c.a → c.b = [x]) ∧ (c.b = [x] → c.a = [x])
theorem good_one (y : Nat) (k : Int) (q : Bool) : GoodC ⟨[y], [y], k, q⟩ := ⟨by simp, fun x _ => ⟨fun h => by rw [List.mem_singleton.mp h], fun h => h⟩⟩
theorem Step.good {s s' : St} {c : Cell} (h : Step s c s') : GoodC c := by
  cases h with
  | blank => exact ⟨by simp [blankC], fun x hx => ⟨fun h => by simp [blankC] at h; omega, fun h => by simp [blankC] at h⟩⟩
  | bare k c _ => exact good_one c _ _
  | opens k => exact ⟨by simp [markC], fun x hx => ⟨fun h => by simp [markC] at h; omega, fun h => by simp [markC] at h⟩⟩
  | sign k c =>
    by_cases e : c = 39
    · subst e
      exact ⟨by simp [quotC], fun x hx => ⟨fun h => by simp [quotC] at h; omega, fun h => by simp [quotC] at h; omega⟩⟩
    · have : quotC (k : Int) c = ⟨[c], [c], k, true⟩ := by simp [quotC, e]
      rw [this]
      exact good_one c _ _
  | shuts k => exact ⟨by simp [markC], fun x hx => ⟨fun h => by simp [markC] at h; omega, fun h => by simp [markC] at h⟩⟩
theorem Run.good {s s' : St} {cs : List Cell} (h : Run s cs s') : ∀ c ∈ cs, GoodC c := by
  induction h with
  | nil => intro c hc; cases hc
  | cons a _ ih =>
    intro c hc
    rcases List.mem_cons.mp hc with rfl | hc
    · exact a.good
    · exact ih c hc
theorem flat_free {cs : List Cell} {x : Nat} (hx : x = 46 ∨ x = 47) (hg : ∀ c ∈ cs, GoodC c) (h : ∀ c ∈ cs, c.b ≠ [x]) : x ∉ flatA cs := by
  intro hm
  obtain ⟨c, hc, hxc⟩ := List.mem_flatMap.mp hm
  exact h c hc (((hg c hc).2 x hx).1 hxc)
theorem flatA_append (xs ys : List Cell) : flatA (xs ++ ys) = flatA xs ++ flatA ys := List.flatMap_append ..
theorem flatA_cons (c : Cell) (cs : List Cell) : flatA (c :: cs) = c.a ++ flatA cs := List.flatMap_cons ..
/-- the base name -/
theorem base_is {cs : List Cell} (hg : ∀ c ∈ cs, GoodC c) : Txt.slice (S (flatA cs)) (some (Txt.rfind (S (flatA cs)) (Str.ofString "/") + 1)) none = S (flatA (cs.drop (begT cs cs.length))) := by
  have hpost : 47 ∉ flatA (cs.drop (begT cs cs.length)) := flat_free (.inr rfl) (fun c hc => hg c (List.mem_of_mem_drop hc)) (post_noslash cs)
  have hsplit : flatA cs = flatA (cs.take (begT cs cs.length)) ++ flatA (cs.drop (begT cs cs.length)) := by rw [← flatA_append, List.take_append_drop]
  rw [S47]
  rcases pre_slash cs with ⟨h1, h2⟩ | ⟨xs, s, h1, h2, _, h4⟩
  · rw [h1] at hsplit
    have e : flatA cs = flatA (cs.drop (begT cs cs.length)) := hsplit
    rw [← e] at hpost ⊢
    rw [rfind_none hpost]
    exact slice_fromS (n := 0) (Nat.zero_le _)
  · have hs : s.a = [47] := ((hg s (List.mem_of_getElem? h4)).2 47 (.inr rfl)).2 h2
    have e : flatA cs = flatA xs ++ 47 :: flatA (cs.drop (begT cs cs.length)) := by
      conv => lhs; rw [hsplit, h1, flatA_append]
      simp [flatA, hs]
    conv => lhs; rw [e]
    rw [rfind_last hpost]
    have := slice_fromS (x := flatA xs ++ 47 :: flatA (cs.drop (begT cs cs.length))) (n := (flatA xs).length + 1) (by simp)
    rw [show (((flatA xs).length + 1 : Nat) : Int) = ((flatA xs).length : Int) + 1 by omega] at this
    rw [this]
    simp
end Mine
end PartE7
theorem Mine.flushE8 : True := by
  w_top off
  trivial
section PartE8
open PySem PySem.W PyProof.Rows PySem.Calls
set_option Elab.async false
namespace Mine
theorem dots_ahead : ∀ (post : List Cell), (∀ c ∈ post, GoodC c) → (∀ xs c ys, post = xs ++ c :: ys → c.b = [46] → ∀ x ∈ xs, x.b = [46]) → ∀ p1 p2, flatA post = p1 ++ 46 :: p2 → ∀ y ∈ p1, y = 46
  | [], _, _, p1, p2, e => by have := congrArg List.length e; simp [flatA] at this
  | c :: post, hg, hn, p1, p2, e => by
    by_cases hb : c.b = [46]
    · have ha : c.a = [46] := ((hg c List.mem_cons_self).2 46 (.inl rfl)).2 hb
      rw [flatA_cons, ha] at e
      cases p1 with
      | nil => intro y hy; cases hy
      | cons z p1 =>
        rw [List.singleton_append, List.cons_append, List.cons.injEq] at e
        intro y hy
        rcases List.mem_cons.mp hy with rfl | hy
        · exact e.1.symm
        · exact dots_ahead post (fun d hd => hg d (List.mem_cons_of_mem _ hd)) (fun xs d ys q hd x hx => hn (c :: xs) d ys (by rw [q]; rfl) hd x (List.mem_cons_of_mem _ hx)) p1 p2 e.2 y hy
    · have : 46 ∉ flatA (c :: post) := flat_free (.inl rfl) hg fun d hd hdb => by
        rcases List.mem_cons.mp hd with rfl | hd
        · exact hb hdb
        · obtain ⟨xs, ys, q⟩ := List.append_of_mem hd
          exact hb (hn (c :: xs) d ys (by rw [q]; rfl) hdb c List.mem_cons_self)
      exact absurd (by rw [e]; simp) this
theorem S_toList (x : List Nat) : (S x).cps.toList = x := by simp [S]
theorem slice_oneS {p : List Nat} {n y : Nat} (h : p[n]? = some y) : Txt.slice (S p) (some (n : Int)) (some ((n : Int) + 1)) = chS y := by
  obtain ⟨hn, rfl⟩ := List.getElem?_eq_some_iff.mp h
  exact slice_ch (cs := p.drop (n + 1)) (by rw [S_toList]; exact List.drop_eq_getElem_cons hn)
theorem ch_dot (y : Nat) : (chS y != Str.ofString ".") = (y != 46) := by
  rw [S_ch, Sne_dot, Bool.eq_iff_iff]; simp
theorem root_hit {mid rest : List Cell} {d : Cell} (hg : ∀ c ∈ mid ++ d :: rest, GoodC c) (hs : 47 ∉ flatA (mid ++ d :: rest)) (hd : d.b = [46]) (hx : ∃ x ∈ mid, x.b ≠ [46]) (hr : ∀ c ∈ rest, c.b ≠ [46]) : rootOf (S (flatA (mid ++ d :: rest))) = S (flatA mid) := by
  have ha : d.a = [46] := ((hg d (by simp)).2 46 (.inl rfl)).2 hd
  have e : flatA (mid ++ d :: rest) = flatA mid ++ 46 :: flatA rest := by rw [flatA_append, flatA_cons, ha]; rfl
  have h46 : 46 ∉ flatA rest := flat_free (.inl rfl) (fun c hc => hg c (by simp [hc])) hr
  rw [e] at hs ⊢
  obtain ⟨x, hxm, hxb⟩ := hx
  have gx := hg x (by simp [hxm])
  obtain ⟨y, hy⟩ := List.exists_mem_of_ne_nil _ gx.1
  have hy46 : y ≠ 46 := fun q => hxb ((gx.2 46 (.inl rfl)).1 (q ▸ hy))
  obtain ⟨n, hn⟩ := List.getElem?_of_mem (List.mem_flatMap.mpr ⟨x, hxm, hy⟩ : y ∈ flatA mid)
  have hlt : n < (flatA mid).length := (List.getElem?_eq_some_iff.mp hn).1
  have h1 : Txt.rfind (S (flatA mid ++ 46 :: flatA rest)) (Str.ofString "/") = -1 := by rw [S47, rfind_none hs]
  have h2 : Txt.rfind (S (flatA mid ++ 46 :: flatA rest)) (Str.ofString ".") = ((flatA mid).length : Int) := by rw [S46, rfind_last h46]
  unfold rootOf
  rw [if_pos, h2, slice_toS (by simp)]
  · simp
  · refine ⟨(n : Int), by omega, by rw [h1, h2]; omega, ?_⟩
    rw [h1, show (-1 : Int) + 1 + 1 * (n : Int) = (n : Int) by omega, slice_oneS (y := y) (by rw [List.getElem?_append_left hlt]; exact hn), ch_dot]
    simpa using hy46
theorem root_none {post : List Cell} (hg : ∀ c ∈ post, GoodC c) (hs : 47 ∉ flatA post) (hn : ∀ xs c ys, post = xs ++ c :: ys → c.b = [46] → ∀ x ∈ xs, x.b = [46]) : rootOf (S (flatA post)) = S (flatA post) := by
  have h1 : Txt.rfind (S (flatA post)) (Str.ofString "/") = -1 := by rw [S47, rfind_none hs]
  unfold rootOf
  rw [if_neg]
  rintro ⟨n, h0, hlt, hne⟩
  rw [h1] at hlt hne
  rw [S46] at hlt
  rcases rfind_whole (S (flatA post)) (S [46]) with ⟨q, _⟩ | ⟨i, q, hat, _⟩
  · omega
  · rw [q] at hlt
    have hi := at_one.mp hat
    obtain ⟨hil, hie⟩ := List.getElem?_eq_some_iff.mp hi
    have hsp : flatA post = (flatA post).take i ++ 46 :: (flatA post).drop (i + 1) := by
      conv => lhs; rw [← List.take_append_drop i (flatA post), List.drop_eq_getElem_cons hil, hie]
    obtain ⟨k, rfl⟩ : ∃ k : Nat, n = (k : Int) := ⟨n.toNat, by omega⟩
    have hk : k < i := by omega
    have hk2 : (flatA post)[k]? = some 46 := by
      have hkl : k < (flatA post).length := by omega
      rw [List.getElem?_eq_getElem hkl]
      congr 1
      refine dots_ahead post hg hn _ _ hsp _ ?_
      rw [List.mem_take_iff_getElem]
      exact ⟨k, by omega, rfl⟩
    rw [show (-1 : Int) + 1 + 1 * (k : Int) = (k : Int) by omega, slice_oneS hk2, ch_dot] at hne
    simp at hne
end Mine
end PartE8
theorem Mine.flushE9 : True := by
  w_top off
  trivial
section PartE9
open PySem PySem.W PyProof.Rows PySem.Calls
set_option Elab.async false
namespace Mine
noncomputable abbrev begC (cs : List Cell) : Nat := begT cs cs.length
noncomputable abbrev endC (cs : List Cell) : Nat := endT cs (begC cs) (cs.length - begC cs)
noncomputable abbrev keptC (cs : List Cell) : List Cell := (cs.drop (begC cs)).take (endC cs - begC cs)
theorem root_kept {cs : List Cell} (hg : ∀ c ∈ cs, GoodC c) : rootOf (S (flatA (cs.drop (begC cs)))) = S (flatA (keptC cs)) := by
  have hgd : ∀ c ∈ cs.drop (begC cs), GoodC c := fun c hc => hg c (List.mem_of_mem_drop hc)
  have hs : 47 ∉ flatA (cs.drop (begC cs)) := flat_free (.inr rfl) hgd (post_noslash cs)
  rcases kept_is cs (begC cs) (begT_le cs cs.length) with ⟨h1, h2⟩ | ⟨d, rest, h1, h2, h3, h4, _⟩
  · have e : keptC cs = cs.drop (begC cs) := List.take_of_length_le (by rw [List.length_drop]; show _ ≤ endC cs - begC cs; rw [show endC cs = cs.length from h1]; exact Nat.le_refl _)
    rw [e]
    exact root_none hgd hs h2
  · have h1' : cs.drop (begC cs) = keptC cs ++ d :: rest := h1
    rw [h1'] at hgd hs ⊢
    exact root_hit hgd hs h2 h3 h4
theorem name_is {cs : List Cell} (hg : ∀ c ∈ cs, GoodC c) : rootOf (Txt.slice (S (flatA cs)) (some (Txt.rfind (S (flatA cs)) (Str.ofString "/") + 1)) none) = S (flatA (keptC cs)) := by
  rw [base_is hg]
  exact root_kept hg
theorem safe_eq (c : Nat) : safeC c = safeN c := by
  by_cases h : c < 128
  · revert h
    revert c
    decide +kernel
  · have h1 : safeC c = false := by
      unfold safeC Sre.isWord Sre.isDigit
      have : ∀ k, k < 128 → (c == k) = false := fun k hk => beq_eq_false_iff_ne.mpr (by omega)
      have hle : ∀ a b, b < 128 → (decide (a ≤ c) && decide (c ≤ b)) = false := fun a b hb => by
        rw [Bool.and_eq_false_iff]; right; rw [decide_eq_false_iff_not]; omega
      simp only [hle _ _ (show 57 < 128 by omega), hle _ _ (show 90 < 128 by omega), hle _ _ (show 122 < 128 by omega), this 95 (by omega), this 37 (by omega), this 43 (by omega), this 44 (by omega), this 45 (by omega), this 46 (by omega), this 47 (by omega), this 58 (by omega), this 61 (by omega), this 64 (by omega), Bool.or_false]
    have h2 : safeN c = false := by
      have hm : ∀ c ∈ (Str.ofString "abcdefghijklmnopqrstuvwxyzABCDEFGHIJKLMNOPQRSTUVWXYZ0123456789_@%+=:,./-").cps.toList, c < 128 := by decide +kernel
      cases e : safeN c with
      | false => rfl
      | true => exact absurd (hm c (List.contains_iff_mem.mp e)) h
    rw [h1, h2]
theorem flat_item (k : Nat) (w : List Nat) : flatA (itemCells k (markedW w) w) = quoteL w := by
  have hall : w.all safeC = w.all safeN := by congr 1; funext c; exact safe_eq c
  unfold quoteL
  by_cases h : w = []
  · subst h; rfl
  · rw [if_neg h, hall]
    have hne : w.isEmpty = false := by cases w with | nil => exact absurd rfl h | cons => rfl
    unfold markedW itemCells
    rw [hne]
    cases hq : w.all safeN with
    | true =>
      simp only [Bool.not_false, Bool.true_and, Bool.not_true, Bool.false_eq_true, if_false, if_true]
      unfold flatA
      rw [List.flatMap_map]
      show List.flatMap (fun c => [c]) w = w
      simp
    | false =>
      simp only [Bool.not_false, Bool.true_and, Bool.false_eq_true, if_false, if_true]
      rw [flatA_cons, flatA_append]
      unfold flatA
      rw [List.flatMap_map]
      show [39] ++ (List.flatMap (fun c => if c = 39 then [39, 34, 39, 34, 39] else [c]) w ++ [39]) = _
      simp [rep]
theorem flat_from : ∀ (ws : List Str) (k : Nat) (y : Str), flatA (cellsFrom (k + 1) (wl (y :: ws))) = 32 :: (Str.join (Str.ofString " ") ((y :: ws).map quoteS)).cps.toList
  | [], k, y => by
    show flatA ([blankC] ++ itemCells _ (markedW y.cps.toList) y.cps.toList ++ []) = _
    rw [List.append_nil, flatA_append, flat_item]
    rfl
  | z :: ws, k, y => by
    have h := flat_from ws (k + 1) z
    show flatA ([blankC] ++ itemCells _ (markedW y.cps.toList) y.cps.toList ++ cellsFrom (k + 1 + 1) (wl (z :: ws))) = _
    rw [flatA_append, flatA_append, flat_item, h]
    show 32 :: quoteL y.cps.toList ++ _ = 32 :: (quoteS y ++ Str.ofString " " ++ Str.join (Str.ofString " ") ((z :: ws).map quoteS)).cps.toList
    rw [Str.cps_append, Str.cps_append, Array.toList_append, Array.toList_append]
    have e1 : (quoteS y).cps.toList = quoteL y.cps.toList := rfl
    have e2 : (Str.ofString " ").cps.toList = [32] := by decide +kernel
    rw [e1, e2]
    simp
theorem S_of_toList (x : Str) : S x.cps.toList = x := rfl
theorem line_is (ws : List Str) : S (flatA (cellsFrom 0 (wl ws))) = Str.join (Str.ofString " ") (ws.map quoteS) := by
  cases ws with
  | nil => rfl
  | cons y ws =>
    cases ws with
    | nil =>
      show S (flatA ([] ++ itemCells _ (markedW y.cps.toList) y.cps.toList ++ [])) = quoteS y
      rw [List.nil_append, List.append_nil, flat_item]
      rfl
    | cons z ws =>
      show S (flatA ([] ++ itemCells _ (markedW y.cps.toList) y.cps.toList ++ cellsFrom (0 + 1) (wl (z :: ws)))) = quoteS y ++ Str.ofString " " ++ Str.join (Str.ofString " ") ((z :: ws).map quoteS)
      rw [List.nil_append, flatA_append, flat_item, flat_from]
      have e : (quoteS y ++ Str.ofString " " ++ Str.join (Str.ofString " ") ((z :: ws).map quoteS)).cps.toList = quoteL y.cps.toList ++ 32 :: (Str.join (Str.ofString " ") ((z :: ws).map quoteS)).cps.toList := by
        rw [Str.cps_append, Str.cps_append, Array.toList_append, Array.toList_append]
        have e1 : (quoteS y).cps.toList = quoteL y.cps.toList := rfl
        have e2 : (Str.ofString " ").cps.toList = [32] := by decide +kernel
        rw [e1, e2]
        simp
      rw [← e]
      rfl
/-- the marks that the law puts back -/
noncomputable def aheadB (cs : List Cell) : Bool := decide (0 < begC cs) && ((cs[begC cs - 1]?).map (·.q)).getD false
noncomputable def behindB (cs : List Cell) : Bool := decide (endC cs < cs.length) && ((cs[endC cs]?).map (·.q)).getD false
noncomputable def markB (b : Bool) : List Nat := if b then [39] else []
theorem flat_ahead (s : St) : flatA (aheadC s) = markB s.isQ := by
  unfold aheadC markB
  cases s.isQ <;> rfl
theorem run_nil {s s' : St} (h : Run s [] s') : s' = s := by cases h; rfl
theorem plain_two {cs : List Cell} {nw : Nat} (h : Run (.out 0) cs (.out nw)) :
    ∃ s s', Run s (keptC cs) s' ∧ s'.k ≤ nw ∧ s.isQ = aheadB cs ∧ s'.isQ = behindB cs ∧ (s.isQ = true ∨ s'.isQ = true → keptC cs ≠ []) := by
  have hsplit : cs = cs.take (begC cs) ++ cs.drop (begC cs) := (List.take_append_drop _ _).symm
  obtain ⟨s, h1, h2⟩ : ∃ s, Run (.out 0) (cs.take (begC cs)) s ∧ Run s (cs.drop (begC cs)) (.out nw) := (hsplit ▸ h : Run (.out 0) (cs.take (begC cs) ++ cs.drop (begC cs)) (.out nw)).split
  have hq : s.isQ = aheadB cs := by
    unfold aheadB
    rcases pre_slash cs with ⟨e1, e2⟩ | ⟨xs, c, e1, e2, e3, e4⟩
    · rw [e1] at h1
      rw [run_nil h1, show begC cs = 0 from e2]
      rfl
    · rw [e1] at h1
      obtain ⟨s1, _, r2⟩ := h1.split
      obtain ⟨q1, q2, _⟩ := r2.one.sign_of e2
      rw [q1, ← q2, e4]
      have : decide (0 < begC cs) = true := decide_eq_true e3
      rw [this]
      rfl
  rcases kept_is cs (begC cs) (begT_le cs cs.length) with ⟨e1, e2⟩ | ⟨d, rest, e1, e2, e3, e4, e5, e6, e7⟩
  · have e : keptC cs = cs.drop (begC cs) := List.take_of_length_le (by rw [List.length_drop]; show _ ≤ endC cs - begC cs; rw [show endC cs = cs.length from e1]; exact Nat.le_refl _)
    refine ⟨s, .out nw, e ▸ h2, Nat.le_refl _, hq, ?_, ?_⟩
    · unfold behindB
      rw [show endC cs = cs.length from e1, decide_eq_false (Nat.lt_irrefl _)]
      rfl
    · rintro (hs | hs) hk
      · rw [← e, hk] at h2
        have := run_nil h2
        rw [← this] at hs
        cases hs
      · cases hs
  · have e1' : cs.drop (begC cs) = keptC cs ++ d :: rest := e1
    rw [e1'] at h2
    obtain ⟨s', h3, h4⟩ := h2.split
    obtain ⟨s2, a, r⟩ := h4.head
    obtain ⟨q1, q2, _⟩ := a.sign_of e2
    refine ⟨s, s', h3, h4.mono, hq, ?_, fun _ hk => ?_⟩
    · unfold behindB
      rw [decide_eq_true (show endC cs < cs.length from e6), show cs[endC cs]? = some d from e7, ← q2]
      rfl
    · obtain ⟨x, hx, _⟩ := e3
      have hx' : x ∈ keptC cs := hx
      rw [hk] at hx'
      cases hx'
/-- the plain law -/
structure Plain (cs : List Cell) (nw : Nat) : Prop where
  ok3 : lexOk (markB (aheadB cs) ++ (flatA (keptC cs) ++ markB (behindB cs))) .sp = true
  tk3 : Toks (markB (aheadB cs) ++ (flatA (keptC cs) ++ markB (behindB cs))) .sp (some ((dueR (keptC cs) (List.range nw)).map S))
  ok4 : aheadB cs = false → lexOk (flatA (keptC cs)) .sp = true
  tk4 : aheadB cs = false → behindB cs = true → Toks (flatA (keptC cs)) .sp none
theorem toks_run {k : Nat} {s' : St} {cs : List Cell} (h : Run (.out k) cs s') : Toks (flatA cs) .sp (if s'.isQ then none else some ((toks [] false cs).map S)) := by
  have := tok_run h [] false false ⟨rfl, rfl⟩
  rw [← S_nil] at this
  exact ToksG.toks this
theorem plain_run {cs : List Cell} {n : Nat} (h : Run (.out 0) cs (.out n)) : Plain cs (n + 1) := by
  obtain ⟨s, s', r, hk, q1, q2, hne⟩ := plain_two h
  obtain ⟨r3, d3⟩ := due_kept r (Nat.lt_succ_of_le hk) hne
  have ef : flatA (aheadC s ++ (keptC cs ++ aheadC s')) = markB (aheadB cs) ++ (flatA (keptC cs) ++ markB (behindB cs)) := by
    rw [flatA_append, flatA_append, flat_ahead, flat_ahead, q1, q2]
  have l3 := lex_run r3 false
  have t3 := toks_run r3
  rw [ef] at l3 t3
  rw [← d3] at t3
  refine ⟨l3, t3, fun ha => ?_, fun ha hb => ?_⟩
  · rw [← q1] at ha
    cases s with
    | out k => exact lex_run r false
    | inq k => cases ha
  · rw [← q1] at ha
    rw [← q2] at hb
    cases s with
    | out k =>
      have := toks_run r
      rw [hb] at this
      exact this
    | inq k => cases ha
theorem plain_law (ws : List Str) : Plain (cellsFrom 0 (wl ws)) ws.length := by
  cases ws with
  | nil =>
    refine ⟨rfl, ?_, fun _ => rfl, fun _ hb => ?_⟩
    · exact .stop (cs' := []) (ls' := .no) (by show some (LS.no, [], finT (Str.ofString "") false) = _; rw [S_nil, fin_none])
    · cases hb
  | cons y ws =>
    have := run_cells y.cps.toList (wl ws)
    rw [List.length_map] at this
    exact plain_run this
theorem good_cells (ws : List Str) : ∀ c ∈ cellsFrom 0 (wl ws), GoodC c := by
  cases ws with
  | nil => intro c hc; cases hc
  | cons y ws => exact (run_cells y.cps.toList (wl ws)).good
end Mine
end PartE9
theorem Mine.flushE10 : True := by
  w_top off
  trivial
section PartE10
open PySem PySem.W PyProof.Rows PySem.Calls
set_option Elab.async false
namespace Mine
theorem Step.alen {s s' : St} {c : Cell} (h : Step s c s') : c.a.length ≤ 5 := by
  cases h with
  | sign k c =>
    show (if c = 39 then [39, 34, 39, 34, 39] else [c]).length ≤ 5
    split <;> simp
  | _ => show _ ≤ 5; simp [blankC, bareC, markC]
theorem Run.alen {s s' : St} {cs : List Cell} (h : Run s cs s') : (flatA cs).length ≤ 5 * cs.length := by
  induction h with
  | nil => exact Nat.le_refl _
  | cons a _ ih =>
    have := a.alen
    rw [flatA_cons, List.length_append, List.length_cons]
    omega
noncomputable abbrev CS (ws : List Str) : List Cell := cellsFrom 0 (wl ws)
theorem cs_len {ws : List Str} (hw : ∀ y ∈ ws, y.length ≤ 4) (h3 : ws.length ≤ 3) : (CS ws).length ≤ 21 := by
  have := cellsFrom_len 0 (wl ws) (fun w hw' => by
    obtain ⟨y, hy, rfl⟩ := List.mem_map.mp hw'
    rw [Array.length_toList]
    exact hw y hy)
  rw [List.length_map] at this
  exact Nat.le_trans this (by omega)
theorem cs_flat {ws : List Str} (hw : ∀ y ∈ ws, y.length ≤ 4) (h3 : ws.length ≤ 3) : (flatA (CS ws)).length ≤ 105 := by
  have h1 := cs_len hw h3
  cases ws with
  | nil => exact Nat.zero_le _
  | cons y ws =>
    have := (run_cells y.cps.toList (wl ws)).alen
    have h2 : (flatA (CS (y :: ws))).length ≤ 5 * (CS (y :: ws)).length := this
    omega
theorem flat_take (cs : List Cell) : ∀ n, (flatA (cs.take n)).length ≤ (flatA cs).length := by
  intro n
  conv => rhs; rw [← List.take_append_drop n cs]
  rw [flatA_append, List.length_append]
  omega
theorem flat_drop (cs : List Cell) : ∀ n, (flatA (cs.drop n)).length ≤ (flatA cs).length := by
  intro n
  conv => rhs; rw [← List.take_append_drop n cs]
  rw [flatA_append, List.length_append]
  omega
theorem kept_flat {ws : List Str} (hw : ∀ y ∈ ws, y.length ≤ 4) (h3 : ws.length ≤ 3) : (flatA (keptC (CS ws))).length ≤ 105 :=
  Nat.le_trans (flat_take _ _) (Nat.le_trans (flat_drop _ _) (cs_flat hw h3))
theorem bounds_le (cs : List Cell) : begC cs ≤ endC cs ∧ endC cs ≤ cs.length := by
  have hb := begT_le cs cs.length
  rcases kept_is cs (begC cs) hb with ⟨h1, _⟩ | ⟨d, rest, _, _, _, _, h5, h6, _⟩
  · rw [show endC cs = cs.length from h1]
    exact ⟨hb, Nat.le_refl _⟩
  · exact ⟨h5, Nat.le_of_lt h6⟩
theorem line_isT (ws : List Str) : Txt.join (Str.ofString " ") (ws.map quoteS) = S (flatA (CS ws)) := by
  rw [line_is]
  exact StrLaws.glued_eq_join _ _
theorem name_isT (ws : List Str) : rootOf (Txt.slice (S (flatA (CS ws))) (some (Txt.rfind (S (flatA (CS ws))) (Str.ofString "/") + 1)) none) = S (flatA (keptC (CS ws))) := name_is (good_cells ws)
end Mine
end PartE10
theorem Mine.flushF0 : True := by
  w_top off
  trivial
section PartF0
open PySem PySem.W PyProof.Rows PySem.Calls
set_option Elab.async false
namespace Mine
/-- the post of the law with the table of join aside -/
noncomputable def LawPost (s₁ : Shared) (r : Result) (s' : Shared) : Prop :=
  r = .ok (.ret (.bool true)) ∧ (∀ b o, (ghostOf s₁.heap [(771, 767)]).get? b = some o → s'.heap.get? b = some o) ∧ s'.os = s₁.os ∧ AllBare s'.gens ∧ GrownAt 767 s'.heap
theorem post_law {M : Model} {A : Around} {cd : Code} {s s₁ : Shared} {cl : Str → Option Addr} {mean : ExcName → Option Value} {ns : List Int} (hT : TabsAt [(771, 767)] s₁.heap)
    (h : codeAny M A cd (LawPost s₁) s) : codeAny M A cd (GoodWG PySem.Challenge.rw_nq0205_01.row.toRowW.claim cl mean [ofPy (PyData.list (ns.map PyData.int))] s₁) s :=
  codeAny_mono h fun r s' ⟨hr, hk, hos, hg, hgr⟩ => by
    have keep : ∀ b o, b ≠ 767 → s₁.heap.get? b = some o → s'.heap.get? b = some o := fun b o hb e => hk b o (ghost_ne e (by simpa using hb))
    have grown : ∀ o, s₁.heap.get? 767 = some o → isCodeTable s₁.heap 767 ∧ o = tabObj #[] ∧ ∃ ps, s'.heap.get? 767 = some (tabObj ps) := fun o e => by
      have e2 := (hT (771, 767) (.head _)).2
      have e3 : some o = some (tabObj #[]) := e.symm.trans e2
      exact ⟨((hT (771, 767) (.head _)).1.tab e2).isCodeTable, Option.some.inj e3, hgr⟩
    refine ⟨.inl ⟨.bool true, .bool true, [], hr, fun _ => rfl, ?_, ?_, fun _ => ⟨List.nodup_nil, fun a ha => nomatch ha⟩⟩, ⟨fun b o e => ?_, fun b o e => ?_⟩, hos, hg⟩
    · exact .bool true
    · exact postW_of (by wrow_shape) (by wtm_val) (by str_meet; first | done | w_fin)
    · by_cases hb : b = 767
      · subst hb
        obtain ⟨ht, rfl, ps, hP⟩ := grown o e
        exact .inr (.inl ⟨ht, rfl, #[], ps, rfl, by rw [Array.empty_append]; exact hP⟩)
      · exact .inl (keep b o hb e)
    · by_cases hb : b = 767
      · subst hb
        obtain ⟨_, _, ps, hP⟩ := grown o e
        exact ⟨_, hP⟩
      · exact ⟨o, keep b o hb e⟩
theorem hd771 {w : World} {h : Heap} (X : (KF w.params).In h) : CodeHd h 771 767 := by
  revert X; k_fill; intro X
  exact codeHd_of_K X (by kernel_rfl)
theorem X0_of {w : World} {h : Heap} (X2 : (KF2 w.params).In h) : (KF w.params).In h := fun b o e => by
  by_cases h1 : b = 767
  · subst h1
    have : (KF w.params).lookup 767 = none := by kernel_rfl
    rw [this] at e; cases e
  · by_cases h2 : b = 4
    · subst h2
      have : (KF w.params).lookup 4 = none := by kernel_rfl
      rw [this] at e; cases e
    · refine X2 b o ?_
      show List.lookup b ((767, tabO #[]) :: (4, modO) :: KF w.params) = some o
      rw [List.lookup_cons, List.lookup_cons, beq_eq_false_iff_ne.mpr h1, beq_eq_false_iff_ne.mpr h2]
      exact e
theorem at767 {w : World} {h : Heap} (X2 : (KF2 w.params).In h) : h.get? 767 = some (tabObj #[]) := X2 767 _ rfl
theorem at4 {w : World} {h : Heap} (X2 : (KF2 w.params).In h) : h.get? 4 = some modO := X2 4 _ rfl
end Mine
end PartF0
theorem Mine.flushF3 : True := by
  w_top off
  trivial
section PartF3
open PySem PySem.W PyProof.Rows PySem.Calls
set_option Elab.async false
namespace Mine
section
variable {prog : Program} {w : World} {A : Around} {E : Value → Shared → Prop} {s : Shared} {h₀ : Heap} {L : Addr} {m : Str → Option Value} {env : Env}
/-- a comprehension over a range; the ledger stays -/
theorem srcR_keep {elt : Expr} {x : Str} {scope : Scope} {cl : List (Str × Addr)} {Fin : Shared → List Value → List (Addr × Obj) → Prop} {r : Addr} {a b : Int} {t u v : Tok} {n : Nat} {news : List (Addr × Obj)} (J : Nat → List Value → Prop)
    (hh : A.handled = none) (F : Fr h₀ L s.heap m) (N : News h₀ L s.heap news) (hr : IsRange s.heap r a b 1 t u v) (hsm : Builtin.Range.small a b 1 = true) (hn : Builtin.Range.rangeSize a b 1 = ((n : Nat) : Int)) (hsz : n ≤ sizeLine) (h0 : J 0 [])
    (step : ∀ i t ys I oI C oC D m₂ h tk (E' : Value → Shared → Prop), i < n → J i ys → LCg.NsObj oC m₂ → m₂ x = some (.int (a + (i : Int)) t) → Fr h₀ L h m → News h₀ L h ((I, oI) :: (C, oC) :: (D, LCg.lst ys) :: news) → LCg.Off3 I C D news → ((@Ne Nat I C) ∧ (@Ne Nat I D) ∧ (@Ne Nat C D)) →
      wpAny (model prog w) A (eval elt (compEnvC scope cl C env)) (KeepEl h₀ L m ((I, oI) :: (C, oC) :: (D, LCg.lst ys) :: news) (fun y => J (i + 1) (ys ++ [y])) { s with heap := h, toks := tk }) E' { s with heap := h, toks := tk })
    (fin : ∀ g ys, J n ys → Fin { s with heap := g } ys news) : LCg.CompSrc prog w A h₀ L m env elt x scope cl Fin (.ref r) s := by
  refine LCg.CompSrc.range hh F N hr hsm hn hsz fun g => ?_
  refine comp_ind (fun j ys news' => news' = news ∧ J j ys) n ?_ (fun ys news' hj => by obtain ⟨rfl, hj⟩ := hj; exact fin g ys hj) n 0 [] news (Nat.zero_add _) ⟨rfl, h0⟩
  rintro i ys news' v I oI C oC D m₂ h tk E' hi ⟨rfl, hj⟩ ⟨t', rfl⟩ hC hx F' N' off ne
  refine wpAny_mono (step i t' ys I oI C oC D m₂ h tk E' hi hj hC hx F' N' off ne) (fun y s₂ q => ?_) fun _ _ e => e
  obtain ⟨h', tk', rfl, F2, N2, j2⟩ := q
  exact LCg.CompEnd.intro F2 N2 _ (fun p hp => hp) off trivial ⟨rfl, j2⟩
/-- a comprehension over a list of the ledger; the ledger stays -/
theorem srcL_keep {elt : Expr} {x : Str} {scope : Scope} {cl : List (Str × Addr)} {Fin : Shared → List Value → List (Addr × Obj) → Prop} {ax : Addr} {its : Array Value} {c : Nat} {news : List (Addr × Obj)} (J : Nat → List Value → Prop)
    (hh : A.handled = none) (F : Fr h₀ L s.heap m) (N : News h₀ L s.heap news) (hm : (ax, ({ cls := .type "list", data := .seq its c } : Obj)) ∈ news) (hsz : its.size ≤ sizeLine) (h0 : J 0 [])
    (step : ∀ i ys v I oI C oC D m₂ h tk (E' : Value → Shared → Prop), its[i]? = some v → J i ys → LCg.NsObj oC m₂ → m₂ x = some v → Fr h₀ L h m → News h₀ L h ((I, oI) :: (C, oC) :: (D, LCg.lst ys) :: news) → LCg.Off3 I C D news → ((@Ne Nat I C) ∧ (@Ne Nat I D) ∧ (@Ne Nat C D)) →
      wpAny (model prog w) A (eval elt (compEnvC scope cl C env)) (KeepEl h₀ L m ((I, oI) :: (C, oC) :: (D, LCg.lst ys) :: news) (fun y => J (i + 1) (ys ++ [y])) { s with heap := h, toks := tk }) E' { s with heap := h, toks := tk })
    (fin : ∀ g ys, J its.size ys → Fin { s with heap := g } ys news) : LCg.CompSrc prog w A h₀ L m env elt x scope cl Fin (.ref ax) s := by
  refine LCg.CompSrc.ledger hh F N hm hsz fun g => ?_
  refine comp_ind (fun j ys news' => news' = news ∧ J j ys) its.size ?_ (fun ys news' hj => by obtain ⟨rfl, hj⟩ := hj; exact fin g ys hj) its.size 0 [] news (Nat.zero_add _) ⟨rfl, h0⟩
  rintro i ys news' v I oI C oC D m₂ h tk E' hi ⟨rfl, hj⟩ hv hC hx F' N' off ne
  refine wpAny_mono (step i ys v I oI C oC D m₂ h tk E' hv hj hC hx F' N' off ne) (fun y s₂ q => ?_) fun _ _ e => e
  obtain ⟨h', tk', rfl, F2, N2, j2⟩ := q
  exact LCg.CompEnd.intro F2 N2 _ (fun p hp => hp) off (.inr ⟨_, hm, rfl, _, rfl⟩) ⟨rfl, j2⟩
/-- the same with a test, over a list -/
theorem srcLT_keep {ct elt : Expr} {x : Str} {scope : Scope} {cl : List (Str × Addr)} {Fin : Shared → List Value → List (Addr × Obj) → Prop} {ax : Addr} {its : Array Value} {c : Nat} {news : List (Addr × Obj)} (J : Nat → List Value → Prop)
    (hh : A.handled = none) (F : Fr h₀ L s.heap m) (N : News h₀ L s.heap news) (hm : (ax, ({ cls := .type "list", data := .seq its c } : Obj)) ∈ news) (hsz : its.size ≤ sizeLine) (h0 : J 0 [])
    (step : ∀ i ys v I oI C oC D m₂ h tk (E' : Value → Shared → Prop), its[i]? = some v → J i ys → LCg.NsObj oC m₂ → m₂ x = some v → Fr h₀ L h m → News h₀ L h ((I, oI) :: (C, oC) :: (D, LCg.lst ys) :: news) → LCg.Off3 I C D news → ((@Ne Nat I C) ∧ (@Ne Nat I D) ∧ (@Ne Nat C D)) →
      wpAny (model prog w) A (isTrue ct (compEnvC scope cl C env) (eval ct (compEnvC scope cl C env))) (fun ok s' => if ok = true then
        wpAny (model prog w) A (eval elt (compEnvC scope cl C env)) (KeepEl h₀ L m ((I, oI) :: (C, oC) :: (D, LCg.lst ys) :: news) (fun y => J (i + 1) (ys ++ [y])) { s with heap := h, toks := tk }) E' s'
        else KeepEl h₀ L m ((I, oI) :: (C, oC) :: (D, LCg.lst ys) :: news) (fun _ => J (i + 1) ys) { s with heap := h, toks := tk } Value.none s') E' { s with heap := h, toks := tk })
    (fin : ∀ g ys, J its.size ys → Fin { s with heap := g } ys news) :
    LCt.CompSrcT prog w A h₀ L m env ct elt x scope cl Fin (.ref ax) s := by
  refine LCt.CompSrcT.ledger hh F N hm hsz fun g => ?_
  refine comp_indT (fun j ys news' => news' = news ∧ J j ys) its.size ?_ (fun ys news' hj => by obtain ⟨rfl, hj⟩ := hj; exact fin g ys hj) its.size 0 [] news (Nat.zero_add _) ⟨rfl, h0⟩
  rintro i ys news' v I oI C oC D m₂ h tk E' hi ⟨rfl, hj⟩ hv hC hx F' N' off ne
  refine wpAny_mono (step i ys v I oI C oC D m₂ h tk E' hv hj hC hx F' N' off ne) (fun ok s₂ q => ?_) fun _ _ e => e
  cases ok with
  | true =>
    simp only [if_true] at q ⊢
    refine wpAny_mono q (fun y s₃ q₃ => ?_) fun _ _ e => e
    obtain ⟨h', tk', rfl, F2, N2, j2⟩ := q₃
    exact LCg.CompEnd.intro F2 N2 _ (fun p hp => hp) off (.inr ⟨_, hm, rfl, _, rfl⟩) ⟨rfl, j2⟩
  | false =>
    simp only [Bool.false_eq_true, if_false] at q ⊢
    obtain ⟨h', tk', rfl, F2, N2, j2⟩ := q
    exact LCg.CompEnd.intro F2 N2 _ (fun p hp => hp) off (.inr ⟨_, hm, rfl, _, rfl⟩) ⟨rfl, j2⟩
/-- the same with a test, over a range -/
theorem srcRT_keep {ct elt : Expr} {x : Str} {scope : Scope} {cl : List (Str × Addr)} {Fin : Shared → List Value → List (Addr × Obj) → Prop} {r : Addr} {a b : Int} {t u v : Tok} {n : Nat} {news : List (Addr × Obj)} (J : Nat → List Value → Prop)
    (hh : A.handled = none) (F : Fr h₀ L s.heap m) (N : News h₀ L s.heap news) (hr : IsRange s.heap r a b 1 t u v) (hsm : Builtin.Range.small a b 1 = true) (hn : Builtin.Range.rangeSize a b 1 = ((n : Nat) : Int)) (hsz : n ≤ sizeLine) (h0 : J 0 [])
    (step : ∀ i t ys I oI C oC D m₂ h tk (E' : Value → Shared → Prop), i < n → J i ys → LCg.NsObj oC m₂ → m₂ x = some (.int (a + (i : Int)) t) → Fr h₀ L h m → News h₀ L h ((I, oI) :: (C, oC) :: (D, LCg.lst ys) :: news) → LCg.Off3 I C D news → ((@Ne Nat I C) ∧ (@Ne Nat I D) ∧ (@Ne Nat C D)) →
      wpAny (model prog w) A (isTrue ct (compEnvC scope cl C env) (eval ct (compEnvC scope cl C env))) (fun ok s' => if ok = true then
        wpAny (model prog w) A (eval elt (compEnvC scope cl C env)) (KeepEl h₀ L m ((I, oI) :: (C, oC) :: (D, LCg.lst ys) :: news) (fun y => J (i + 1) (ys ++ [y])) { s with heap := h, toks := tk }) E' s'
        else KeepEl h₀ L m ((I, oI) :: (C, oC) :: (D, LCg.lst ys) :: news) (fun _ => J (i + 1) ys) { s with heap := h, toks := tk } Value.none s') E' { s with heap := h, toks := tk })
    (fin : ∀ g ys, J n ys → Fin { s with heap := g } ys news) :
    LCt.CompSrcT prog w A h₀ L m env ct elt x scope cl Fin (.ref r) s := by
  refine LCt.CompSrcT.range hh F N hr hsm hn hsz fun g => ?_
  refine comp_indT (fun j ys news' => news' = news ∧ J j ys) n ?_ (fun ys news' hj => by obtain ⟨rfl, hj⟩ := hj; exact fin g ys hj) n 0 [] news (Nat.zero_add _) ⟨rfl, h0⟩
  rintro i ys news' v I oI C oC D m₂ h tk E' hi ⟨rfl, hj⟩ ⟨t', rfl⟩ hC hx F' N' off ne
  refine wpAny_mono (step i t' ys I oI C oC D m₂ h tk E' hi hj hC hx F' N' off ne) (fun ok s₂ q => ?_) fun _ _ e => e
  cases ok with
  | true =>
    simp only [if_true] at q ⊢
    refine wpAny_mono q (fun y s₃ q₃ => ?_) fun _ _ e => e
    obtain ⟨h', tk', rfl, F2, N2, j2⟩ := q₃
    exact LCg.CompEnd.intro F2 N2 _ (fun p hp => hp) off trivial ⟨rfl, j2⟩
  | false =>
    simp only [Bool.false_eq_true, if_false] at q ⊢
    obtain ⟨h', tk', rfl, F2, N2, j2⟩ := q
    exact LCg.CompEnd.intro F2 N2 _ (fun p hp => hp) off trivial ⟨rfl, j2⟩
/-- a loop over a list, by an invariant over the whole state -/
noncomputable def ForAt (prog : Program) (w : World) (A : Around) (env : Env) (target : Expr) (body : List Stmt) (Q : Flow → Shared → Prop) (E : Value → Shared → Prop) (it : Value) (s₂ : Shared) : Prop :=
  ∃ (n : Nat) (J : Nat → Shared → Prop), J 0 s₂ ∧ (∀ i s₃, i < n → J i s₃ → wpAny (model prog w) A (pyNext it) (fun r s₄ => ∃ v, r = some v ∧ wpAny (model prog w) A (assign target env v) (fun _ s₅ => wpAny (model prog w) A (execs body env) (fun f s₆ => match f with
    | .next | .cont => J (i + 1) s₆
    | .brk => Q .next s₆
    | .ret v => Q (.ret v) s₆) E s₅) E s₄) E s₃) ∧ (∀ s₃, J n s₃ → wpAny (model prog w) A (pyNext it) (fun r s₄ => r = none ∧ Q .next s₄) E s₃) ∧ ∀ v, letOwnedTupleGo target it v = pure ()
theorem For_law {target iter : Expr} {body : List Stmt} {pos : Pos} {Q : Flow → Shared → Prop}
    (h : wpAny (model prog w) A (eval iter env) (fun xv s₁ => wpAny (model prog w) A (pyIter xv) (fun it s₂ => ForAt prog w A env target body Q E it s₂) E s₁) E s)
    (hs : ∀ x, foldedSetIterable iter env x = pure x := by intro _; rfl)
    (hE : PassesOwn (model prog w) A env E := by passes_own) :
    wpAny (model prog w) A (exec (.For target iter body [] pos) env) Q E s := by
  refine wpAny_For (wpAny_mono h (fun xv s₁ h₁ => wpAny_mono h₁ (fun it s₂ h₂ => ?_) fun _ _ e => e) fun _ _ e => e) hs
  obtain ⟨n, J, h0, step, done, hgo⟩ := h₂
  refine codeAny_forLoop (fun k s' => ∃ i, J i s' ∧ i ≤ n ∧ k = n + 1 - i) ?_ (n + 1) ⟨0, h0, Nat.zero_le _, rfl⟩ hgo
  rintro k s' ⟨i, hJ, hi, rfl⟩
  by_cases hlt : i < n
  · refine wpAny_mono (step i s' hlt hJ) (fun r s₄ q => ?_) hE
    obtain ⟨v, rfl, q⟩ := q
    refine wpAny_mono q (fun _ s₅ q₅ => wpAny_mono q₅ (fun f s₆ q₆ => ?_) hE) hE
    cases f with
    | next => exact ⟨n + 1 - (i + 1), by omega, i + 1, q₆, hlt, rfl⟩
    | cont => exact ⟨n + 1 - (i + 1), by omega, i + 1, q₆, hlt, rfl⟩
    | brk => exact q₆
    | ret v => exact q₆
  · have : i = n := by omega
    subst this
    refine wpAny_mono (done s' hJ) (fun r s₄ q => ?_) hE
    obtain ⟨rfl, q⟩ := q
    exact wpAny_execs_nil q
end
end Mine
end PartF3
theorem Mine.flushF4 : True := by
  w_top off
  trivial
section PartF4
open PySem PySem.W PyProof.Rows PySem.Calls
set_option Elab.async false
namespace Mine
theorem kwF4x0 : True := by
  k_with_none
  k_with "size_fits" => first | (with_reducible assumption) | ((try simp only [PySem.Str.length_append, sizeLine_eq]); omega)
  k_with "k_room" => ((try simp only [depth_under_make, depth_under_kw, depth_in1, depth_deeper, depth_caller, depth_mark]); omega)
  k_with "k_units" => ((try simp only [units_under_kw, units_in1, units_deeper, units_caller, Around.mark_units]); omega)
  trivial
noncomputable abbrev envL (L fa : Addr) (cd : Value) : Env := envOfC dLaw.name dLaw.scope L fa cd
noncomputable def forBody : List Stmt → List Stmt
  | .For _ _ b _ _ :: _ => b
  | _ => []
noncomputable def bd (i n : Nat) : List Stmt := (dLaw.body.drop i).take n
noncomputable def turnBody : List Stmt := forBody (bd 2 1)
noncomputable def pc (i n : Nat) : List Stmt := (turnBody.drop i).take n
set_option maxRecDepth 100000 in
theorem turn_eq : turnBody = pc 0 1 ++ (pc 1 1 ++ (pc 2 1 ++ (pc 3 1 ++ (pc 4 1 ++ (pc 5 1 ++ (pc 6 1 ++ (pc 7 1 ++ (pc 8 1 ++ (pc 9 2 ++ (pc 11 1 ++ (pc 12 1 ++ []))))))))))) := by kernel_rfl
set_option maxRecDepth 100000 in
theorem body_eq : dLaw.body = bd 0 2 ++ (bd 2 1 ++ bd 3 1) := by kernel_rfl
noncomputable def IntsN (n : Nat) (ys : List Value) : Prop := ∃ ns, IntsAre ys ns ∧ ns.length = n
theorem IntsAre.snoc1 : ∀ {ys : List Value} {ns : List Int} {n : Int} {t : Tok}, IntsAre ys ns → IntsAre (ys ++ [.int n t]) (ns ++ [n])
  | _, _, _, t, .nil => .cons _ t .nil
  | _, _, _, _, .cons n t h => .cons n t (IntsAre.snoc1 h)
theorem IntsN.snoc {n : Nat} {ys : List Value} {v : Int} {t : Tok} (h : IntsN n ys) : IntsN (n + 1) (ys ++ [.int v t]) := by
  obtain ⟨ns, h1, h2⟩ := h
  exact ⟨ns ++ [v], IntsAre.snoc1 h1, by simp [h2]⟩
theorem kwF4x1 : True := by
  k_with "CompSrc" => (k_here; refine stop_of ?_)
  trivial
theorem sum_slice {prog : Program} {w : World} {A : Around} {E : Value → Shared → Prop} {s : Shared} {h₀ : Heap} {L l : Addr} {m : Str → Option Value} {Q : Value → Shared → Prop} {items : List Value} {ns : List Int} {lo hi st : Option Int} {c : Nat} {news : List (Addr × Obj)}
    (hh : A.handled = none) (F : Fr h₀ L s.heap m) (N : News h₀ L s.heap ((l, ({ cls := .type "list", data := .seq (slicePick items.toArray lo hi st) c } : Obj)) :: news)) (hI : IntsAre items ns)
    (h : ∀ h' tk n t', Fr h₀ L h' m → News h₀ L h' ((l, ({ cls := .type "list", data := .seq (slicePick items.toArray lo hi st) c } : Obj)) :: news) → Q (.int n t') { s with heap := h', toks := tk }) :
    wpAny (model prog w) A (call (.builtin "sum") [.ref l]) Q E s :=
  LSm.sum_ints F N hh (vs := (slicePick items.toArray lo hi st).toList) ⟨_, (N _ (.head _)).1, rfl, c, rfl⟩ (hI.pick lo hi st) fun h' tk t' F' N' => h h' tk _ t' F' N'
theorem kwF4x2 : True := by
  k_with "call builtin:sum" => (k_here; (with_reducible show wpAny _ _ (call (Value.builtin "sum") [Value.ref _]) _ _ _); k_dflt (refine' sum_slice rfl ?Fz50c ?Nz50c ?hiz50c ?_; (case Fz50c => k_asm); (case Nz50c => k_asm); (case hiz50c => assumption)); intro h'z50c tk'z50c n'z50c t'z50c F'z50c N'z50c; (try dsimp only))
  trivial
set_option maxRecDepth 100000 in
set_option maxHeartbeats 4000000 in
theorem law_start {w : World} {s : Shared} {g0 : Heap} {L fa SA : Addr} {cd : Value} {p : Program} {loose : List Str} {mean : ExcName → Option Value} {mg mb : Str → Option Value} {op ok oo os : Obj} {items : List Value} {ns : List Int} {rest : List Stmt} {Q : Flow → Shared → Prop} {E : Value → Shared → Prop}
    (B : Below callerA g0 [] g0) (X : (KF w.params).In g0) (T : Top p loose mean mg mb g0)
    (F : Fr g0 L s.heap fun y => List.lookup y []) (N : News g0 L s.heap [(L + 1 + 1 + 1 + 1, op), (L + 1 + 1 + 1, ok), (L + 1 + 1, oo), (L + 1, os), (767, tabObj #[])]) (h7 : 767 < L)
    (hop : op.data = .cell none) (hok : ok.data = .cell none) (hoo : oo.data = .cell none) (hos : os.data = .cell (some (.ref SA))) (hS : g0.IsList SA items.toArray) (hI : IntsAre items ns) (hn : ns.length ≤ 63)
    (h : ∀ h' tk NA nv, Fr g0 L h' (fun y => if y = Str.ofString "numbers" then some (.ref NA) else List.lookup y []) → News g0 L h' [(NA, LCg.lst nv), (L + 1 + 1 + 1 + 1, op), (L + 1 + 1 + 1, ok), (767, tabObj #[])] → IntsN 9 nv → ((@Ne Nat NA (L + 1 + 1 + 1 + 1)) ∧ (@Ne Nat NA (L + 1 + 1 + 1)) ∧ (@Ne Nat NA 767)) → wpAny (model PySem.Challenge.rw_nq0205_01.prog w) (callerA.deeper (envL L fa cd)) (execs rest (envL L fa cd)) Q E { s with heap := h', toks := tk }) :
    wpAny (model PySem.Challenge.rw_nq0205_01.prog w) (callerA.deeper (envL L fa cd)) (execs (bd 0 2 ++ rest) (envL L fa cd)) Q E s := by
  revert X; k_fill; intro X
  k_steps
  refine stop_to ?_
  rename IsRange _ _ _ _ _ _ _ _ => hr
  refine srcR_keep (n := 9) (fun j ys => IntsN j ys) rfl (by assumption) (by assumption) hr (by decide) (by decide) (by decide) ⟨[], .nil, rfl⟩ ?step ?fin
  case step =>
    intro i t ys I oI C oC D m₂ h₂ tk E' hi hj hC hx F2 N2 off ne
    k_steps
    exact ⟨_, _, rfl, by assumption, fun q hq => (by assumption : News _ _ _ _) q (.tail _ hq), hj.snoc⟩
  case fin =>
    intro g ys hj D h₂ tk F2 N2 off
    refine h _ _ D ys F2 (fun q hq => ?_) hj ⟨off.2.1.symm, off.2.2.1.symm, off.2.2.2.2.2.1.symm⟩
    simp only [List.mem_cons, List.not_mem_nil, or_false] at hq
    rcases hq with rfl | rfl | rfl | rfl <;> exact N2 _ (by simp)
end Mine
end PartF4
theorem Mine.flushC15 : True := by
  w_top off
  trivial
section PartC15
open PySem PySem.W PyProof.Rows PySem.Calls
set_option Elab.async false
namespace Mine
theorem kwC15x0 : True := by
  k_with_none
  k_with "size_fits" => first | (with_reducible assumption) | ((try simp only [PySem.Str.length_append, sizeLine_eq]); omega)
  k_with "k_room" => ((try simp only [depth_under_make, depth_under_kw, depth_in1, depth_deeper, depth_caller, depth_mark]); omega)
  k_with "k_units" => ((try simp only [units_under_kw, units_in1, units_deeper, units_caller, Around.mark_units]); omega)
  k_with "LeaveK" => (k_dflt (refine' leaveK_k ?k1z0b8 ?k2z0b8 ?_; (case k1z0b8 => k_asm); (case k2z0b8 => k_asm); k_whole); intro kkz0b8 kFz0b8 kNz0b8; (try dsimp only at kkz0b8 kFz0b8 kNz0b8 ⊢))
  k_with "subscriptTail" => (k_here; (with_reducible show wpAny _ _ (subscriptTail _ _ (Value.ref _) (Value.int _ _)) _ _ _); k_dflt (refine' item_sign ?Nz29e ?mz29e ?haz29e ?h0z29e ?h1z29e ?hzz29e ?_ ?hsz29e; (case Nz29e => k_asm); (case mz29e => k_mem); (case haz29e => (repeat (refine And.intro ⟨_, _, rfl, by first | rfl | decide +kernel⟩ ?_)); exact True.intro); (case h0z29e => exact Int.fmod_nonneg_of_pos _ (by decide)); (case h1z29e => exact Int.fmod_lt_of_pos _ (by decide)); (case hzz29e => exact Nat.le_of_ble_eq_true rfl); (case hsz29e => with_unfolding_all rfl)); intro y'z29e t'z29e hy'z29e; (try dsimp only))
  k_with "subscriptTail Name BinOp ref int" => (k_here; (with_reducible show wpAny _ _ (subscriptTail _ _ (Value.ref _) (Value.int _ _)) _ _ _); k_dflt (refine' item_sign ?Nz29e ?mz29e ?haz29e ?h0z29e ?h1z29e ?hzz29e ?_ ?hsz29e; (case Nz29e => k_asm); (case mz29e => k_mem); (case haz29e => (repeat (refine And.intro ⟨_, _, rfl, by first | rfl | decide +kernel⟩ ?_)); exact True.intro); (case h0z29e => exact Int.fmod_nonneg_of_pos _ (by decide)); (case h1z29e => exact Int.fmod_lt_of_pos _ (by decide)); (case hzz29e => exact Nat.le_of_ble_eq_true rfl); (case hsz29e => with_unfolding_all rfl)); intro y'z29e t'z29e hy'z29e; (try dsimp only))
  k_with "CompSrc" => (k_here; refine stop_of ?_)
  trivial
theorem signs_snoc {ys : List Value} {ws : List Str} {y : Str} {t : Tok} (h : PyProof.Rows.StrsAre ys ws) : PyProof.Rows.StrsAre (ys ++ [.str y t]) (ws ++ [y]) := PyProof.Rows.StrsAre.append' h (.cons y t .nil)
theorem ones_snoc {ws : List Str} {y : Str} (h : ∀ z ∈ ws, z.length = 1) (hy : y.length = 1) : ∀ z ∈ ws ++ [y], z.length = 1 := by
  intro z hz
  rcases List.mem_append.mp hz with hz | hz
  · exact h z hz
  · rw [List.mem_singleton.mp hz]; exact hy
theorem ones_sum {ws : List Str} (h : ∀ y ∈ ws, y.length = 1) : (ws.map (·.length)).sum = ws.length := by
  induction ws with
  | nil => rfl
  | cons y ws ih => rw [List.map_cons, List.sum_cons, h y (.head _), ih fun z hz => h z (.tail _ hz), List.length_cons, Nat.add_comm]
set_option maxRecDepth 100000 in
set_option maxHeartbeats 4000000 in
theorem t_word {p : Program} {loose : List Str} {mean : ExcName → Option Value} {mg mb : Str → Option Value} {w : World} {A₀ : Around} {dep un : Nat} {gs : Option (List Code)} {s : Shared} {base h₀ : Heap} {outer : List Env} {nms : List (Str × NameKind)} {ig ic : Bool} {mo : List (Str × Const)} {loc glo bi : Addr} {cel : List (Str × Addr)} {qu : Str} {fn : Option Addr} {cod : Value} {L : Addr} {m : Str → Option Value} {R : Result → Shared → Prop} {n : Int} {t : Tok}
    (B : Below A₀ base outer h₀) (F : Fr h₀ L s.heap m) (X : (KF w.params).In h₀) (T : Top p loose mean mg mb h₀) (hroom : dep + 20 < recursionLimit) (hun : un + 60 < cLine)
    (h : ∀ h' tk t' v, v.length ≤ 4 → Fr h₀ L h' m → HSub s.heap h' → R (.ok (.ret (.str v t'))) { s with heap := h', toks := tk }) :
    codeAny (model PySem.Challenge.rw_nq0205_01.prog w) ⟨none, dep, some ((⟨⟨.function, nms, ig, ic, mo⟩, loc, glo, cel, qu, fn, cod, some L, bi⟩ : Env) :: outer), gs, un⟩ (.call (.ref 785) ⟨[.int n t], []⟩) R s := by
  revert X; k_fill; intro X
  refine' code_defCG B F X T rfl rfl rfl ?k6 ?k7 ?k8 ?k9 ?kB ?kD ?_ ?c2 ?c3 ?c4
  case k6 => k_is
  case k7 => k_is
  case k8 => (show dep < _); omega
  case k9 => exact BindsTo.of_eq rfl
  case kB => exact rfl
  case kD => decide +kernel
  case c2 => exact rfl
  case c3 => exact rfl
  case c4 => exact rfl
  intro g' L' h' tk' cells' FG' F' N' Y' B' X' T' kG'
  k_cells Y'
  (try simp only [List.cons_append, List.nil_append] at N')
  (try dsimp only)
  (try k_fold)
  k_steps
  refine stop_to ?_
  rename IsRange _ _ _ _ _ _ _ _ => hr
  obtain ⟨N, hN, hN4⟩ := half_small n
  rw [hN] at hr
  refine srcR_keep (n := N) (fun j ys => ∃ ws : List Str, PyProof.Rows.StrsAre ys ws ∧ ws.length = j ∧ ∀ y ∈ ws, y.length = 1) rfl (by assumption) (by assumption) hr ?hsm ?hrs ?hsz ⟨[], .nil, rfl, fun _ h => by cases h⟩ ?step ?fin
  case hsm => exact small_one (by omega) (by omega) (by omega) (by omega)
  case hrs => rw [rangeSize_nat]; omega
  case hsz => rw [sizeLine_eq]; omega
  case step =>
    rintro i t2 ys I oI C oC D m₂ h₂ tk2 E' hi ⟨ws, hws, hlen, hone⟩ hC hx F2 N2 off ne
    have hi4 : i = 0 ∨ i = 1 ∨ i = 2 ∨ i = 3 := by omega
    rcases hi4 with rfl | rfl | rfl | rfl <;> (k_steps; exact ⟨_, _, rfl, by assumption, by assumption, _, signs_snoc hws, by rw [List.length_append, hlen]; rfl, ones_snoc hone (by assumption)⟩)
  case fin =>
    rintro g9 ys ⟨ws, hws, hlen, hone⟩ D h₂ tk2 F2 N2 off
    k_steps
    rename News g' L' _ _ => N4
    refine join_listW (D := D) (items := ys.toArray) (ys := ws) ⟨_, (N4 _ (.head _)).1, rfl, _, rfl⟩ hws (by decide +kernel) (by rw [ones_sum hone]; omega) fun t' k => ?_
    dsimp only
    k_steps
    exact h _ _ _ _ (join_signs (by rw [ones_sum hone]; omega)) (by assumption) (by first | exact kG' | exact HSub.trans kG' (by assumption))
end Mine
end PartC15
theorem Mine.flushF5a : True := by
  w_top off
  trivial
section PartF5a
open PySem PySem.W PyProof.Rows PySem.Calls
set_option Elab.async false
namespace Mine
/-- an address that is none of the law's own cells, nor the table of join -/
noncomputable def OffL (L : Addr) (a : Addr) : Prop := (@Ne Nat a (L + 1 + 1 + 1 + 1)) ∧ (@Ne Nat a (L + 1 + 1 + 1)) ∧ (@Ne Nat a 767)
/-- the ledger of the law -/
noncomputable def Led (g0 : Heap) (L : Addr) (h : Heap) (vp vk : Option Value) (tl : List (Addr × Obj)) : Prop :=
  ∃ op ok ps, News g0 L h ((L + 1 + 1 + 1 + 1, op) :: (L + 1 + 1 + 1, ok) :: (767, tabJ ps) :: tl) ∧ op.data = .cell vp ∧ ok.data = .cell vk ∧ TriplesOk ps.toList ∧ (∀ q ∈ tl, OffL L q.1) ∧ 767 < L
theorem News.hsub {h₀ h h' : Heap} {L : Addr} {news : List (Addr × Obj)} (N : News h₀ L h news) (k : HSub h h') : News h₀ L h' news := fun q hq => ⟨k _ _ (N q hq).1, (N q hq).2⟩
/-- what is fresh is none of them -/
theorem offL_fresh {g0 h : Heap} {L a : Addr} {op ok : Obj} {ps : Array Value} {tl : List (Addr × Obj)} (N : News g0 L h ((L + 1 + 1 + 1 + 1, op) :: (L + 1 + 1 + 1, ok) :: (767, tabJ ps) :: tl)) (hf : h.get? a = none) : OffL L a := by
  refine ⟨fun e => ?_, fun e => ?_, fun e => ?_⟩
  · have := (N _ (.head _)).1; rw [← e, hf] at this; cases this
  · have := (N _ (.tail _ (.head _))).1; rw [← e, hf] at this; cases this
  · have := (N _ (.tail _ (.tail _ (.head _)))).1; rw [← e, hf] at this; cases this
theorem t_wordN {p : Program} {loose : List Str} {mean : ExcName → Option Value} {mg mb : Str → Option Value} {w : World} {A₀ : Around} {dep un : Nat} {gs : Option (List Code)} {s : Shared} {base h₀ : Heap} {outer : List Env} {nms : List (Str × NameKind)} {ig ic : Bool} {mo : List (Str × Const)} {loc glo bi : Addr} {cel : List (Str × Addr)} {qu : Str} {fn : Option Addr} {cod : Value} {L : Addr} {m : Str → Option Value} {R : Result → Shared → Prop} {n : Int} {t : Tok} {news : List (Addr × Obj)}
    (B : Below A₀ base outer h₀) (F : Fr h₀ L s.heap m) (X : (KF w.params).In h₀) (N : News h₀ L s.heap news) (T : Top p loose mean mg mb h₀) (hroom : dep + 20 < recursionLimit) (hun : un + 60 < cLine)
    (h : ∀ h' tk t' v, v.length ≤ 4 → Fr h₀ L h' m → News h₀ L h' news → R (.ok (.ret (.str v t'))) { s with heap := h', toks := tk }) :
    codeAny (model PySem.Challenge.rw_nq0205_01.prog w) ⟨none, dep, some ((⟨⟨.function, nms, ig, ic, mo⟩, loc, glo, cel, qu, fn, cod, some L, bi⟩ : Env) :: outer), gs, un⟩ (.call (.ref 785) ⟨[.int n t], []⟩) R s :=
  t_word B F X T hroom hun fun h' tk t' v hv F' kS => h h' tk t' v hv F' (News.hsub N kS)
noncomputable def WordsN (n : Nat) (ys : List Value) : Prop := ∃ ws, StrsAre ys ws ∧ (∀ y ∈ ws, y.length ≤ 4) ∧ ws.length ≤ n
theorem StrsAre.snoc1 : ∀ {ys : List Value} {ws : List Str} {y : Str} {t : Tok}, StrsAre ys ws → StrsAre (ys ++ [.str y t]) (ws ++ [y])
  | [], [], y, t, _ => ⟨⟨t, rfl⟩, trivial⟩
  | _ :: _, _ :: _, y, t, ⟨a, r⟩ => ⟨a, StrsAre.snoc1 r⟩
theorem WordsN.snoc {n : Nat} {ys : List Value} {y : Str} {t : Tok} (h : WordsN n ys) (hy : y.length ≤ 4) : WordsN (n + 1) (ys ++ [.str y t]) := by
  obtain ⟨ws, h1, h2, h3⟩ := h
  refine ⟨ws ++ [y], StrsAre.snoc1 h1, fun z hz => ?_, by simp; exact h3⟩
  rcases List.mem_append.mp hz with hz | hz
  · exact h2 z hz
  · rw [List.mem_singleton.mp hz]; exact hy
theorem WordsN.weak {n : Nat} {ys : List Value} (h : WordsN n ys) : WordsN (n + 1) ys := by
  obtain ⟨ws, h1, h2, h3⟩ := h
  exact ⟨ws, h1, h2, Nat.le_succ_of_le h3⟩
theorem off1_of {D : Addr} : ∀ {l : List (Addr × Obj)}, LCg.Off1 D l → ∀ q ∈ l, @Ne Nat q.1 D
  | [], _, _, h => nomatch h
  | _ :: _, x, q, h => by
    rcases List.mem_cons.mp h with rfl | h
    · exact x.1
    · exact off1_of x.2 q h
end Mine
end PartF5a
theorem Mine.flushF5 : True := by
  w_top off
  trivial
section PartF5
open PySem PySem.W PyProof.Rows PySem.Calls
set_option Elab.async false
set_option linter.unusedVariables false
namespace Mine
theorem kwF5x0 : True := by
  k_with_none
  k_with "size_fits" => first | (with_reducible assumption) | ((try simp only [PySem.Str.length_append, sizeLine_eq]); omega)
  k_with "k_room" => ((try simp only [depth_under_make, depth_under_kw, depth_in1, depth_deeper, depth_caller, depth_mark]); first | omega | decide)
  k_with "k_units" => ((try simp only [units_under_kw, units_in1, units_deeper, units_caller, Around.mark_units]); first | omega | decide)
  k_with "k_all" => (first | (with_reducible assumption) | exact List.forall_mem_nil _ | (refine' List.forall_mem_cons.mpr ⟨?az6b5, ?bz6b5⟩; (case az6b5 => k_ne); (case bz6b5 => k_all)))
  k_with "CompSrc" => (k_here; refine stop_of ?_)
  k_with "CompSrcT" => (k_here; refine stop_of ?_)
  k_with "call ref" => (k_here; (k_dflt (refine wpAny_call ?_; refine' t_wordN ?k1z500 ?k2z500 ?k3z500 ?k4z500 ?k5z500 ?krz500 ?kuz500 ?_; (case k1z500 => k_asm); (case k2z500 => k_asm); (case k3z500 => k_asm); (case k4z500 => k_asm); (case k5z500 => k_asm); (case krz500 => k_room); (case kuz500 => k_units))); intro h'z500 tk'z500 t'z500 v'z500 hv'z500 F'z500 N'z500; (try dsimp only))
  trivial
theorem ints_item : ∀ {vs : List Value} {ns : List Int}, IntsAre vs ns → ∀ {i : Nat} {v : Value}, vs[i]? = some v → ∃ n t, v = .int n t
  | _, _, .nil, i, v, e => by simp at e
  | _, _, .cons m t _, 0, v, e => by simp at e; exact ⟨m, t, e.symm⟩
  | _, _, .cons _ _ h, i + 1, v, e => ints_item h (i := i) (by simpa using e)
set_option maxRecDepth 100000 in
set_option maxHeartbeats 4000000 in
theorem turn_words {w : World} {s : Shared} {g0 : Heap} {L fa : Addr} {cd : Value} {p : Program} {loose : List Str} {mean : ExcName → Option Value} {mg mb : Str → Option Value} {rest : List Stmt} {Q : Flow → Shared → Prop} {E : Value → Shared → Prop} {mx : Str → Option Value} {k : Int} {t : Tok} {NA : Addr} {nv : List Value} {vp vk : Option Value} {tl : List (Addr × Obj)}
    (B : Below callerA g0 [] g0) (X : (KF w.params).In g0) (T : Top p loose mean mg mb g0)
    (F : Fr g0 L s.heap (fun y => if y = Str.ofString "first" then some (.int k t) else if y = Str.ofString "numbers" then some (.ref NA) else mx y))
    (hL : Led g0 L s.heap vp vk tl) (hNA : (NA, LCg.lst nv) ∈ tl) (hI : IntsN 9 nv) (hk : k = 0 ∨ k = 3 ∨ k = 6)
    (h : ∀ h' tk WA ys tl', Fr g0 L h' (fun y => if y = Str.ofString "words" then some (.ref WA) else if y = Str.ofString "first" then some (.int k t) else if y = Str.ofString "numbers" then some (.ref NA) else mx y) → Led g0 L h' vp vk tl' → (∀ q ∈ tl, q ∈ tl') → (WA, LCg.lst ys) ∈ tl' → WordsN 3 ys → wpAny (model PySem.Challenge.rw_nq0205_01.prog w) (callerA.deeper (envL L fa cd)) (execs (rest) (envL L fa cd)) Q E { s with heap := h', toks := tk }) :
    wpAny (model PySem.Challenge.rw_nq0205_01.prog w) (callerA.deeper (envL L fa cd)) (execs (pc 0 1 ++ rest) (envL L fa cd)) Q E s := by
  revert X; k_fill; intro X
  obtain ⟨op, ok, ps, N, hop, hok, htr, hoff, h7⟩ := hL
  have N1 : News g0 L s.heap ((NA, LCg.lst nv) :: (L + 1 + 1 + 1 + 1, op) :: (L + 1 + 1 + 1, ok) :: (767, tabJ ps) :: tl) := fun q hq => by
    rcases List.mem_cons.mp hq with rfl | hq
    · exact N _ (.tail _ (.tail _ (.tail _ hNA)))
    · exact N q hq
  clear N
  obtain ⟨ns, hI, hn⟩ := hI
  k_steps
  refine stop_to ?_
  rename IntsAre _ (List.take _ _) => hI2
  rename News g0 L _ _ => N2
  have hlen := hI2.length
  refine srcLT_keep (fun j ys => WordsN j ys) rfl (by assumption) N2 (.head _) ?hsz ⟨[], trivial, (fun y hy => nomatch hy), Nat.le_refl _⟩ ?step ?fin
  case hsz =>
    rw [List.size_toArray, hlen, List.length_take, sizeLine_eq]
    omega
  case step =>
    intro i ys v I oI C oC D m₂ h₂ tk E' hv hj hC hx F2 N2 off ne
    obtain ⟨n, t9, rfl⟩ : ∃ n t9, v = .int n t9 := by
      rw [List.getElem?_toArray] at hv
      exact ints_item hI2 hv
    k_steps
    · exact ⟨_, _, rfl, by assumption, by assumption, hj.snoc (by assumption)⟩
    · exact ⟨_, _, rfl, by assumption, by assumption, hj.weak⟩
  case fin =>
    intro g ys hj D h₂ tk F3 N3 off
    rw [List.size_toArray, hlen, List.length_take] at hj
    have hj3 : WordsN 3 ys := by
      obtain ⟨ws, a1, a2, a3⟩ := hj
      exact ⟨ws, a1, a2, by rcases hk with rfl | rfl | rfl <;> simp [hn] at a3 ⊢ <;> omega⟩
    have o1 := off1_of off
    refine h _ _ D ys ((D, LCg.lst ys) :: tl) F3 ⟨op, ok, ps, fun q hq => ?_, hop, hok, htr, fun q hq => ?_, h7⟩ (fun q hq => .tail _ hq) (.head _) hj3
    · simp only [List.mem_cons] at hq
      rcases hq with rfl | rfl | rfl | rfl | hq
      · exact N3 _ (by simp)
      · exact N3 _ (by simp)
      · exact N3 _ (by simp)
      · exact N3 _ (.head _)
      · exact N3 _ (.tail _ (.tail _ (.tail _ (.tail _ (.tail _ (.tail _ hq))))))
    · rcases List.mem_cons.mp hq with rfl | hq
      · exact ⟨(o1 _ (.tail _ (.tail _ (.head _)))).symm, (o1 _ (.tail _ (.tail _ (.tail _ (.head _))))).symm, (o1 _ (.tail _ (.tail _ (.tail _ (.tail _ (.head _)))))).symm⟩
      · exact hoff q hq
end Mine
end PartF5
theorem Mine.flushF6 : True := by
  w_top off
  trivial
section PartF6
open PySem PySem.W PyProof.Rows PySem.Calls
set_option Elab.async false
set_option linter.unusedVariables false
namespace Mine
theorem kwF6x0 : True := by
  k_with_none
  k_with "size_fits" => first | (with_reducible assumption) | ((try simp only [PySem.Str.length_append, sizeLine_eq]); omega)
  k_with "k_room" => ((try simp only [depth_under_make, depth_under_kw, depth_in1, depth_deeper, depth_caller, depth_mark]); first | omega | decide)
  k_with "k_units" => ((try simp only [units_under_kw, units_in1, units_deeper, units_caller, Around.mark_units]); first | omega | decide)
  k_with "k_all" => (first | (with_reducible assumption) | exact List.forall_mem_nil _ | (refine' List.forall_mem_cons.mpr ⟨?az6b5, ?bz6b5⟩; (case az6b5 => k_ne); (case bz6b5 => k_all)))
  k_with "CompSrc" => (k_here; refine stop_of ?_)
  k_with "CompSrcT" => (k_here; refine stop_of ?_)
  trivial
theorem t_cellsN {p : Program} {loose : List Str} {mean : ExcName → Option Value} {mg mb : Str → Option Value} {w : World} {A₀ : Around} {dep un : Nat} {gs : Option (List Code)} {s : Shared} {base h₀ : Heap} {outer : List Env} {nms : List (Str × NameKind)} {ig ic : Bool} {mo : List (Str × Const)} {loc glo bi : Addr} {cel : List (Str × Addr)} {qu : Str} {fn : Option Addr} {cod : Value} {L : Addr} {m : Str → Option Value} {R : Result → Shared → Prop} {WA : Addr} {ys : List Value} {ws : List Str} {b c d : Addr × Obj} {tl : List (Addr × Obj)} {k : Nat}
    (B : Below A₀ base outer h₀) (F : Fr h₀ L s.heap m) (X : (KF w.params).In h₀) (N : News h₀ L s.heap ((WA, ({ cls := .type "list", data := .seq ys.toArray k } : Obj)) :: b :: c :: d :: tl)) (T : Top p loose mean mg mb h₀) (hroom : dep + 20 < recursionLimit) (hun : un + 60 < cLine)
    (hst : StrsAre ys ws) (hw : ∀ y ∈ ws, y.length ≤ 4) (h3 : ws.length ≤ 3)
    (h : ∀ h' tk CL vs c' tl', Fr h₀ L h' m → News h₀ L h' ((CL, W.listOf vs.toArray c') :: b :: c :: d :: tl') → CellsIn tl' vs (cellsFrom 0 (wl ws)) → (∀ q ∈ tl, q ∈ tl') → (∀ q ∈ tl', q ∈ tl ∨ s.heap.get? q.1 = none) → s.heap.get? CL = none → R (.ok (.ret (.ref CL))) { s with heap := h', toks := tk }) :
    codeAny (model PySem.Challenge.rw_nq0205_01.prog w) ⟨none, dep, some ((⟨⟨.function, nms, ig, ic, mo⟩, loc, glo, cel, qu, fn, cod, some L, bi⟩ : Env) :: outer), gs, un⟩ (.call (.ref 790) ⟨[.ref WA], []⟩) R s := by
  refine t_cells B F X T hroom hun (WA := WA) (items := ys.toArray) (ws := ws) ⟨_, (N _ (.head _)).1, rfl, _, rfl⟩ hst hw h3 fun h' tk CL vs c' t2 F' kS N' hc hf _ => ?_
  refine h h' tk CL vs c' (tl ++ t2) F' (fun q hq => ?_) (hc.mono fun q hq => List.mem_append_right _ hq) (fun q hq => List.mem_append_left _ hq) (fun q hq => ?_) (hf _ (.head _))
  · simp only [List.mem_cons, List.mem_append] at hq
    rcases hq with rfl | rfl | rfl | rfl | hq | hq
    · exact N' _ (.head _)
    · exact News.hsub N kS _ (.tail _ (.head _))
    · exact News.hsub N kS _ (.tail _ (.tail _ (.head _)))
    · exact News.hsub N kS _ (.tail _ (.tail _ (.tail _ (.head _))))
    · exact News.hsub N kS _ (.tail _ (.tail _ (.tail _ (.tail _ hq))))
    · exact N' _ (.tail _ hq)
  · rcases List.mem_append.mp hq with hq | hq
    · exact .inl hq
    · exact .inr (hf _ (.tail _ hq))
theorem t_boundsN {p : Program} {loose : List Str} {mean : ExcName → Option Value} {mg mb : Str → Option Value} {w : World} {A₀ : Around} {dep un : Nat} {gs : Option (List Code)} {s : Shared} {base h₀ : Heap} {outer : List Env} {nms : List (Str × NameKind)} {ig ic : Bool} {mo : List (Str × Const)} {loc glo bi : Addr} {cel : List (Str × Addr)} {qu : Str} {fn : Option Addr} {cod : Value} {L : Addr} {m : Str → Option Value} {R : Result → Shared → Prop} {CL : Addr} {vs : List Value} {cs : List Cell} {led : List (Addr × Obj)} {k : Nat}
    (B : Below A₀ base outer h₀) (F : Fr h₀ L s.heap m) (X : (KF w.params).In h₀) (N : News h₀ L s.heap ((CL, W.listOf vs.toArray k) :: led)) (T : Top p loose mean mg mb h₀) (hroom : dep + 20 < recursionLimit) (hun : un + 60 < cLine)
    (hc : CellsB s.heap vs cs) (hn : cs.length ≤ 30)
    (h : ∀ h' tk TA oT tb te, Fr h₀ L h' m → News h₀ L h' ((TA, oT) :: (CL, W.listOf vs.toArray k) :: led) → IsTup h' TA #[.int (begC cs : Nat) tb, .int (endC cs : Nat) te] → R (.ok (.ret (.ref TA))) { s with heap := h', toks := tk }) :
    codeAny (model PySem.Challenge.rw_nq0205_01.prog w) ⟨none, dep, some ((⟨⟨.function, nms, ig, ic, mo⟩, loc, glo, cel, qu, fn, cod, some L, bi⟩ : Env) :: outer), gs, un⟩ (.call (.ref 795) ⟨[.ref CL], []⟩) R s :=
  t_bounds B F X T hroom hun (CA := CL) (vs := vs) (cs := cs) ⟨_, (N _ (.head _)).1, rfl, _, rfl⟩ hc hn fun h' tk TA oT tb te F' kS N' hp _ => h h' tk TA oT tb te F' (fun q hq => by
    rcases List.mem_cons.mp hq with rfl | hq
    · exact N' _ (.head _)
    · exact News.hsub N kS _ hq) ⟨oT, (N' _ (.head _)).1, hp⟩
theorem Led.intro {g0 h : Heap} {L : Addr} {op ok : Obj} {ps : Array Value} {led tl' : List (Addr × Obj)} {vp vk : Option Value} (N : News g0 L h led) (hop : op.data = .cell vp) (hok : ok.data = .cell vk) (htr : TriplesOk ps.toList) (h7 : 767 < L)
    (hin : ∀ q ∈ tl', q ∈ led) (m1 : (L + 1 + 1 + 1 + 1, op) ∈ led) (m2 : (L + 1 + 1 + 1, ok) ∈ led) (m3 : (767, tabJ ps) ∈ led) (hoff : ∀ q ∈ tl', OffL L q.1) : Led g0 L h vp vk tl' :=
  ⟨op, ok, ps, fun q hq => by
    simp only [List.mem_cons] at hq
    rcases hq with rfl | rfl | rfl | hq
    · exact N _ m1
    · exact N _ m2
    · exact N _ m3
    · exact N _ (hin q hq), hop, hok, htr, hoff, h7⟩
theorem Led.of4 {g0 h : Heap} {L : Addr} {op ok : Obj} {ps : Array Value} {a : Addr × Obj} {tl' : List (Addr × Obj)} {vp vk : Option Value} (N : News g0 L h (a :: (L + 1 + 1 + 1 + 1, op) :: (L + 1 + 1 + 1, ok) :: (767, tabJ ps) :: tl')) (hop : op.data = .cell vp) (hok : ok.data = .cell vk) (htr : TriplesOk ps.toList) (h7 : 767 < L)
    (ha : OffL L a.1) (hoff : ∀ q ∈ tl', OffL L q.1) : Led g0 L h vp vk (a :: tl') :=
  Led.intro N hop hok htr h7 (fun q hq => by
    rcases List.mem_cons.mp hq with rfl | hq
    · exact .head _
    · exact .tail _ (.tail _ (.tail _ (.tail _ hq)))) (by simp) (by simp) (by simp) (fun q hq => by
    rcases List.mem_cons.mp hq with rfl | hq
    · exact ha
    · exact hoff q hq)
theorem CellsIn.sub {tl tl' : List (Addr × Obj)} {vs : List Value} {cs : List Cell} (h : CellsIn tl vs cs) (k : ∀ q ∈ tl, q ∈ tl') : CellsIn tl' vs cs := h.mono k
theorem kwF6x1 : True := by
  k_with "call ref" => (k_here; (k_dflt (refine wpAny_call ?_; refine' t_cellsN ?k1zbfd ?k2zbfd ?k3zbfd ?k4zbfd ?k5zbfd ?krzbfd ?kuzbfd ?hszbfd ?hwzbfd ?h3zbfd ?_; (case k1zbfd => k_asm); (case k2zbfd => k_asm); (case k3zbfd => k_asm); (case k4zbfd => k_asm); (case k5zbfd => k_asm); (case krzbfd => k_room); (case kuzbfd => k_units); (case hszbfd => assumption); (case hwzbfd => assumption); (case h3zbfd => assumption))); intro h'zbfd tk'zbfd CL'zbfd vs'zbfd c'zbfd tl'zbfd F'zbfd N'zbfd hc'zbfd hs'zbfd hf'zbfd hn'zbfd; (try dsimp only))
  k_with "call ref" => (k_here; (k_dflt (refine wpAny_call ?_; refine' t_boundsN ?k1za77 ?k2za77 ?k3za77 ?k4za77 ?k5za77 ?krza77 ?kuza77 ?hsza77 ?hwza77 ?_; (case k1za77 => k_asm); (case k2za77 => k_asm); (case k3za77 => k_asm); (case k4za77 => k_asm); (case k5za77 => k_asm); (case krza77 => k_room); (case kuza77 => k_units); (case hsza77 => assumption); (case hwza77 => assumption))); intro h'za77 tk'za77 TA'za77 oT'za77 tb'za77 te'za77 F'za77 N'za77 hp'za77; (try dsimp only))
  trivial
set_option maxRecDepth 100000 in
set_option maxHeartbeats 4000000 in
theorem turn_cells {w : World} {s : Shared} {g0 : Heap} {L fa : Addr} {cd : Value} {p : Program} {loose : List Str} {mean : ExcName → Option Value} {mg mb : Str → Option Value} {rest : List Stmt} {Q : Flow → Shared → Prop} {E : Value → Shared → Prop} {mx : Str → Option Value} {k : Int} {t : Tok} {NA WA : Addr} {ys : List Value} {ws : List Str} {vp vk : Option Value} {tl : List (Addr × Obj)}
    (B : Below callerA g0 [] g0) (X : (KF w.params).In g0) (T : Top p loose mean mg mb g0)
    (F : Fr g0 L s.heap (fun y => if y = Str.ofString "words" then some (.ref WA) else if y = Str.ofString "first" then some (.int k t) else if y = Str.ofString "numbers" then some (.ref NA) else mx y))
    (hL : Led g0 L s.heap vp vk tl) (hWA : (WA, LCg.lst ys) ∈ tl) (hst : StrsAre ys ws) (hw : ∀ y ∈ ws, y.length ≤ 4) (h3 : ws.length ≤ 3)
    (h : ∀ h' tk CL vs c tl', Fr g0 L h' (fun y => if y = Str.ofString "cells" then some (.ref CL) else if y = Str.ofString "words" then some (.ref WA) else if y = Str.ofString "first" then some (.int k t) else if y = Str.ofString "numbers" then some (.ref NA) else mx y) → Led g0 L h' vp vk tl' → (∀ q ∈ tl, q ∈ tl') → (CL, W.listOf vs.toArray c) ∈ tl' → CellsIn tl' vs (cellsFrom 0 (wl ws)) → wpAny (model PySem.Challenge.rw_nq0205_01.prog w) (callerA.deeper (envL L fa cd)) (execs (rest) (envL L fa cd)) Q E { s with heap := h', toks := tk }) :
    wpAny (model PySem.Challenge.rw_nq0205_01.prog w) (callerA.deeper (envL L fa cd)) (execs (pc 1 1 ++ rest) (envL L fa cd)) Q E s := by
  revert X; k_fill; intro X
  obtain ⟨op, ok, ps, N, hop, hok, htr, hoff, h7⟩ := hL
  have N1 : News g0 L s.heap ((WA, LCg.lst ys) :: (L + 1 + 1 + 1 + 1, op) :: (L + 1 + 1 + 1, ok) :: (767, tabJ ps) :: tl) := fun q hq => by
    rcases List.mem_cons.mp hq with rfl | hq
    · exact N _ (.tail _ (.tail _ (.tail _ hWA)))
    · exact N q hq
  have nf : ∀ a, s.heap.get? a = none → OffL L a := fun a ha => offL_fresh N ha
  clear N
  k_steps
  rename s.heap.get? _ = none => hn'
  rename CellsIn _ _ _ => hc'
  rename ∀ q ∈ _, q ∈ tl ∨ _ => hf'
  rename ∀ q ∈ tl, q ∈ _ => hs'
  rename Fr g0 L _ _ => F2
  rename News g0 L _ _ => N2
  refine h _ _ _ _ _ _ F2 (Led.of4 N2 hop hok htr h7 (nf _ hn') fun q hq => ?_) (fun q hq => .tail _ (hs' q hq)) (.head _) (CellsIn.sub hc' fun q hq => .tail _ hq)
  rcases hf' q hq with hq | hq
  · exact hoff q hq
  · exact nf _ hq
set_option maxRecDepth 100000 in
set_option maxHeartbeats 4000000 in
theorem turn_bounds {w : World} {s : Shared} {g0 : Heap} {L fa : Addr} {cd : Value} {p : Program} {loose : List Str} {mean : ExcName → Option Value} {mg mb : Str → Option Value} {rest : List Stmt} {Q : Flow → Shared → Prop} {E : Value → Shared → Prop} {mx : Str → Option Value} {k : Int} {t : Tok} {NA WA : Addr} {ys : List Value} {ws : List Str} {vp vk : Option Value} {tl : List (Addr × Obj)} {CL : Addr} {vs : List Value} {c : Nat} {cs : List Cell}
    (B : Below callerA g0 [] g0) (X : (KF w.params).In g0) (T : Top p loose mean mg mb g0)
    (F : Fr g0 L s.heap (fun y => if y = Str.ofString "cells" then some (.ref CL) else if y = Str.ofString "words" then some (.ref WA) else if y = Str.ofString "first" then some (.int k t) else if y = Str.ofString "numbers" then some (.ref NA) else mx y))
    (hL : Led g0 L s.heap vp vk tl) (hCL : (CL, W.listOf vs.toArray c) ∈ tl) (hc : CellsIn tl vs cs) (hn : cs.length ≤ 30)
    (h : ∀ h' tk tb te, Fr g0 L h' (fun y => if y = Str.ofString "end" then some (.int (endC cs : Nat) te) else if y = Str.ofString "begin" then some (.int (begC cs : Nat) tb) else if y = Str.ofString "cells" then some (.ref CL) else if y = Str.ofString "words" then some (.ref WA) else if y = Str.ofString "first" then some (.int k t) else if y = Str.ofString "numbers" then some (.ref NA) else mx y) → Led g0 L h' vp vk tl → wpAny (model PySem.Challenge.rw_nq0205_01.prog w) (callerA.deeper (envL L fa cd)) (execs (rest) (envL L fa cd)) Q E { s with heap := h', toks := tk }) :
    wpAny (model PySem.Challenge.rw_nq0205_01.prog w) (callerA.deeper (envL L fa cd)) (execs (pc 2 1 ++ rest) (envL L fa cd)) Q E s := by
  revert X; k_fill; intro X
  obtain ⟨op, ok, ps, N, hop, hok, htr, hoff, h7⟩ := hL
  have N1 : News g0 L s.heap ((CL, W.listOf vs.toArray c) :: (L + 1 + 1 + 1 + 1, op) :: (L + 1 + 1 + 1, ok) :: (767, tabJ ps) :: tl) := fun q hq => by
    rcases List.mem_cons.mp hq with rfl | hq
    · exact N _ (.tail _ (.tail _ (.tail _ hCL)))
    · exact N q hq
  have hB : CellsB s.heap vs cs := CellsB.of_in (fun q hq => N q (.tail _ (.tail _ (.tail _ hq)))) hc
  clear N
  k_steps
  rename Fr g0 L _ _ => F2
  rename News g0 L _ _ => N2
  refine h _ _ _ _ F2 (Led.intro N2 hop hok htr h7 (fun q hq => ?_) (by simp) (by simp) (by simp) hoff)
  exact .tail _ (.tail _ (.tail _ (.tail _ (.tail _ hq))))
end Mine
end PartF6
theorem Mine.flushF7 : True := by
  w_top off
  trivial
section PartF7
open PySem PySem.W PyProof.Rows PySem.Calls
set_option Elab.async false
set_option linter.unusedVariables false
namespace Mine
theorem kwF7x0 : True := by
  k_with_none
  k_with "size_fits" => first | (with_reducible assumption) | ((try simp only [PySem.Str.length_append, sizeLine_eq]); omega)
  k_with "k_room" => ((try simp only [depth_under_make, depth_under_kw, depth_in1, depth_deeper, depth_caller, depth_mark]); first | omega | decide)
  k_with "k_units" => ((try simp only [units_under_kw, units_in1, units_deeper, units_caller, Around.mark_units]); first | omega | decide)
  k_with "k_all" => (first | (with_reducible assumption) | exact List.forall_mem_nil _ | (refine' List.forall_mem_cons.mpr ⟨?az6b5, ?bz6b5⟩; (case az6b5 => k_ne); (case bz6b5 => k_all)))
  k_with "CompSrc" => (k_here; refine stop_of ?_)
  k_with "CompSrcT" => (k_here; refine stop_of ?_)
  trivial
theorem t_joinN {p : Program} {loose : List Str} {mean : ExcName → Option Value} {mg mb : Str → Option Value} {w : World} {A₀ : Around} {dep un : Nat} {gs : Option (List Code)} {s : Shared} {base h₀ : Heap} {outer : List Env} {nms : List (Str × NameKind)} {ig ic : Bool} {mo : List (Str × Const)} {loc glo bi : Addr} {cel : List (Str × Addr)} {qu : Str} {fn : Option Addr} {cod : Value} {L : Addr} {m : Str → Option Value} {R : Result → Shared → Prop} {WA : Addr} {ys : List Value} {ws : List Str} {op ok : Obj} {ps : Array Value} {tl : List (Addr × Obj)} {k : Nat}
    (B : Below A₀ base outer h₀) (F : Fr h₀ L s.heap m) (X : (KF w.params).In h₀) (N : News h₀ L s.heap ((WA, ({ cls := .type "list", data := .seq ys.toArray k } : Obj)) :: (L + 1 + 1 + 1 + 1, op) :: (L + 1 + 1 + 1, ok) :: (767, tabJ ps) :: tl)) (T : Top p loose mean mg mb h₀) (hroom : dep + 25 < recursionLimit) (hun : un + 75 < cLine)
    (h4 : h₀.get? 4 = some modJ) (htr : TriplesOk ps.toList) (hst : StrsAre ys ws) (hw : ∀ y ∈ ws, y.length ≤ 4) (h3 : ws.length ≤ 3) (hbare : AllBare s.gens) (h7 : 767 < L) (hW : OffL L WA) (hoff : ∀ q ∈ tl, OffL L q.1)
    (h : ∀ s' t' ps', Fr h₀ L s'.heap m → News h₀ L s'.heap ((WA, ({ cls := .type "list", data := .seq ys.toArray k } : Obj)) :: (L + 1 + 1 + 1 + 1, op) :: (L + 1 + 1 + 1, ok) :: (767, tabJ ps') :: tl) → TriplesOk ps'.toList → AllBare s'.gens → s'.os = s.os → R (.ok (.ret (.str (S (flatA (CS ws))) t'))) s') :
    codeAny (model PySem.Challenge.rw_nq0205_01.prog w) ⟨none, dep, some ((⟨⟨.function, nms, ig, ic, mo⟩, loc, glo, cel, qu, fn, cod, some L, bi⟩ : Env) :: outer), gs, un⟩ (.call (.ref 772) ⟨[.ref WA], []⟩) R s := by
  have N1 : News h₀ L s.heap ((767, tabJ ps) :: (WA, ({ cls := .type "list", data := .seq ys.toArray k } : Obj)) :: (L + 1 + 1 + 1 + 1, op) :: (L + 1 + 1 + 1, ok) :: tl) := fun q hq => by
    simp only [List.mem_cons] at hq
    rcases hq with rfl | rfl | rfl | rfl | hq
    · exact N _ (by simp)
    · exact N _ (.head _)
    · exact N _ (by simp)
    · exact N _ (by simp)
    · exact N _ (.tail _ (.tail _ (.tail _ (.tail _ hq))))
  refine t_join B F X N1 T hroom hun h4 htr (W := WA) (items := ys.toArray) (ws := ws) ⟨_, .head _, rfl, _, rfl⟩ hst (fun y hy => Nat.le_trans (hw y hy) (by decide)) h3 hbare (fun q hq => ?_) fun s' t' more F' N' ht hb ho => ?_
  · simp only [List.mem_cons] at hq
    rcases hq with rfl | rfl | rfl | hq
    · exact hW.2.2
    · exact Nat.ne_of_gt (Nat.lt_succ_of_lt (Nat.lt_succ_of_lt (Nat.lt_succ_of_lt (Nat.lt_succ_of_lt h7))))
    · exact Nat.ne_of_gt (Nat.lt_succ_of_lt (Nat.lt_succ_of_lt (Nat.lt_succ_of_lt h7)))
    · exact (hoff q hq).2.2
  · rw [line_isT]
    refine h s' t' _ F' (fun q hq => ?_) ht hb ho
    simp only [List.mem_cons] at hq
    rcases hq with rfl | rfl | rfl | rfl | hq
    · exact N' _ (.tail _ (.head _))
    · exact N' _ (.tail _ (.tail _ (.head _)))
    · exact N' _ (.tail _ (.tail _ (.tail _ (.head _))))
    · exact N' _ (.head _)
    · exact N' _ (.tail _ (.tail _ (.tail _ (.tail _ hq))))
theorem t_nameN {p : Program} {loose : List Str} {mean : ExcName → Option Value} {mg mb : Str → Option Value} {w : World} {A₀ : Around} {dep un : Nat} {gs : Option (List Code)} {s : Shared} {base h₀ : Heap} {outer : List Env} {nms : List (Str × NameKind)} {ig ic : Bool} {mo : List (Str × Const)} {loc glo bi : Addr} {cel : List (Str × Addr)} {qu : Str} {fn : Option Addr} {cod : Value} {L : Addr} {m : Str → Option Value} {R : Result → Shared → Prop} {ws : List Str} {news : List (Addr × Obj)} {t : Tok}
    (B : Below A₀ base outer h₀) (F : Fr h₀ L s.heap m) (X : (KF w.params).In h₀) (N : News h₀ L s.heap news) (T : Top p loose mean mg mb h₀) (hroom : dep + 12 < recursionLimit) (hun : un + 36 < cLine)
    (hw : ∀ y ∈ ws, y.length ≤ 4) (h3 : ws.length ≤ 3)
    (h : ∀ h' tk t', Fr h₀ L h' m → News h₀ L h' news → R (.ok (.ret (.str (S (flatA (keptC (CS ws)))) t'))) { s with heap := h', toks := tk }) :
    codeAny (model PySem.Challenge.rw_nq0205_01.prog w) ⟨none, dep, some ((⟨⟨.function, nms, ig, ic, mo⟩, loc, glo, cel, qu, fn, cod, some L, bi⟩ : Env) :: outer), gs, un⟩ (.call (.ref 107) ⟨[.str (S (flatA (CS ws))) t], []⟩) R s :=
  t_modname B F X N T hroom hun (by rw [S_length, sizeLine_eq]; exact Nat.le_trans (cs_flat hw h3) (by decide)) fun h' tk t' F' N' => by
    rw [name_isT]
    exact h h' tk t' F' N'
theorem kwF7x1 : True := by
  k_with "call ref" => (k_here; (k_dflt (refine wpAny_call ?_; refine' t_joinN ?k1z4e5 ?k2z4e5 ?k3z4e5 ?k4z4e5 ?k5z4e5 ?krz4e5 ?kuz4e5 ?h4z4e5 ?htz4e5 ?hsz4e5 ?hwz4e5 ?h3z4e5 ?hbz4e5 ?h7z4e5 ?hWz4e5 ?hoz4e5 ?_; (case k1z4e5 => k_asm); (case k2z4e5 => k_asm); (case k3z4e5 => k_asm); (case k4z4e5 => k_asm); (case k5z4e5 => k_asm); (case krz4e5 => k_room); (case kuz4e5 => k_units); (case h4z4e5 => assumption); (case htz4e5 => assumption); (case hsz4e5 => assumption); (case hwz4e5 => assumption); (case h3z4e5 => assumption); (case hbz4e5 => assumption); (case h7z4e5 => assumption); (case hWz4e5 => assumption); (case hoz4e5 => assumption))); intro s'z4e5 t'z4e5 ps'z4e5 F'z4e5 N'z4e5 htr'z4e5 hb'z4e5 hos'z4e5; (try dsimp only))
  k_with "call ref" => (k_here; (k_dflt (refine wpAny_call ?_; refine' t_nameN ?k1z513 ?k2z513 ?k3z513 ?k4z513 ?k5z513 ?krz513 ?kuz513 ?hwz513 ?h3z513 ?_; (case k1z513 => k_asm); (case k2z513 => k_asm); (case k3z513 => k_asm); (case k4z513 => k_asm); (case k5z513 => k_asm); (case krz513 => k_room); (case kuz513 => k_units); (case hwz513 => assumption); (case h3z513 => assumption))); intro h'z513 tk'z513 t'z513 F'z513 N'z513; (try dsimp only))
  trivial
noncomputable abbrev keptV (cs : List Cell) (vs : List Value) : List Value := (vs.drop (begC cs)).take (endC cs - begC cs)
set_option maxRecDepth 100000 in
set_option maxHeartbeats 4000000 in
theorem turn_kept {w : World} {s : Shared} {g0 : Heap} {L fa : Addr} {cd : Value} {p : Program} {loose : List Str} {mean : ExcName → Option Value} {mg mb : Str → Option Value} {rest : List Stmt} {Q : Flow → Shared → Prop} {E : Value → Shared → Prop} {mx : Str → Option Value} {k : Int} {t tb te : Tok} {NA WA CL : Addr} {ys : List Value} {ws : List Str} {vp vk : Option Value} {tl : List (Addr × Obj)} {vs : List Value} {c : Nat}
    (B : Below callerA g0 [] g0) (X : (KF w.params).In g0) (T : Top p loose mean mg mb g0)
    (F : Fr g0 L s.heap (fun y => if y = Str.ofString "end" then some (.int (endC (CS ws) : Nat) te) else if y = Str.ofString "begin" then some (.int (begC (CS ws) : Nat) tb) else if y = Str.ofString "cells" then some (.ref CL) else if y = Str.ofString "words" then some (.ref WA) else if y = Str.ofString "first" then some (.int k t) else if y = Str.ofString "numbers" then some (.ref NA) else mx y))
    (hL : Led g0 L s.heap vp vk tl) (hCL : (CL, W.listOf vs.toArray c) ∈ tl) (hc : CellsIn tl vs (CS ws)) (hw : ∀ y ∈ ws, y.length ≤ 4) (h3 : ws.length ≤ 3)
    (h : ∀ h' tk KL tl', Fr g0 L h' (fun y => if y = Str.ofString "end" then some (.int (endC (CS ws) : Nat) te) else if y = Str.ofString "begin" then some (.int (begC (CS ws) : Nat) tb) else if y = Str.ofString "cells" then some (.ref CL) else if y = Str.ofString "words" then some (.ref WA) else if y = Str.ofString "first" then some (.int k t) else if y = Str.ofString "numbers" then some (.ref NA) else mx y) → Led g0 L h' vp (some (.ref KL)) tl' → (∀ q ∈ tl, q ∈ tl') → (KL, W.listOf (keptV (CS ws) vs).toArray 0) ∈ tl' → wpAny (model PySem.Challenge.rw_nq0205_01.prog w) (callerA.deeper (envL L fa cd)) (execs (rest) (envL L fa cd)) Q E { s with heap := h', toks := tk }) :
    wpAny (model PySem.Challenge.rw_nq0205_01.prog w) (callerA.deeper (envL L fa cd)) (execs (pc 3 1 ++ rest) (envL L fa cd)) Q E s := by
  revert X; k_fill; intro X
  obtain ⟨op, ok, ps, N, hop, hok, htr, hoff, h7⟩ := hL
  have N1 : News g0 L s.heap ((CL, W.listOf vs.toArray c) :: (L + 1 + 1 + 1 + 1, op) :: (L + 1 + 1 + 1, ok) :: (767, tabJ ps) :: tl) := fun q hq => by
    rcases List.mem_cons.mp hq with rfl | hq
    · exact N _ (.tail _ (.tail _ (.tail _ hCL)))
    · exact N q hq
  have nf : ∀ a, s.heap.get? a = none → OffL L a := fun a ha => offL_fresh N ha
  have oCL : OffL L CL := hoff _ hCL
  have b1 : @Ne Nat CL (L + 1 + 1 + 1 + 1) := oCL.1
  have b2 : @Ne Nat CL (L + 1 + 1 + 1) := oCL.2.1
  have b3 : @Ne Nat 767 (L + 1 + 1 + 1) := Nat.ne_of_lt (Nat.lt_succ_of_lt (Nat.lt_succ_of_lt (Nat.lt_succ_of_lt h7)))
  have a2 : ∀ q ∈ tl, @Ne Nat q.1 (L + 1 + 1 + 1) := fun q hq => (hoff q hq).2.1
  obtain ⟨bl1, bl2⟩ := bounds_le (CS ws)
  have hvl := hc.length
  have hcl := cs_len hw h3
  have hvs : vs.toArray.size ≤ 100 := by rw [List.size_toArray]; omega
  have hvz : vs.toArray.size ≤ sizeLine := by rw [sizeLine_eq]; omega
  clear N
  k_steps
  have oK : OffL L (s.heap.objs.size + 1) := nf _ (Heap.get?_none_of_le (Nat.le_succ _))
  rename News g0 L _ _ => N2
  generalize (s.heap.objs.size + 1 : Nat) = KL at N2 oK ⊢
  have c1 : @Ne Nat KL (L + 1 + 1 + 1 + 1) := oK.1
  have c2 : @Ne Nat KL (L + 1 + 1 + 1) := oK.2.1
  k_steps
  rename Fr g0 L _ _ => F2
  rename News g0 L _ _ => N2
  have hsl : slicePick vs.toArray (some ((begC (CS ws) : Nat) : Int)) (some ((endC (CS ws) : Nat) : Int)) none = (keptV (CS ws) vs).toArray := slicePick_run _ _ _ (by rw [List.size_toArray]; omega) bl1
  rw [hsl] at N2
  refine h _ _ KL ((KL, W.listOf (keptV (CS ws) vs).toArray 0) :: tl) F2 (Led.intro N2 hop (by assumption) htr h7 (fun q hq => ?_) (by simp) (by simp) (by simp) fun q hq => ?_) (fun q hq => .tail _ hq) (.head _)
  · rcases List.mem_cons.mp hq with rfl | hq
    · exact .head _
    · exact .tail _ (.tail _ (.tail _ (.tail _ (.tail _ hq))))
  · rcases List.mem_cons.mp hq with rfl | hq
    · exact oK
    · exact hoff q hq
set_option maxRecDepth 100000 in
set_option maxHeartbeats 4000000 in
theorem turn_line {w : World} {s : Shared} {g0 : Heap} {L fa : Addr} {cd : Value} {p : Program} {loose : List Str} {mean : ExcName → Option Value} {mg mb : Str → Option Value} {rest : List Stmt} {Q : Flow → Shared → Prop} {E : Value → Shared → Prop} {mx : Str → Option Value} {k : Int} {t tb te : Tok} {NA WA CL : Addr} {ys : List Value} {ws : List Str} {vp vk : Option Value} {tl : List (Addr × Obj)}
    (B : Below callerA g0 [] g0) (X : (KF w.params).In g0) (T : Top p loose mean mg mb g0)
    (F : Fr g0 L s.heap (fun y => if y = Str.ofString "end" then some (.int (endC (CS ws) : Nat) te) else if y = Str.ofString "begin" then some (.int (begC (CS ws) : Nat) tb) else if y = Str.ofString "cells" then some (.ref CL) else if y = Str.ofString "words" then some (.ref WA) else if y = Str.ofString "first" then some (.int k t) else if y = Str.ofString "numbers" then some (.ref NA) else mx y))
    (h4 : g0.get? 4 = some modJ) (hL : Led g0 L s.heap vp vk tl) (hWA : (WA, LCg.lst ys) ∈ tl) (hst : StrsAre ys ws) (hw : ∀ y ∈ ws, y.length ≤ 4) (h3 : ws.length ≤ 3) (hbare : AllBare s.gens)
    (h : ∀ s' tl1, Fr g0 L s'.heap (fun y => if y = Str.ofString "line" then some (.str (S (flatA (CS ws))) tl1) else if y = Str.ofString "end" then some (.int (endC (CS ws) : Nat) te) else if y = Str.ofString "begin" then some (.int (begC (CS ws) : Nat) tb) else if y = Str.ofString "cells" then some (.ref CL) else if y = Str.ofString "words" then some (.ref WA) else if y = Str.ofString "first" then some (.int k t) else if y = Str.ofString "numbers" then some (.ref NA) else mx y) → Led g0 L s'.heap vp vk tl → AllBare s'.gens → s'.os = s.os → wpAny (model PySem.Challenge.rw_nq0205_01.prog w) (callerA.deeper (envL L fa cd)) (execs (rest) (envL L fa cd)) Q E s') :
    wpAny (model PySem.Challenge.rw_nq0205_01.prog w) (callerA.deeper (envL L fa cd)) (execs (pc 4 1 ++ rest) (envL L fa cd)) Q E s := by
  revert X; k_fill; intro X
  obtain ⟨op, ok, ps, N, hop, hok, htr, hoff, h7⟩ := hL
  have N1 : News g0 L s.heap ((WA, LCg.lst ys) :: (L + 1 + 1 + 1 + 1, op) :: (L + 1 + 1 + 1, ok) :: (767, tabJ ps) :: tl) := fun q hq => by
    rcases List.mem_cons.mp hq with rfl | hq
    · exact N _ (.tail _ (.tail _ (.tail _ hWA)))
    · exact N q hq
  have oWA : OffL L WA := hoff _ hWA
  clear N
  k_steps
  rename Fr g0 L _ _ => F2
  rename News g0 L _ _ => N2
  exact h _ _ F2 (Led.intro N2 hop hok (by assumption) h7 (fun q hq => .tail _ (.tail _ (.tail _ (.tail _ hq)))) (by simp) (by simp) (by simp) hoff) (by assumption) (by assumption)
set_option maxRecDepth 100000 in
set_option maxHeartbeats 4000000 in
theorem turn_name {w : World} {s : Shared} {g0 : Heap} {L fa : Addr} {cd : Value} {p : Program} {loose : List Str} {mean : ExcName → Option Value} {mg mb : Str → Option Value} {rest : List Stmt} {Q : Flow → Shared → Prop} {E : Value → Shared → Prop} {mx : Str → Option Value} {k : Int} {t tb te : Tok} {NA WA CL : Addr} {ys : List Value} {ws : List Str} {vp vk : Option Value} {tl : List (Addr × Obj)} {tl1 : Tok}
    (B : Below callerA g0 [] g0) (X : (KF w.params).In g0) (T : Top p loose mean mg mb g0)
    (F : Fr g0 L s.heap (fun y => if y = Str.ofString "line" then some (.str (S (flatA (CS ws))) tl1) else if y = Str.ofString "end" then some (.int (endC (CS ws) : Nat) te) else if y = Str.ofString "begin" then some (.int (begC (CS ws) : Nat) tb) else if y = Str.ofString "cells" then some (.ref CL) else if y = Str.ofString "words" then some (.ref WA) else if y = Str.ofString "first" then some (.int k t) else if y = Str.ofString "numbers" then some (.ref NA) else mx y))
    (hL : Led g0 L s.heap vp vk tl) (hw : ∀ y ∈ ws, y.length ≤ 4) (h3 : ws.length ≤ 3)
    (h : ∀ h' tk tn, Fr g0 L h' (fun y => if y = Str.ofString "name" then some (.str (S (flatA (keptC (CS ws)))) tn) else if y = Str.ofString "line" then some (.str (S (flatA (CS ws))) tl1) else if y = Str.ofString "end" then some (.int (endC (CS ws) : Nat) te) else if y = Str.ofString "begin" then some (.int (begC (CS ws) : Nat) tb) else if y = Str.ofString "cells" then some (.ref CL) else if y = Str.ofString "words" then some (.ref WA) else if y = Str.ofString "first" then some (.int k t) else if y = Str.ofString "numbers" then some (.ref NA) else mx y) → Led g0 L h' vp vk tl → wpAny (model PySem.Challenge.rw_nq0205_01.prog w) (callerA.deeper (envL L fa cd)) (execs (rest) (envL L fa cd)) Q E { s with heap := h', toks := tk }) :
    wpAny (model PySem.Challenge.rw_nq0205_01.prog w) (callerA.deeper (envL L fa cd)) (execs (pc 5 1 ++ rest) (envL L fa cd)) Q E s := by
  revert X; k_fill; intro X
  obtain ⟨op, ok, ps, N, hop, hok, htr, hoff, h7⟩ := hL
  k_steps
  rename Fr g0 L _ _ => F2
  rename News g0 L _ _ => N2
  exact h _ _ _ F2 ⟨op, ok, ps, N2, hop, hok, htr, hoff, h7⟩
end Mine
end PartF7
theorem Mine.flushF8a : True := by
  w_top off
  trivial
section PartF8a
open PySem PySem.W PyProof.Rows PySem.Calls
set_option Elab.async false
namespace Mine
theorem joinE : ∀ l : List (List Nat), Txt.join (Str.ofString "") (l.map S) = S l.flatten := by
  intro l
  refine (StrLaws.glued_eq_join _ _).trans ?_
  induction l with
  | nil => rfl
  | cons x l ih =>
    cases l with
    | nil =>
      show S x = S (x ++ [])
      rw [List.append_nil]
    | cons y l =>
      show S x ++ Str.ofString "" ++ Str.join (Str.ofString "") ((y :: l).map S) = _
      rw [ih, S_nil, S_append, S_append, List.append_nil]
      rfl
theorem ne_strs {prog : Program} {w : World} {A : Around} {E : Value → Shared → Prop} {s : Shared} {l b : Addr} {items items2 : Array Value} {ts : List Str} {Q : Value → Shared → Prop} (hl : s.heap.IsList l items) (hb : s.heap.IsList b items2) (h1 : StrsAre items.toList ts) (h2 : StrsAre items2.toList ts) (hu : A.units < cLine)
    (h : Q (.bool false) s) : wpAny (model prog w) A (compareOp .NotEq (.ref l) (.ref b)) Q E s := by
  have e1 : items.size = ts.length := by rw [← h1.length, Array.length_toList]
  have e2 : items2.size = ts.length := by rw [← h2.length, Array.length_toList]
  refine SeqAt.RcNeAt.lists (e := fun _ => true) hl hb (e1.trans e2.symm) hu (fun j g1 g2 => ?_) prog w E Q (by have e : (List.range items.size).all (fun _ => true) = true := List.all_eq_true.mpr fun _ _ => rfl; rw [e]; exact h)
  obtain ⟨y, t, q1, q2⟩ := h1.get j items[j] (by rw [Array.getElem?_toList]; exact Array.getElem?_eq_getElem g1)
  obtain ⟨y', t', q3, q4⟩ := h2.get j items2[j] (by rw [Array.getElem?_toList]; exact Array.getElem?_eq_getElem g2)
  rw [q1] at q3
  cases q3
  rw [q2, q4]
  have := SeqAt.EqAt.str_str (A := A.in1) (s := s) y t y t'
  rw [beq_self_eq_true] at this
  exact this
/-- a part of a cell of the ledger -/
theorem partN {prog : Program} {w : World} {A : Around} {E : Value → Shared → Prop} {s : Shared} {value slice : PySem.Expr} {h₀ : Heap} {L a : Addr} {o : Obj} {c : Cell} {u : Tok} {Q : Value → Shared → Prop} {led : List (Addr × Obj)} (i : Nat)
    (N : News h₀ L s.heap led) (hm : (a, o) ∈ led) (hc : IsCell o c) (hi : i < 4) (h : ∀ t, Q (partOf c i t) s)
    (hs : subscripted slice false (.ref a) (.int (i : Int) u) = operate [.ref a, .int (i : Int) u] (getItem (.ref a) (.int (i : Int) u)) := by with_unfolding_all rfl) :
    wpAny (model prog w) A (subscriptTail value slice (.ref a) (.int (i : Int) u)) Q E s := by
  obtain ⟨h1, t0, t1, t2, n, h2⟩ := hc
  have hls : s.heap.IsList a #[.str (S c.a) t0, .str (S c.b) t1, .int c.k t2, .bool c.q] := ⟨o, (N _ hm).1, h1, n, h2⟩
  have : i = 0 ∨ i = 1 ∨ i = 2 ∨ i = 3 := by omega
  rcases this with rfl | rfl | rfl | rfl
  · exact tail_any hls.typeIs slot_list_getitem.lookup (wpAny_getItem_list hls (by omega) (by omega) (x := .str (S c.a) t0) rfl (h t0)) hs
  · exact tail_any hls.typeIs slot_list_getitem.lookup (wpAny_getItem_list hls (by omega) (by omega) (x := .str (S c.b) t1) rfl (h t1)) hs
  · exact tail_any hls.typeIs slot_list_getitem.lookup (wpAny_getItem_list hls (by omega) (by omega) (x := .int c.k t2) rfl (h t2)) hs
  · exact tail_any hls.typeIs slot_list_getitem.lookup (wpAny_getItem_list hls (by omega) (by omega) (x := .bool c.q) rfl (h 0)) hs
theorem partN_a {prog : Program} {w : World} {A : Around} {E : Value → Shared → Prop} {s : Shared} {value slice : PySem.Expr} {h₀ : Heap} {L a : Addr} {o : Obj} {c : Cell} {u : Tok} {Q : Value → Shared → Prop} {led : List (Addr × Obj)}
    (N : News h₀ L s.heap led) (hm : (a, o) ∈ led) (hc : IsCell o c) (h : ∀ t : Tok, Q (.str (S c.a) t) s)
    (hs : subscripted slice false (.ref a) (.int 0 u) = operate [.ref a, .int 0 u] (getItem (.ref a) (.int 0 u)) := by with_unfolding_all rfl) :
    wpAny (model prog w) A (subscriptTail value slice (.ref a) (.int 0 u)) Q E s := partN 0 N hm hc (by decide) h hs
theorem partN_b {prog : Program} {w : World} {A : Around} {E : Value → Shared → Prop} {s : Shared} {value slice : PySem.Expr} {h₀ : Heap} {L a : Addr} {o : Obj} {c : Cell} {u : Tok} {Q : Value → Shared → Prop} {led : List (Addr × Obj)}
    (N : News h₀ L s.heap led) (hm : (a, o) ∈ led) (hc : IsCell o c) (h : ∀ t : Tok, Q (.str (S c.b) t) s)
    (hs : subscripted slice false (.ref a) (.int 1 u) = operate [.ref a, .int 1 u] (getItem (.ref a) (.int 1 u)) := by with_unfolding_all rfl) :
    wpAny (model prog w) A (subscriptTail value slice (.ref a) (.int 1 u)) Q E s := partN 1 N hm hc (by decide) h hs
theorem partN_k {prog : Program} {w : World} {A : Around} {E : Value → Shared → Prop} {s : Shared} {value slice : PySem.Expr} {h₀ : Heap} {L a : Addr} {o : Obj} {c : Cell} {u : Tok} {Q : Value → Shared → Prop} {led : List (Addr × Obj)}
    (N : News h₀ L s.heap led) (hm : (a, o) ∈ led) (hc : IsCell o c) (h : ∀ t : Tok, Q (.int c.k t) s)
    (hs : subscripted slice false (.ref a) (.int 2 u) = operate [.ref a, .int 2 u] (getItem (.ref a) (.int 2 u)) := by with_unfolding_all rfl) :
    wpAny (model prog w) A (subscriptTail value slice (.ref a) (.int 2 u)) Q E s := partN 2 N hm hc (by decide) h hs
theorem partN_q {prog : Program} {w : World} {A : Around} {E : Value → Shared → Prop} {s : Shared} {value slice : PySem.Expr} {h₀ : Heap} {L a : Addr} {o : Obj} {c : Cell} {u : Tok} {Q : Value → Shared → Prop} {led : List (Addr × Obj)}
    (N : News h₀ L s.heap led) (hm : (a, o) ∈ led) (hc : IsCell o c) (h : Q (.bool c.q) s)
    (hs : subscripted slice false (.ref a) (.int 3 u) = operate [.ref a, .int 3 u] (getItem (.ref a) (.int 3 u)) := by with_unfolding_all rfl) :
    wpAny (model prog w) A (subscriptTail value slice (.ref a) (.int 3 u)) Q E s := partN 3 N hm hc (by decide) (fun _ => h) hs
theorem CellsIn.drop {tl : List (Addr × Obj)} : ∀ {vs : List Value} {cs : List Cell}, CellsIn tl vs cs → ∀ n, CellsIn tl (vs.drop n) (cs.drop n)
  | _, _, h, 0 => h
  | [], [], _, n + 1 => trivial
  | _ :: _, _ :: _, ⟨_, r⟩, n + 1 => by simpa using CellsIn.drop r n
theorem CellsIn.take {tl : List (Addr × Obj)} : ∀ {vs : List Value} {cs : List Cell}, CellsIn tl vs cs → ∀ n, CellsIn tl (vs.take n) (cs.take n)
  | _, _, _, 0 => by simp [CellsIn]
  | [], [], _, n + 1 => trivial
  | _ :: _, _ :: _, ⟨x, r⟩, n + 1 => ⟨x, CellsIn.take r n⟩
theorem CellsIn.item {tl : List (Addr × Obj)} : ∀ {vs : List Value} {cs : List Cell}, CellsIn tl vs cs → ∀ {i : Nat} {v : Value}, vs[i]? = some v → ∃ c a o, cs[i]? = some c ∧ v = .ref a ∧ (a, o) ∈ tl ∧ IsCell o c
  | _ :: _, _ :: _, ⟨⟨a, o, e, hm, hc⟩, _⟩, 0, v, q => by simp at q; subst q; exact ⟨_, a, o, rfl, e, hm, hc⟩
  | _ :: _, _ :: _, ⟨_, r⟩, i + 1, v, q => by simpa using CellsIn.item r (i := i) (v := v) (by simpa using q)
  | [], [], _, i, v, q => by simp at q
theorem CellsIn.kept {tl : List (Addr × Obj)} {vs : List Value} {cs : List Cell} (h : CellsIn tl vs cs) : CellsIn tl (keptV cs vs) (keptC cs) := (h.drop _).take _
/-- made of the cells so far -/
noncomputable def PartsA (cs : List Cell) (j : Nat) (ys : List Value) : Prop := StrsAre ys (((cs.take j).map (·.a)).map S)
theorem PartsA.snoc {cs : List Cell} {j : Nat} {ys : List Value} {c : Cell} {t : Tok} (h : PartsA cs j ys) (e : cs[j]? = some c) : PartsA cs (j + 1) (ys ++ [.str (S c.a) t]) := by
  unfold PartsA at h ⊢
  rw [List.take_add_one, e]
  simpa using StrsAre.snoc1 h (y := S c.a) (t := t)
theorem rowsStrs : ∀ {vs : List Value} {ys : List Str}, StrsAre vs ys → PyProof.Rows.StrsAre vs ys
  | [], [], _ => .nil
  | _ :: _, _ :: _, ⟨⟨t, e⟩, r⟩ => e ▸ .cons _ t (rowsStrs r)
theorem sum_flat : ∀ ts : List (List Nat), (ts.map List.length).sum = ts.flatten.length
  | [] => rfl
  | x :: ts => by simp
theorem join_parts {prog : Program} {w : World} {A : Around} {E : Value → Shared → Prop} {s : Shared} {h₀ : Heap} {L D : Addr} {ys : List Value} {ts : List (List Nat)} {t : Tok} {news : List (Addr × Obj)} {Q : Value → Shared → Prop} (N : News h₀ L s.heap ((D, LCg.lst ys) :: news)) (hp : StrsAre ys (ts.map S)) (hz : ts.flatten.length + ts.length ≤ 1000)
    (h : ∀ t' k, Q (.str (S ts.flatten) t') { s with toks := k }) : wpAny (model prog w) A (call (.builtin "str.join") [.str (Str.ofString "") t, .ref D]) Q E s := by
  have hs : ((ts.map S).map (·.length)).sum = ts.flatten.length := by
    rw [← sum_flat, List.map_map]
    exact congrArg List.sum (List.map_congr_left fun x _ => S_length x)
  refine join_listW (D := D) (items := ys.toArray) (ys := ts.map S) ⟨_, (N _ (.head _)).1, rfl, _, rfl⟩ (rowsStrs hp) (by decide +kernel) (by rw [hs, List.length_map]; omega) fun t' k => ?_
  rw [joinE]
  exact h t' k
theorem PartsA.all {cs : List Cell} {n : Nat} {ys : List Value} (h : PartsA cs n ys) (hn : cs.length ≤ n) : StrsAre ys ((cs.map (·.a)).map S) := by
  unfold PartsA at h
  rwa [List.take_of_length_le hn] at h
theorem flatA_join (cs : List Cell) : Txt.join (Str.ofString "") ((cs.map (·.a)).map S) = S (flatA cs) := by
  rw [joinE]
  rfl
end Mine
end PartF8a
theorem Mine.flushF8 : True := by
  w_top off
  trivial
section PartF8
open PySem PySem.W PyProof.Rows PySem.Calls
set_option Elab.async false
set_option linter.unusedVariables false
namespace Mine
theorem kwF8x0 : True := by
  k_with_none
  k_with "size_fits" => first | (with_reducible assumption) | ((try simp only [PySem.Str.length_append, sizeLine_eq]); omega)
  k_with "k_room" => ((try simp only [depth_under_make, depth_under_kw, depth_in1, depth_deeper, depth_caller, depth_mark]); first | omega | decide)
  k_with "k_units" => ((try simp only [units_under_kw, units_in1, units_deeper, units_caller, Around.mark_units]); first | omega | decide)
  k_with "k_all" => (first | (with_reducible assumption) | exact List.forall_mem_nil _ | (refine' List.forall_mem_cons.mpr ⟨?az6b5, ?bz6b5⟩; (case az6b5 => k_ne); (case bz6b5 => k_all)))
  k_with "CompSrc" => (k_here; refine stop_of ?_)
  k_with "CompSrcT" => (k_here; refine stop_of ?_)
  k_with "subscriptTail" => (k_here; (with_reducible show wpAny _ _ (subscriptTail _ _ (Value.ref _) (Value.int 0 _)) _ _ _); k_dflt (refine' partN_a ?Nzc97 ?mzc97 ?hczc97 ?_ ?hszc97; (case Nzc97 => k_asm); (case mzc97 => (repeat (first | with_reducible assumption | refine List.mem_cons_of_mem _ ?_))); (case hczc97 => assumption); (case hszc97 => with_unfolding_all rfl)); intro t'zc97; (try dsimp only))
  k_with "subscriptTail" => (k_here; (with_reducible show wpAny _ _ (subscriptTail _ _ (Value.ref _) (Value.int 1 _)) _ _ _); k_dflt (refine' partN_b ?Nz02f ?mz02f ?hcz02f ?_ ?hsz02f; (case Nz02f => k_asm); (case mz02f => (repeat (first | with_reducible assumption | refine List.mem_cons_of_mem _ ?_))); (case hcz02f => assumption); (case hsz02f => with_unfolding_all rfl)); intro t'z02f; (try dsimp only))
  k_with "subscriptTail" => (k_here; (with_reducible show wpAny _ _ (subscriptTail _ _ (Value.ref _) (Value.int 2 _)) _ _ _); k_dflt (refine' partN_k ?Nz3a9 ?mz3a9 ?hcz3a9 ?_ ?hsz3a9; (case Nz3a9 => k_asm); (case mz3a9 => (repeat (first | with_reducible assumption | refine List.mem_cons_of_mem _ ?_))); (case hcz3a9 => assumption); (case hsz3a9 => with_unfolding_all rfl)); intro t'z3a9; (try dsimp only))
  k_with "subscriptTail" => (k_here; (with_reducible show wpAny _ _ (subscriptTail _ _ (Value.ref _) (Value.int 3 _)) _ _ _); k_dflt (refine' partN_q ?Nz29b ?mz29b ?hcz29b ?_ ?hsz29b; (case Nz29b => k_asm); (case mz29b => (repeat (first | with_reducible assumption | refine List.mem_cons_of_mem _ ?_))); (case hcz29b => assumption); (case hsz29b => with_unfolding_all rfl)); (try dsimp only))
  k_with "compareOp NotEq ref ref" => (k_here; refine stop_of ?_)
  k_with "call builtin:str.join" => (k_here; k_dflt (refine' join_parts ?Nz35c ?hpz35c ?hzz35c ?_; (case Nz35c => k_asm); (case hpz35c => assumption); (case hzz35c => assumption)); intro t'z35c k'z35c; (try dsimp only))
  k_with "eval ListComp" => (k_here; k_dflt (refine LCt.ListComp_T (F₀ := by k_asm) (by with_unfolding_all rfl) (by decide) (by rfl) (by decide) (by rfl) ?_))
  k_with "eval ListComp" => (k_here; k_dflt (refine LCg.ListComp_U (F₀ := by k_asm) (by with_unfolding_all rfl) (by decide) (by rfl) (by decide) (by rfl) ?_))
  trivial
set_option maxRecDepth 100000 in
set_option maxHeartbeats 4000000 in
theorem turn_test1 {w : World} {s : Shared} {g0 : Heap} {L fa : Addr} {cd : Value} {p : Program} {loose : List Str} {mean : ExcName → Option Value} {mg mb : Str → Option Value} {rest : List Stmt} {Q : Flow → Shared → Prop} {E : Value → Shared → Prop} {mx : Str → Option Value} {k bn en : Int} {t tb te tl1 tn : Tok} {NA WA CL KL : Addr} {ys vs kvs : List Value} {cs ks : List Cell} {xl xn : Str} {vp vk : Option Value} {tl : List (Addr × Obj)} {c c2 : Nat}
    (B : Below callerA g0 [] g0) (X : (KF w.params).In g0) (T : Top p loose mean mg mb g0)
    (F : Fr g0 L s.heap (fun y => if y = Str.ofString "name" then some (.str xn tn) else if y = Str.ofString "line" then some (.str xl tl1) else if y = Str.ofString "end" then some (.int en te) else if y = Str.ofString "begin" then some (.int bn tb) else if y = Str.ofString "cells" then some (.ref CL) else if y = Str.ofString "words" then some (.ref WA) else if y = Str.ofString "first" then some (.int k t) else if y = Str.ofString "numbers" then some (.ref NA) else mx y))
    (hL : Led g0 L s.heap vp (some (.ref KL)) tl) (hCL : (CL, W.listOf vs.toArray c) ∈ tl) (hKL : (KL, W.listOf kvs.toArray c2) ∈ tl) (hc : CellsIn tl vs cs) (hk : CellsIn tl kvs ks) (hn : cs.length ≤ 30) (hn2 : ks.length ≤ 30) (hf : (flatA cs).length ≤ 200) (hf2 : (flatA ks).length ≤ 200) (hxl : xl = S (flatA cs)) (hxn : xn = S (flatA ks))
    (h : ∀ h' tk, Fr g0 L h' (fun y => if y = Str.ofString "name" then some (.str xn tn) else if y = Str.ofString "line" then some (.str xl tl1) else if y = Str.ofString "end" then some (.int en te) else if y = Str.ofString "begin" then some (.int bn tb) else if y = Str.ofString "cells" then some (.ref CL) else if y = Str.ofString "words" then some (.ref WA) else if y = Str.ofString "first" then some (.int k t) else if y = Str.ofString "numbers" then some (.ref NA) else mx y) → Led g0 L h' vp (some (.ref KL)) tl → wpAny (model PySem.Challenge.rw_nq0205_01.prog w) (callerA.deeper (envL L fa cd)) (execs (rest) (envL L fa cd)) Q E { s with heap := h', toks := tk }) :
    wpAny (model PySem.Challenge.rw_nq0205_01.prog w) (callerA.deeper (envL L fa cd)) (execs (pc 6 1 ++ rest) (envL L fa cd)) Q E s := by
  revert X; k_fill; intro X
  obtain ⟨op, ok, ps, N, hop, hok, htr, hoff, h7⟩ := hL
  have N1 : News g0 L s.heap ((KL, W.listOf kvs.toArray c2) :: (CL, W.listOf vs.toArray c) :: (L + 1 + 1 + 1 + 1, op) :: (L + 1 + 1 + 1, ok) :: (767, tabJ ps) :: tl) := fun q hq => by
    simp only [List.mem_cons] at hq
    rcases hq with rfl | rfl | hq
    · exact N _ (.tail _ (.tail _ (.tail _ hKL)))
    · exact N _ (.tail _ (.tail _ (.tail _ hCL)))
    · exact N q (by simpa only [List.mem_cons] using hq)
  clear N
  k_steps
  refine stop_to ?_
  rename News g0 L _ _ => N2
  refine srcL_keep (fun j ys => StrsAre ys (([flatA cs, flatA ks].take j).map S)) rfl (by assumption) N2 (.head _) (by rw [sizeLine_eq]; show 2 ≤ _; omega) trivial ?step ?fin
  case step =>
    intro i ys v I oI C oC D m₂ h₂ tk E' hv hj hC hx F2 N2 off ne
    have hi : i = 0 ∧ v = .ref CL ∨ i = 1 ∧ v = .ref KL := by
      rcases i with _ | _ | i
      · exact .inl ⟨rfl, (Option.some.inj hv).symm⟩
      · exact .inr ⟨rfl, (Option.some.inj hv).symm⟩
      · simp at hv
    rcases hi with ⟨rfl, rfl⟩ | ⟨rfl, rfl⟩
    · k_steps
      refine stop_to ?_
      rename News g0 L _ _ => N3
      refine srcL_keep (fun j ys => PartsA cs j ys) rfl (by assumption) N3 (by k_mem) ?hz3 trivial ?s3 ?f3
      case hz3 => rw [List.size_toArray, hc.length, sizeLine_eq]; omega
      case s3 =>
        intro i2 ys2 v2 I2 oI2 C2 oC2 D2 m2 h2 tk2 E2 hv2 hj2 hC2 hx2 F2 N2 off2 ne2
        rw [List.getElem?_toArray] at hv2
        obtain ⟨c9, a9, o9, e9, rfl, hm9, hcell⟩ := hc.item hv2
        k_steps
        exact ⟨_, _, rfl, by assumption, by assumption, hj2.snoc e9⟩
      case f3 =>
        intro g2 ys2 hj2 D2 h2 tk2 F2 N2 off2
        have hp9 : StrsAre ys2 ((cs.map (·.a)).map S) := PartsA.all hj2 (by rw [List.size_toArray, hc.length]; exact Nat.le_refl _)
        have hz9 : (cs.map (·.a)).flatten.length + (cs.map (·.a)).length ≤ 1000 := by
          rw [List.length_map]
          have : (cs.map (·.a)).flatten.length = (flatA cs).length := rfl
          omega
        k_steps
        refine ⟨_, _, rfl, by assumption, (fun q hq => (by assumption : News g0 L _ _) q (.tail _ hq)), ?_⟩
        exact StrsAre.snoc1 hj
    · k_steps
      refine stop_to ?_
      rename News g0 L _ _ => N3
      refine srcL_keep (fun j ys => PartsA ks j ys) rfl (by assumption) N3 (by k_mem) ?hz3 trivial ?s3 ?f3
      case hz3 => rw [List.size_toArray, hk.length, sizeLine_eq]; omega
      case s3 =>
        intro i2 ys2 v2 I2 oI2 C2 oC2 D2 m2 h2 tk2 E2 hv2 hj2 hC2 hx2 F2 N2 off2 ne2
        rw [List.getElem?_toArray] at hv2
        obtain ⟨c9, a9, o9, e9, rfl, hm9, hcell⟩ := hk.item hv2
        k_steps
        exact ⟨_, _, rfl, by assumption, by assumption, hj2.snoc e9⟩
      case f3 =>
        intro g2 ys2 hj2 D2 h2 tk2 F2 N2 off2
        have hp9 : StrsAre ys2 ((ks.map (·.a)).map S) := PartsA.all hj2 (by rw [List.size_toArray, hk.length]; exact Nat.le_refl _)
        have hz9 : (ks.map (·.a)).flatten.length + (ks.map (·.a)).length ≤ 1000 := by
          rw [List.length_map]
          have : (ks.map (·.a)).flatten.length = (flatA ks).length := rfl
          omega
        k_steps
        refine ⟨_, _, rfl, by assumption, (fun q hq => (by assumption : News g0 L _ _) q (.tail _ hq)), ?_⟩
        exact StrsAre.snoc1 hj
  case fin =>
    intro g ys hj D h₂ tk F2 N2 off
    k_steps
    refine stop_to ?_
    rename Fr g0 L _ _ => F3
    rename News g0 L _ _ => N3
    refine ne_strs (items := #[.str xl tl1, .str xn tn]) (items2 := ys.toArray) (ts := [flatA cs, flatA ks].map S) ?hl ?hb ?h1 hj ?hu ?go
    case hl => exact ⟨_, (N3 (_, W.listOf #[.str xl tl1, .str xn tn] 0) (by k_mem)).1, rfl, _, rfl⟩
    case hb => exact ⟨_, (N3 (_, LCg.lst ys) (by k_mem)).1, rfl, _, rfl⟩
    case h1 => subst hxl hxn; exact ⟨⟨_, rfl⟩, ⟨_, rfl⟩, trivial⟩
    case hu => k_units
    case go =>
      k_steps
      exact h _ _ F3 (Led.intro N3 hop hok htr h7 (fun q hq => by (repeat (first | exact hq | refine List.mem_cons_of_mem _ ?_))) (by simp) (by simp) (by simp) hoff)
end Mine
end PartF8
theorem Mine.flushF9a : True := by
  w_top off
  trivial
section PartF9a
open PySem PySem.W PyProof.Rows PySem.Calls
set_option Elab.async false
namespace Mine
/-! a comprehension with a test over a range, its variable captured by the element -/
theorem newEnvK {M : Model} {A : Around} {E : Value → Shared → Prop} {s : Shared} {scope : Scope} {globals : Addr} {cl : List (Str × Addr)} {qual : Str} {env : Env} {Q : Env → Shared → Prop}
    (h : Q { scope := scope, locals := s.heap.objs.size, globals := globals, cells := PySem.cellsFrom (s.heap.objs.size + 1) scope.names cl, qual := qual, func := none, code := env.code, frame := env.frame, builtins := env.builtins }
      { s with heap := pushCells (s.heap.push { cls := .type "dict", data := .dict #[] }) scope.names }) :
    wpAny M A (newFunctionEnv scope globals cl [] qual none .none (some env)) Q E s := by
  simp only [newFunctionEnv, Option.isSome_some, if_true]
  refine wpAny_bind (wpAny_alloc ?_)
  refine wpAny_bind (wpAny_layCells _ (fun name kind cells => by cases hkc : kind == NameKind.cell <;> simp [hkc]) _ _ _ _ ?_)
  rw [show ({ s with heap := s.heap.push { cls := .type "dict", data := .dict #[] } } : Shared).heap.objs.size = s.heap.objs.size + 1 from Heap.size_push ..]
  rw [List.forIn_nil]
  exact wpAny_bind (wpAny_pure (wpAny_pure h))
section
variable {prog : Program} {w : World} {A : Around} {E : Value → Shared → Prop} {s : Shared} {h₀ : Heap} {L : Addr} {m : Str → Option Value} {env : Env}
/-- the element and the test, with the variable's cell -/
noncomputable def StepK (prog : Program) (w : World) (A : Around) (h₀ : Heap) (L : Addr) (m : Str → Option Value) (env : Env) (ct elt : Expr) (x : Str) (scope : Scope) (cl : List (Str × Addr)) (s : Shared) (news : List (Addr × Obj)) (a : Int) (n : Nat) (J : Nat → List Value → Prop) : Prop :=
  ∀ i t ys I oI C oC K oK D h tk (E' : Value → Shared → Prop), i < n → J i ys → oK.data = .cell (some (.int (a + (i : Int)) t)) → Fr h₀ L h m → News h₀ L h ((I, oI) :: (C, oC) :: (K, oK) :: (D, LCg.lst ys) :: news) →
      wpAny (model prog w) A (isTrue ct (compEnvC scope ((x, K) :: cl) C env) (eval ct (compEnvC scope ((x, K) :: cl) C env))) (fun ok s' => if ok = true then
        wpAny (model prog w) A (eval elt (compEnvC scope ((x, K) :: cl) C env)) (KeepEl h₀ L m ((I, oI) :: (C, oC) :: (K, oK) :: (D, LCg.lst ys) :: news) (fun y => J (i + 1) (ys ++ [y])) { s with heap := h, toks := tk }) E' s'
        else KeepEl h₀ L m ((I, oI) :: (C, oC) :: (K, oK) :: (D, LCg.lst ys) :: news) (fun _ => J (i + 1) ys) { s with heap := h, toks := tk } Value.none s') E' { s with heap := h, toks := tk }
theorem loopK {ct elt iter : Expr} {x : Str} {px : Pos} {scope : Scope} {cl : List (Str × Addr)} {pos : Pos} {I C K D : Addr} {n : Nat} {a : Int} {news : List (Addr × Obj)} {J : Nat → List Value → Prop} {h₁ : Heap} {tk₁ : Nat} {oK₁ : Obj} {m₁ : Str → Option Value} {R : Result → Shared → Prop}
    (hh : A.handled = none) (hsz : n ≤ sizeLine) (hkind : scope.kind = .function) (hxc : (compEnvC scope ((x, K) :: cl) C env).kindOf x = some .cell)
    (nIC : I ≠ C) (nIK : I ≠ K) (nID : I ≠ D) (nCK : C ≠ K) (nCD : C ≠ D) (nKD : K ≠ D) (hI : ∀ q ∈ news, q.1 ≠ I) (hK : ∀ q ∈ news, q.1 ≠ K) (hD : ∀ q ∈ news, q.1 ≠ D)
    (hL : L ≠ I ∧ L ≠ C ∧ L ≠ K ∧ L ≠ D) (h0I : h₀.get? I = none) (h0C : h₀.get? C = none) (h0K : h₀.get? K = none) (h0D : h₀.get? D = none)
    (hst : IsRangeIter h₁ I a (n : Int) 1) (F : Fr h₀ L h₁ m) (hn : h₁.Ns C m₁) (N : News h₀ L h₁ ((K, oK₁) :: (D, LCg.lst []) :: news)) (hoK : ∃ v, oK₁.data = .cell v) (h0 : J 0 [])
    (step : StepK prog w A h₀ L m env ct elt x scope cl s news a n J)
    (hR : ∀ h tk m' ys oK, Fr h₀ L h m → News h₀ L h ((K, oK) :: (D, LCg.lst ys) :: news) → h.Ns C m' → J n ys → R (.ok .next) { s with heap := h, toks := tk }) :
    codeAny (model prog w) A (.compLoop (.ListComp elt [⟨.Name x px, iter, [ct], 0⟩] scope pos) 0 (.ref I) (.ref D) (compEnvC scope ((x, K) :: cl) C env)) R { s with heap := h₁, toks := tk₁ } := by
  have W := LCg.range_walks (prog := prog) (w := w) (A := A) (I := I) hh a n
  refine codeAny_compLoop_tests
    (fun k s' => ∃ h' tk i ys m' oK, s' = { s with heap := h', toks := tk } ∧ i ≤ n ∧ k = n + 1 - i ∧ ys.length ≤ i ∧ IsRangeIter h' I (a + (i : Nat) * 1) ((n : Int) - (i : Nat)) 1 ∧ Fr h₀ L h' m ∧ h'.Ns C m' ∧ News h₀ L h' ((K, oK) :: (D, LCg.lst ys) :: news) ∧ (∃ v, oK.data = .cell v) ∧ J i ys) ?_ (n + 1)
    ⟨h₁, tk₁, 0, [], m₁, oK₁, rfl, Nat.zero_le _, rfl, Nat.le_refl _, by simpa using hst, F, hn, N, hoK, h0⟩
  rintro k s' ⟨h', tk, i, ys, m', oK, rfl, hi, rfl, hyl, hst', F', hn', N', ⟨v₀, hoK'⟩, hJ⟩
  have frI : ∀ h₂ : Heap, (∀ b o, b ∉ [I] → h'.get? b = some o → h₂.get? b = some o) → Fr h₀ L h₂ m ∧ h₂.Ns C m' ∧ News h₀ L h₂ ((K, oK) :: (D, LCg.lst ys) :: news) := fun h₂ hk =>
    ⟨LCg.fr_but F' hk hL.1 h0I, hn'.at' fun o e => hk _ o (by simpa using Ne.symm nIC) e, LCg.news_but N' hk fun q hq => by
      simp only [List.mem_cons] at hq
      rcases hq with rfl | rfl | hq
      · exact Ne.symm nIK
      · exact Ne.symm nID
      · exact hI q hq⟩
  by_cases hlt : i < n
  · refine W.item i _ _ _ hlt hst' fun v h₂ tk₂ hPv hst₂ hk₂ => ?_
    obtain ⟨t, rfl⟩ := hPv
    obtain ⟨F₂, hn₂, N₂⟩ := frI h₂ hk₂
    refine wpAny_assign_Name (wpAny_storeName_cell (c := K) (v₀ := v₀) (by simp [compEnvC, relabel, hkind]) hxc (by simp [compEnvC]) ⟨oK, (N₂ _ (.head _)).1, hoK'⟩ (fun h₃ hc₃ hs₃ => ?_))
    refine wpAny_tests_one ?_
    obtain ⟨oK₃, eK₃, dK₃⟩ := hc₃
    have hst₃ : IsRangeIter h₃ I (a + ((i + 1 : Nat) : Nat) * 1) ((n : Int) - ((i + 1 : Nat) : Nat)) 1 := W.frame _ _ _ hst₂ fun b hb o e => hs₃.extBut b o (fun q => nIK (by rw [← List.mem_singleton.mp hb]; exact q)) e
    have F₃ : Fr h₀ L h₃ m := F₂.change hs₃ hL.2.2.1.symm h0K
    have hn₃ := hn₂.at' fun o e => hs₃.extBut _ o nCK e
    obtain ⟨oC, heC, hoC⟩ := LCg.ns_obj hn₃
    have heI : h₃.get? I = some _ := hst₃
    have N₃ : News h₀ L h₃ ((I, _) :: (C, oC) :: (K, oK₃) :: (D, LCg.lst ys) :: news) := fun q hq => by
      simp only [List.mem_cons] at hq
      rcases hq with rfl | rfl | rfl | rfl | hq
      · exact ⟨heI, hL.1.symm, h0I⟩
      · exact ⟨heC, hL.2.1.symm, h0C⟩
      · exact ⟨eK₃, hL.2.2.1.symm, h0K⟩
      · have z := N₂ _ (.tail _ (.head _))
        exact ⟨hs₃.extBut _ _ nKD.symm z.1, z.2⟩
      · have z := N₂ _ (.tail _ (.tail _ hq))
        exact ⟨hs₃.extBut _ _ (hK q hq) z.1, z.2⟩
    refine wpAny_mono (step i t ys I _ C oC K oK₃ D h₃ tk₂ _ hlt hJ dK₃ F₃ N₃) (fun ok s₄ h₄ => ?_) fun _ _ e => e
    cases ok with
    | true =>
      simp only [if_true] at h₄ ⊢
      refine wpAny_mono h₄ (fun y s₅ h₅ => ?_) fun _ _ e => e
      obtain ⟨h₆, tk₄, rfl, F₄, N₄, J₄⟩ := h₅
      have zI := (N₄ _ (.head _)).1
      have zC := (N₄ _ (.tail _ (.head _))).1
      have zK := N₄ _ (.tail _ (.tail _ (.head _)))
      have zD := N₄ _ (.tail _ (.tail _ (.tail _ (.head _))))
      refine append_at (hsz := by show ys.toArray.size ≤ sizeLine; rw [List.size_toArray]; exact Nat.le_trans (Nat.le_trans hyl hi) hsz) zD.1 fun h₅ hs₅ hD₅ => ?_
      refine ⟨n + 1 - (i + 1), by omega, h₅, tk₄, i + 1, ys ++ [y], _, oK₃, rfl, hlt, rfl, by rw [List.length_append, List.length_singleton]; exact Nat.succ_le_succ hyl, ?_, F₄.change hs₅ hL.2.2.2.symm h0D, (hoC.ns zC).sameBut hs₅ nCD, fun q hq => ?_, ⟨_, dK₃⟩, J₄⟩
      · have e5 := hs₅.extBut _ _ nID zI
        exact e5
      · simp only [List.mem_cons] at hq
        rcases hq with rfl | rfl | hq
        · exact ⟨hs₅.extBut _ _ nKD zK.1, zK.2⟩
        · exact ⟨hD₅.trans (congrArg some (LCg.lst_snoc ys y)), zD.2⟩
        · have z := N₄ q (.tail _ (.tail _ (.tail _ (.tail _ hq))))
          exact ⟨hs₅.extBut _ _ (hD q hq) z.1, z.2⟩
    | false =>
      simp only [Bool.false_eq_true, if_false] at h₄ ⊢
      obtain ⟨h₆, tk₄, rfl, F₄, N₄, J₄⟩ := h₄
      have zI := (N₄ _ (.head _)).1
      have zC := (N₄ _ (.tail _ (.head _))).1
      exact ⟨n + 1 - (i + 1), by omega, h₆, tk₄, i + 1, ys, _, oK₃, rfl, hlt, rfl, Nat.le_succ_of_le hyl, zI, F₄, hoC.ns zC, fun q hq => N₄ q (.tail _ (.tail _ hq)), ⟨_, dK₃⟩, J₄⟩
  · obtain rfl : i = n := Nat.le_antisymm hi (Nat.not_lt.mp hlt)
    refine W.done _ _ _ hst' fun h₂ tk₂ hk₂ => ?_
    obtain ⟨F₂, hn₂, N₂⟩ := frI h₂ hk₂
    exact hR h₂ tk₂ _ ys oK F₂ N₂ hn₂ hJ
theorem blockK {ct elt iter : Expr} {x : Str} {px : Pos} {scope : Scope} {cl : List (Str × Addr)} {pos : Pos} {RR : Value → Addr → Result → Shared → Prop} {s₁ : Shared} {r : Addr} {a b : Int} {t u v : Tok} {n : Nat} {news : List (Addr × Obj)} {J : Nat → List Value → Prop}
    (hkind : scope.kind = .function) (hxc : ∀ C K, (compEnvC scope ((x, K) :: cl) C env).kindOf x = some .cell) (hpush : ∀ h : Heap, pushCells h scope.names = h.push { cls := .type "cell", data := .cell none }) (hcells : ∀ n : Nat, PySem.cellsFrom n scope.names cl = (x, n) :: cl)
    (hh : A.handled = none) (F : Fr h₀ L s₁.heap m) (N : News h₀ L s₁.heap news) (hr : IsRange s₁.heap r a b 1 t u v) (hsm : Builtin.Range.small a b 1 = true) (hn : Builtin.Range.rangeSize a b 1 = ((n : Nat) : Int)) (hsz : n ≤ sizeLine) (h0 : J 0 [])
    (step : StepK prog w A h₀ L m env ct elt x scope cl s₁ news a n J)
    (fin : ∀ D C h tk m' ys, Fr h₀ L h m → News h₀ L h ((D, LCg.lst ys) :: news) → h.Ns C m' → h₀.get? C = none → C ≠ L → @Ne Nat D C → (∀ q ∈ news, @Ne Nat q.1 C) → (∀ q ∈ news, @Ne Nat q.1 D) → J n ys → RR (.ref D) C (.ok .next) { s₁ with heap := h, toks := tk }) :
    wpAny (model prog w) A (pyIter (.ref r)) (fun it s₂ => wpAny (model prog w) A (newList []) (fun acc s₃ => wpAny (model prog w) A (newFunctionEnv scope env.globals cl [] env.qual none .none (some env)) (fun cenv s₄ =>
      codeAny (model prog w) A (.compStart (.ListComp elt [⟨.Name x px, iter, [ct], 0⟩] scope pos) 0 it acc { cenv with scope := relabel scope env }) (RR acc cenv.locals) s₄) E s₃) E s₂) E s₁ := by
  refine wpAny_pyIter_range hr hsm ?_
  rw [hn]
  refine wpAny_newObj_type (newEnvK ?_)
  rw [hpush, hcells]
  dsimp only
  have hLs : L < s₁.heap.objs.size := F.ns.lt
  rw [Heap.size_push, Heap.size_push]
  generalize hP1 : s₁.heap.push { cls := .type "range_iterator", data := .fields #[rawInt a, rawInt ((n : Nat) : Int), rawInt 1] } = P1
  have s1 : P1.objs.size = s₁.heap.objs.size + 1 := by rw [← hP1, Heap.size_push]
  generalize hP2 : P1.push { cls := .type "list", data := .seq ([] : List Value).toArray } = P2
  have s2 : P2.objs.size = s₁.heap.objs.size + 2 := by rw [← hP2, Heap.size_push, s1]
  generalize hP3 : P2.push { cls := .type "dict", data := .dict #[] } = P3
  have s3 : P3.objs.size = s₁.heap.objs.size + 3 := by rw [← hP3, Heap.size_push, s2]
  have u1 : ∀ b o, s₁.heap.get? b = some o → P1.get? b = some o := fun b o e => hP1 ▸ Heap.get?_push_of_some _ e
  have u2 : ∀ b o, P1.get? b = some o → P2.get? b = some o := fun b o e => hP2 ▸ Heap.get?_push_of_some _ e
  have u3 : ∀ b o, P2.get? b = some o → P3.get? b = some o := fun b o e => hP3 ▸ Heap.get?_push_of_some _ e
  have u4 : ∀ b o, P3.get? b = some o → (P3.push { cls := .type "cell", data := .cell none }).get? b = some o := fun b o e => Heap.get?_push_of_some _ e
  have old : ∀ b o, s₁.heap.get? b = some o → (P3.push { cls := .type "cell", data := .cell none }).get? b = some o := fun b o e => u4 _ _ (u3 _ _ (u2 _ _ (u1 _ _ e)))
  have gI : (P3.push { cls := .type "cell", data := .cell none }).get? s₁.heap.objs.size = some { cls := .type "range_iterator", data := .fields #[rawInt a, rawInt ((n : Nat) : Int), rawInt 1] } := u4 _ _ (u3 _ _ (u2 _ _ (hP1 ▸ Heap.get?_push_size _ rfl)))
  have gD : (P3.push { cls := .type "cell", data := .cell none }).get? (s₁.heap.objs.size + 1) = some (LCg.lst []) := u4 _ _ (u3 _ _ (hP2 ▸ s1 ▸ Heap.get?_push_size _ rfl))
  have gC : P3.Ns P2.objs.size (fun _ => none) := by rw [← hP3]; exact Heap.Ns.new P2 (.type "dict")
  have gK : (P3.push { cls := .type "cell", data := .cell none }).get? (s₁.heap.objs.size + 3) = some { cls := .type "cell", data := .cell none } := s3 ▸ Heap.get?_push_size _ rfl
  have fresh₀ : ∀ a, s₁.heap.objs.size ≤ a → h₀.get? a = none := fun a ha => Heap.get?_none_of_le (Nat.le_trans (Nat.le_trans F.above (Nat.le_of_lt hLs)) ha)
  have nq : ∀ q ∈ news, q.1 < s₁.heap.objs.size := fun q hq => Heap.lt_size (N q hq).1
  have lp := loopK (prog := prog) (w := w) (A := A) (s := s₁) (h₀ := h₀) (L := L) (m := m) (env := env) (ct := ct) (elt := elt) (iter := iter) (x := x) (px := px) (scope := scope) (cl := cl) (pos := pos) (I := s₁.heap.objs.size) (C := s₁.heap.objs.size + 2) (K := s₁.heap.objs.size + 3) (D := s₁.heap.objs.size + 1)
    (n := n) (a := a) (news := news) (J := J) (h₁ := P3.push { cls := .type "cell", data := .cell none }) (tk₁ := s₁.toks) (R := RR (.ref (s₁.heap.objs.size + 1)) (s₁.heap.objs.size + 2))
    hh hsz hkind (hxc _ _) (Nat.ne_of_lt (by omega)) (Nat.ne_of_lt (by omega)) (Nat.ne_of_lt (by omega)) (Nat.ne_of_lt (by omega)) (Nat.ne_of_gt (by omega)) (Nat.ne_of_gt (by omega))
    (fun q hq => Nat.ne_of_lt (nq q hq)) (fun q hq => Nat.ne_of_lt (Nat.lt_of_lt_of_le (nq q hq) (by omega))) (fun q hq => Nat.ne_of_lt (Nat.lt_of_lt_of_le (nq q hq) (by omega)))
    ⟨Nat.ne_of_lt hLs, Nat.ne_of_lt (Nat.lt_of_lt_of_le hLs (by omega)), Nat.ne_of_lt (Nat.lt_of_lt_of_le hLs (by omega)), Nat.ne_of_lt (Nat.lt_of_lt_of_le hLs (by omega))⟩ (fresh₀ _ (Nat.le_refl _)) (fresh₀ _ (by omega)) (fresh₀ _ (by omega)) (fresh₀ _ (by omega))
    gI (F.keeps old) (s2 ▸ gC.keeps u4) (fun q hq => by
      simp only [List.mem_cons] at hq
      rcases hq with rfl | rfl | hq
      · exact ⟨gK, Nat.ne_of_gt (Nat.lt_of_lt_of_le hLs (by omega)), fresh₀ _ (by omega)⟩
      · exact ⟨gD, Nat.ne_of_gt (Nat.lt_of_lt_of_le hLs (by omega)), fresh₀ _ (by omega)⟩
      · exact ⟨old _ _ (N q hq).1, (N q hq).2⟩) ⟨_, rfl⟩ h0 step ?_
  · rw [s1]
    exact codeAny_compStart_list lp (wpAny_pyIter_rangeiter gI lp)
  · intro h' tk' m' ys oK F' N' hn' hJ
    exact fin _ _ h' tk' m' ys F' (fun q hq => N' q (.tail _ hq)) hn' (fresh₀ _ (by omega)) (Nat.ne_of_gt (Nat.lt_of_lt_of_le hLs (by omega))) (Nat.ne_of_lt (by show s₁.heap.objs.size + 1 < _; omega)) (fun q hq => Nat.ne_of_lt (Nat.lt_of_lt_of_le (nq q hq) (by omega))) (fun q hq => Nat.ne_of_lt (Nat.lt_of_lt_of_le (nq q hq) (by omega))) hJ
/-- the source of such a comprehension -/
noncomputable def SrcK (prog : Program) (w : World) (A : Around) (h₀ : Heap) (L : Addr) (m : Str → Option Value) (env : Env) (ct elt : Expr) (x : Str) (scope : Scope) (cl : List (Str × Addr)) (Q : Value → Shared → Prop) (xv : Value) (s₁ : Shared) : Prop :=
  ∃ r a b t u v n news J, xv = .ref r ∧ A.handled = none ∧ Fr h₀ L s₁.heap m ∧ News h₀ L s₁.heap news ∧ IsRange s₁.heap r a b 1 t u v ∧ Builtin.Range.small a b 1 = true ∧ Builtin.Range.rangeSize a b 1 = ((n : Nat) : Int) ∧ n ≤ sizeLine ∧ J 0 [] ∧
    StepK prog w A h₀ L m env ct elt x scope cl s₁ news a n J ∧ ∀ D h tk ys, J n ys → Fr h₀ L h m → News h₀ L h ((D, LCg.lst ys) :: news) → (∀ q ∈ news, @Ne Nat q.1 D) → Q (.ref D) { s₁ with heap := h, toks := tk }
theorem ListComp_cell {ct elt iter : Expr} {x : Str} {px : Pos} {scope : Scope} {cl : List (Str × Addr)} {pos : Pos} {Q : Value → Shared → Prop} (_F₀ : Fr h₀ L s.heap m)
    (hclos : closureFor scope env = pure cl) (hkind : scope.kind = .function) (hnames : ∀ y ∈ scope.names, y.2 = .local → scope.names.lookup y.1 = some .local)
    (hxc : ∀ C K, (compEnvC scope ((x, K) :: cl) C env).kindOf x = some .cell) (hpush : ∀ h : Heap, pushCells h scope.names = h.push { cls := .type "cell", data := .cell none }) (hcells : ∀ n : Nat, PySem.cellsFrom n scope.names cl = (x, n) :: cl)
    (h : wpAny (model prog w) A (eval iter env) (SrcK prog w A h₀ L m env ct elt x scope cl Q) E s)
    (hs : ∀ x, foldedSetIterable iter env x = pure x := by intro _; rfl) :
    wpAny (model prog w) A (eval (.ListComp elt [⟨.Name x px, iter, [ct], 0⟩] scope pos) env) Q E s := by
  rw [eval_ListComp]
  refine wpAny_comprehension_free (use := none) rfl hs hclos hkind hnames (wpAny_mono h (fun xv s₁ h₁ => ?_) fun _ _ e => e)
  obtain ⟨r, a, b, t, u, v, n, news, J, rfl, hh, F, N, hr, hsm, hn, hsz, h0, step, fin⟩ := h₁
  refine blockK (RR := fun acc C => compPost (model prog w) A E none Q acc C) hkind hxc hpush hcells hh F N hr hsm hn hsz h0 step ?_
  intro D C h' tk' m' ys F' N' hn' hC0 hCL hDC offC offD hJ
  refine ⟨m', hn', fun h'' hs'' => fin _ h'' tk' ys hJ (F'.change hs'' hCL hC0) (fun q hq => ?_) offD⟩
  have z := N' q hq
  refine ⟨hs''.extBut _ _ ?_ z.1, z.2⟩
  rcases List.mem_cons.mp hq with rfl | hq
  · exact hDC
  · exact offC q hq
/-- the same, its list stored into a name at once -/
noncomputable def SrcKA (prog : Program) (w : World) (A : Around) (h₀ : Heap) (L : Addr) (m : Str → Option Value) (env : Env) (ct elt : Expr) (x y : Str) (scope : Scope) (cl : List (Str × Addr)) (Q : Flow → Shared → Prop) (xv : Value) (s₁ : Shared) : Prop :=
  ∃ r a b t u v n news J, xv = .ref r ∧ A.handled = none ∧ Fr h₀ L s₁.heap m ∧ News h₀ L s₁.heap news ∧ IsRange s₁.heap r a b 1 t u v ∧ Builtin.Range.small a b 1 = true ∧ Builtin.Range.rangeSize a b 1 = ((n : Nat) : Int) ∧ n ≤ sizeLine ∧ J 0 [] ∧
    StepK prog w A h₀ L m env ct elt x scope cl s₁ news a n J ∧ ∀ D h tk ys, J n ys → Fr h₀ L h (fun z => if z = y then some (.ref D) else m z) → News h₀ L h ((D, LCg.lst ys) :: news) → (∀ q ∈ news, @Ne Nat q.1 D) → Q .next { s₁ with heap := h, toks := tk }
theorem Assign_ListComp_cell {ct elt iter : Expr} {x y : Str} {px py : Pos} {scope : Scope} {cl : List (Str × Addr)} {pos spos : Pos} {Q : Flow → Shared → Prop} (_F₀ : Fr h₀ L s.heap m) (hLe : env.locals = L)
    (hsw : swapsWith (.ListComp elt [⟨.Name x px, iter, [ct], 0⟩] scope pos) (some (.Name y py)) spos.line env = pure true)
    (hclos : closureFor scope env = pure cl) (hkind : scope.kind = .function) (hnames : ∀ z ∈ scope.names, z.2 = .local → scope.names.lookup z.1 = some .local)
    (hxc : ∀ C K, (compEnvC scope ((x, K) :: cl) C env).kindOf x = some .cell) (hpush : ∀ h : Heap, pushCells h scope.names = h.push { cls := .type "cell", data := .cell none }) (hcells : ∀ n : Nat, PySem.cellsFrom n scope.names cl = (x, n) :: cl)
    (hy : env.kindOf y = some .local) (hp : (env.scope.kind == .class || (env.scope.kind == .module && env.locals != env.globals)) = false)
    (h : wpAny (model prog w) A (eval iter env) (SrcKA prog w A h₀ L m env ct elt x y scope cl Q) E s)
    (hs : ∀ x, foldedSetIterable iter env x = pure x := by intro _; rfl) :
    wpAny (model prog w) A (exec (.Assign [.Name y py] (.ListComp elt [⟨.Name x px, iter, [ct], 0⟩] scope pos) spos) env) Q E s := by
  subst hLe
  rw [exec_Assign_Name_used _ _ _ _ hsw]
  refine wpAny_bind (wpAny_standAt (wpAny_bind ?_))
  show wpAny _ A (do let _ ← comprehension (.ListComp elt [⟨.Name x px, iter, [ct], 0⟩] scope pos) scope env _ (newList []) false (eval iter env) (some (assign (.Name y py) env))) _ _ s
  refine wpAny_bind (wpAny_mono (wpAny_comprehension_free (use := some (assign (.Name y py) env)) (Q := fun _ s' => Q .next s') rfl hs hclos hkind hnames
    (wpAny_mono h (fun xv s₁ h₁ => ?_) fun _ _ e => e)) (fun _ s' hq => wpAny_pure (wpAny_pure hq)) fun _ _ e => e)
  obtain ⟨r, a, b, t, u, v, n, news, J, rfl, hh, F, N, hr, hsm, hn, hsz, h0, step, fin⟩ := h₁
  refine blockK (RR := fun acc C => compPost (model prog w) A E (some (assign (.Name y py) env)) (fun _ s' => Q .next s') acc C) hkind hxc hpush hcells hh F N hr hsm hn hsz h0 step ?_
  intro D C h' tk' m' ys F' N' hn' hC₀ hCL hDC offC offD hJ
  show wpAny _ A (assign (.Name y py) env (.ref D)) _ _ _
  refine wpAny_assign_Name (wpAny_storeName_local hy F'.ns (fun h₂ hn₂ hs₂ => ?_) hp)
  have hL₀ : h₀.get? env.locals = none := Heap.get?_none_of_le F'.above
  have F₂ : Fr h₀ env.locals h₂ (fun z => if z = y then some (.ref D) else m z) := ⟨hn₂, fun b o e => hs₂.extBut b o (fun q => by rw [q, hL₀] at e; cases e) (F'.keep b o e), F'.above⟩
  refine ⟨m', hn'.sameBut hs₂ hCL, fun h'' hs'' => fin D h'' _ ys hJ (F₂.change hs'' hCL hC₀) (fun q hq => ?_) offD⟩
  have z : h₂.get? q.1 = some q.2 := hs₂.extBut _ _ (N' q hq).2.1 (N' q hq).1
  refine ⟨hs''.extBut _ _ ?_ z, (N' q hq).2⟩
  rcases List.mem_cons.mp hq with rfl | hq
  · exact hDC
  · exact offC q hq
end
end Mine
end PartF9a
theorem Mine.flushF9 : True := by
  w_top off
  trivial
section PartF9
open PySem PySem.W PyProof.Rows PySem.Calls
set_option Elab.async false
set_option linter.unusedVariables false
namespace Mine
theorem kwF9x0 : True := by
  k_with_none
  k_with "size_fits" => first | (with_reducible assumption) | ((try simp only [PySem.Str.length_append, sizeLine_eq]); omega)
  k_with "k_room" => ((try simp only [depth_under_make, depth_under_kw, depth_in1, depth_deeper, depth_caller, depth_mark]); first | omega | decide)
  k_with "k_units" => ((try simp only [units_under_kw, units_in1, units_deeper, units_caller, Around.mark_units]); first | omega | decide)
  k_with "k_all" => (first | (with_reducible assumption) | exact List.forall_mem_nil _ | (refine' List.forall_mem_cons.mpr ⟨?az6b5, ?bz6b5⟩; (case az6b5 => k_ne); (case bz6b5 => k_all)))
  k_with "CompSrc" => (k_here; refine stop_of ?_)
  k_with "CompSrcT" => (k_here; refine stop_of ?_)
  k_with "subscriptTail" => (k_here; (with_reducible show wpAny _ _ (subscriptTail _ _ (Value.ref _) (Value.int 0 _)) _ _ _); k_dflt (refine' partN_a ?Nzc97 ?mzc97 ?hczc97 ?_ ?hszc97; (case Nzc97 => k_asm); (case mzc97 => (repeat (first | with_reducible assumption | refine List.mem_cons_of_mem _ ?_))); (case hczc97 => assumption); (case hszc97 => with_unfolding_all rfl)); intro t'zc97; (try dsimp only))
  k_with "subscriptTail" => (k_here; (with_reducible show wpAny _ _ (subscriptTail _ _ (Value.ref _) (Value.int 1 _)) _ _ _); k_dflt (refine' partN_b ?Nz02f ?mz02f ?hcz02f ?_ ?hsz02f; (case Nz02f => k_asm); (case mz02f => (repeat (first | with_reducible assumption | refine List.mem_cons_of_mem _ ?_))); (case hcz02f => assumption); (case hsz02f => with_unfolding_all rfl)); intro t'z02f; (try dsimp only))
  k_with "subscriptTail" => (k_here; (with_reducible show wpAny _ _ (subscriptTail _ _ (Value.ref _) (Value.int 2 _)) _ _ _); k_dflt (refine' partN_k ?Nz3a9 ?mz3a9 ?hcz3a9 ?_ ?hsz3a9; (case Nz3a9 => k_asm); (case mz3a9 => (repeat (first | with_reducible assumption | refine List.mem_cons_of_mem _ ?_))); (case hcz3a9 => assumption); (case hsz3a9 => with_unfolding_all rfl)); intro t'z3a9; (try dsimp only))
  k_with "subscriptTail" => (k_here; (with_reducible show wpAny _ _ (subscriptTail _ _ (Value.ref _) (Value.int 3 _)) _ _ _); k_dflt (refine' partN_q ?Nz29b ?mz29b ?hcz29b ?_ ?hsz29b; (case Nz29b => k_asm); (case mz29b => (repeat (first | with_reducible assumption | refine List.mem_cons_of_mem _ ?_))); (case hcz29b => assumption); (case hsz29b => with_unfolding_all rfl)); (try dsimp only))
  k_with "compareOp NotEq ref ref" => (k_here; refine stop_of ?_)
  k_with "call builtin:str.join" => (k_here; k_dflt (refine' join_parts ?Nz35c ?hpz35c ?hzz35c ?_; (case Nz35c => k_asm); (case hpz35c => assumption); (case hzz35c => assumption)); intro t'z35c k'z35c; (try dsimp only))
  k_with "eval ListComp" => (k_here; k_dflt (refine LCt.ListComp_T (F₀ := by k_asm) (by with_unfolding_all rfl) (by decide) (by rfl) (by decide) (by rfl) ?_))
  k_with "eval ListComp" => (k_here; k_dflt (refine LCg.ListComp_U (F₀ := by k_asm) (by with_unfolding_all rfl) (by decide) (by rfl) (by decide) (by rfl) ?_))
  trivial
noncomputable def PartsK (cs : List Cell) (j : Nat) (ys : List Value) : Prop := IntsAre ys ((cs.take j).map (·.k))
theorem PartsK.snoc {cs : List Cell} {j : Nat} {ys : List Value} {c : Cell} {t : Tok} (h : PartsK cs j ys) (e : cs[j]? = some c) : PartsK cs (j + 1) (ys ++ [.int c.k t]) := by
  unfold PartsK at h ⊢
  rw [List.take_add_one, e]
  simpa using IntsAre.snoc1 h (n := c.k) (t := t)
set_option maxRecDepth 100000 in
set_option maxHeartbeats 4000000 in
theorem turn_places {w : World} {s : Shared} {g0 : Heap} {L fa : Addr} {cd : Value} {p : Program} {loose : List Str} {mean : ExcName → Option Value} {mg mb : Str → Option Value} {rest : List Stmt} {Q : Flow → Shared → Prop} {E : Value → Shared → Prop} {mx : Str → Option Value} {k bn en : Int} {t tb te tl1 tn : Tok} {NA WA CL KL : Addr} {ys vs kvs : List Value} {cs ks : List Cell} {xl xn : Str} {vp vk : Option Value} {tl : List (Addr × Obj)} {c c2 : Nat}
    (B : Below callerA g0 [] g0) (X : (KF w.params).In g0) (T : Top p loose mean mg mb g0)
    (F : Fr g0 L s.heap (fun y => if y = Str.ofString "name" then some (.str xn tn) else if y = Str.ofString "line" then some (.str xl tl1) else if y = Str.ofString "end" then some (.int en te) else if y = Str.ofString "begin" then some (.int bn tb) else if y = Str.ofString "cells" then some (.ref CL) else if y = Str.ofString "words" then some (.ref WA) else if y = Str.ofString "first" then some (.int k t) else if y = Str.ofString "numbers" then some (.ref NA) else mx y))
    (hL : Led g0 L s.heap vp (some (.ref KL)) tl) (hKL : (KL, W.listOf kvs.toArray c2) ∈ tl) (hk : CellsIn tl kvs ks) (hn2 : ks.length ≤ 30)
    (h : ∀ h' tk PL zs tl', Fr g0 L h' (fun y => if y = Str.ofString "name" then some (.str xn tn) else if y = Str.ofString "line" then some (.str xl tl1) else if y = Str.ofString "end" then some (.int en te) else if y = Str.ofString "begin" then some (.int bn tb) else if y = Str.ofString "cells" then some (.ref CL) else if y = Str.ofString "words" then some (.ref WA) else if y = Str.ofString "first" then some (.int k t) else if y = Str.ofString "numbers" then some (.ref NA) else mx y) → Led g0 L h' (some (.ref PL)) (some (.ref KL)) tl' → (∀ q ∈ tl, q ∈ tl') → (PL, LCg.lst zs) ∈ tl' → IntsAre zs (ks.map (·.k)) → wpAny (model PySem.Challenge.rw_nq0205_01.prog w) (callerA.deeper (envL L fa cd)) (execs (rest) (envL L fa cd)) Q E { s with heap := h', toks := tk }) :
    wpAny (model PySem.Challenge.rw_nq0205_01.prog w) (callerA.deeper (envL L fa cd)) (execs (pc 7 1 ++ rest) (envL L fa cd)) Q E s := by
  revert X; k_fill; intro X
  obtain ⟨op, ok, ps, N, hop, hok, htr, hoff, h7⟩ := hL
  have N1 : News g0 L s.heap ((KL, W.listOf kvs.toArray c2) :: (L + 1 + 1 + 1 + 1, op) :: (L + 1 + 1 + 1, ok) :: (767, tabJ ps) :: tl) := fun q hq => by
    simp only [List.mem_cons] at hq
    rcases hq with rfl | hq
    · exact N _ (.tail _ (.tail _ (.tail _ hKL)))
    · exact N q (by simpa only [List.mem_cons] using hq)
  have oKL : OffL L KL := hoff _ hKL
  have b1 : @Ne Nat KL (L + 1 + 1 + 1 + 1) := oKL.1
  have b3 : @Ne Nat 767 (L + 1 + 1 + 1 + 1) := Nat.ne_of_lt (Nat.lt_succ_of_lt (Nat.lt_succ_of_lt (Nat.lt_succ_of_lt (Nat.lt_succ_of_lt h7))))
  have a2 : ∀ q ∈ tl, @Ne Nat q.1 (L + 1 + 1 + 1 + 1) := fun q hq => (hoff q hq).1
  clear N
  k_steps
  refine stop_to ?_
  rename News g0 L _ _ => N2
  refine srcL_keep (fun j ys => PartsK ks j ys) rfl (by assumption) N2 (by k_mem) ?hz3 .nil ?s3 ?f3
  case hz3 => rw [List.size_toArray, hk.length, sizeLine_eq]; omega
  case s3 =>
    intro i2 ys2 v2 I2 oI2 C2 oC2 D2 m2 h2 tk2 E2 hv2 hj2 hC2 hx2 F2 N2 off2 ne2
    rw [List.getElem?_toArray] at hv2
    obtain ⟨c9, a9, o9, e9, rfl, hm9, hcell⟩ := hk.item hv2
    k_steps
    exact ⟨_, _, rfl, by assumption, by assumption, hj2.snoc e9⟩
  case f3 =>
    intro g2 zs hj2 D2 h2 tk2 F2 N2 off2
    have o1 := off1_of off2
    have oD : OffL L D2 := ⟨(o1 _ (.tail _ (.head _))).symm, (o1 _ (.tail _ (.tail _ (.head _)))).symm, (o1 _ (.tail _ (.tail _ (.tail _ (.head _))))).symm⟩
    have c1 : @Ne Nat D2 (L + 1 + 1 + 1 + 1) := oD.1
    have hz9 : IntsAre zs (ks.map (·.k)) := by
      have := hj2
      unfold PartsK at this
      rwa [List.size_toArray, hk.length, List.take_length] at this
    k_steps
    rename Fr g0 L _ _ => F3
    rename News g0 L _ _ => N3
    refine h _ _ D2 zs ((D2, LCg.lst zs) :: tl) F3 (Led.intro N3 (by assumption) hok htr h7 (fun q hq => ?_) (by simp) (by simp) (by simp) fun q hq => ?_) (fun q hq => .tail _ hq) (.head _) hz9
    · rcases List.mem_cons.mp hq with rfl | hq
      · exact .head _
      · exact .tail _ (.tail _ (.tail _ (.tail _ (.tail _ hq))))
    · rcases List.mem_cons.mp hq with rfl | hq
      · exact oD
      · exact hoff q hq
end Mine
end PartF9
theorem Mine.flushF10 : True := by
  w_top off
  trivial
section PartF10
open PySem PySem.W PyProof.Rows PySem.Calls
set_option Elab.async false
set_option linter.unusedVariables false
namespace Mine
theorem kwF10x0 : True := by
  k_with_none
  k_with "size_fits" => first | (with_reducible assumption) | ((try simp only [PySem.Str.length_append, sizeLine_eq]); omega)
  k_with "k_room" => ((try simp only [depth_under_make, depth_under_kw, depth_in1, depth_deeper, depth_caller, depth_mark]); first | omega | decide)
  k_with "k_units" => ((try simp only [units_under_kw, units_in1, units_deeper, units_caller, Around.mark_units]); first | omega | decide)
  k_with "k_all" => (first | (with_reducible assumption) | exact List.forall_mem_nil _ | (refine' List.forall_mem_cons.mpr ⟨?az6b5, ?bz6b5⟩; (case az6b5 => k_ne); (case bz6b5 => k_all)))
  k_with "CompSrc" => (k_here; refine stop_of ?_)
  k_with "CompSrcT" => (k_here; refine stop_of ?_)
  trivial
theorem len_led {prog : Program} {w : World} {A : Around} {E : Value → Shared → Prop} {s : Shared} {h₀ : Heap} {L l : Addr} {ys : List Value} {news : List (Addr × Obj)} {k : Nat} {Q : Value → Shared → Prop} (N : News h₀ L s.heap news) (hm : (l, ({ cls := .type "list", data := .seq ys.toArray k } : Obj)) ∈ news) (hz : ys.length ≤ 1000)
    (h : Q (.int ys.toArray.size (s.toks + 1)) { s with toks := s.toks + 1 + 1 }) : wpAny (model prog w) A (call (.builtin "len") [.ref l]) Q E s :=
  len_list ⟨_, (N _ hm).1, rfl, k, rfl⟩ (by rw [List.size_toArray]; omega) h
theorem in_led {prog : Program} {w : World} {A : Around} {E : Value → Shared → Prop} {s : Shared} {h₀ : Heap} {L l : Addr} {ys : List Value} {ns : List Int} {news : List (Addr × Obj)} {k : Nat} {i : Int} {t : Tok} {Q : Value → Shared → Prop} (N : News h₀ L s.heap news) (hm : (l, ({ cls := .type "list", data := .seq ys.toArray k } : Obj)) ∈ news) (hi : IntsAre ys ns)
    (h : Q (.bool (ns.any (· == i))) s) : wpAny (model prog w) A (compareOp .In (.int i t) (.ref l)) Q E s :=
  in_list_ints ⟨_, (N _ hm).1, rfl, k, rfl⟩ hi h
theorem kwF10x1 : True := by
  k_with "subscriptTail" => (k_here; (with_reducible show wpAny _ _ (subscriptTail _ _ (Value.ref _) (Value.int 0 _)) _ _ _); k_dflt (refine' partN_a ?Nzc97 ?mzc97 ?hczc97 ?_ ?hszc97; (case Nzc97 => k_asm); (case mzc97 => (repeat (first | with_reducible assumption | refine List.mem_cons_of_mem _ ?_))); (case hczc97 => assumption); (case hszc97 => with_unfolding_all rfl)); intro t'zc97; (try dsimp only))
  k_with "subscriptTail" => (k_here; (with_reducible show wpAny _ _ (subscriptTail _ _ (Value.ref _) (Value.int 1 _)) _ _ _); k_dflt (refine' partN_b ?Nz02f ?mz02f ?hcz02f ?_ ?hsz02f; (case Nz02f => k_asm); (case mz02f => (repeat (first | with_reducible assumption | refine List.mem_cons_of_mem _ ?_))); (case hcz02f => assumption); (case hsz02f => with_unfolding_all rfl)); intro t'z02f; (try dsimp only))
  k_with "subscriptTail" => (k_here; (with_reducible show wpAny _ _ (subscriptTail _ _ (Value.ref _) (Value.int 2 _)) _ _ _); k_dflt (refine' partN_k ?Nz3a9 ?mz3a9 ?hcz3a9 ?_ ?hsz3a9; (case Nz3a9 => k_asm); (case mz3a9 => (repeat (first | with_reducible assumption | refine List.mem_cons_of_mem _ ?_))); (case hcz3a9 => assumption); (case hsz3a9 => with_unfolding_all rfl)); intro t'z3a9; (try dsimp only))
  k_with "subscriptTail" => (k_here; (with_reducible show wpAny _ _ (subscriptTail _ _ (Value.ref _) (Value.int 3 _)) _ _ _); k_dflt (refine' partN_q ?Nz29b ?mz29b ?hcz29b ?_ ?hsz29b; (case Nz29b => k_asm); (case mz29b => (repeat (first | with_reducible assumption | refine List.mem_cons_of_mem _ ?_))); (case hcz29b => assumption); (case hsz29b => with_unfolding_all rfl)); (try dsimp only))
  k_with "exec Assign cons ListComp" => (k_here; k_dflt (refine Assign_ListComp_cell (by k_asm) (by rfl) (by with_unfolding_all rfl) (by with_unfolding_all rfl) (by rfl) (by decide) (fun _ _ => by with_unfolding_all rfl) (fun _ => rfl) (fun _ => rfl) (by rfl) (by rfl) ?_))
  k_with "SrcKA" => (k_here; refine stop_of ?_)
  k_with "eval ListComp" => (k_here; k_dflt (refine ListComp_cell (by k_asm) (by with_unfolding_all rfl) (by rfl) (by decide) (fun _ _ => by with_unfolding_all rfl) (fun _ => rfl) (fun _ => rfl) ?_))
  k_with "compareOp NotEq ref ref" => (k_here; refine stop_of ?_)
  k_with "call builtin:str.join" => (k_here; k_dflt (refine' join_parts ?Nz35c ?hpz35c ?hzz35c ?_; (case Nz35c => k_asm); (case hpz35c => assumption); (case hzz35c => assumption)); intro t'z35c k'z35c; (try dsimp only))
  k_with "eval ListComp" => (k_here; refine stop_of ?_)
  k_with "call builtin:len" => (k_here; k_dflt (refine' len_led ?Nz46f ?mz46f ?zz46f ?_; (case Nz46f => k_asm); (case mz46f => k_mem); (case zz46f => assumption)); (try dsimp only))
  k_with "compareOp In int ref" => (k_here; k_dflt (refine' in_led ?Nz82a ?mz82a ?zz82a ?_; (case Nz82a => k_asm); (case mz82a => k_mem); (case zz82a => assumption)); (try dsimp only))
  k_with "SrcK" => (k_here; refine stop_of ?_)
  trivial
noncomputable def PartsB (cs : List Cell) (i : Int) (j : Nat) (ys : List Value) : Prop := StrsAre ys ((((cs.take j).filter fun c => c.k == i).map (·.b)).map S)
theorem PartsB.snoc {cs : List Cell} {i : Int} {j : Nat} {ys : List Value} {c : Cell} {t : Tok} (h : PartsB cs i j ys) (e : cs[j]? = some c) (q : (c.k == i) = true) : PartsB cs i (j + 1) (ys ++ [.str (S c.b) t]) := by
  unfold PartsB at h ⊢
  rw [List.take_add_one, e]
  simpa [List.filter_append, List.filter_cons, q] using StrsAre.snoc1 h (y := S c.b) (t := t)
theorem PartsB.skip {cs : List Cell} {i : Int} {j : Nat} {ys : List Value} {c : Cell} (h : PartsB cs i j ys) (e : cs[j]? = some c) (q : (c.k == i) = false) : PartsB cs i (j + 1) ys := by
  unfold PartsB at h ⊢
  rw [List.take_add_one, e]
  simpa [List.filter_append, List.filter_cons, q] using h
theorem sel_len : ∀ (cs : List Cell) (i : Int), ((cs.filter fun c => c.k == i).map (·.b)).flatten.length ≤ (flatB cs).length
  | [], _ => Nat.le_refl _
  | c :: cs, i => by
    have ih := sel_len cs i
    rw [List.filter_cons]
    have e : (flatB (c :: cs)).length = c.b.length + (flatB cs).length := by simp [flatB]
    rw [e]
    split
    · rw [List.map_cons, List.flatten_cons, List.length_append]; omega
    · omega
noncomputable def DueJ (cs : List Cell) (j : Nat) (ys : List Value) : Prop := StrsAre ys ((dueR cs (List.range j)).map S)
theorem dueR_succ (cs : List Cell) (j : Nat) : dueR cs (List.range (j + 1)) = dueR cs (List.range j) ++ (if hasK cs j = true then [sel cs j] else []) := by
  rw [List.range_succ]
  unfold dueR
  rw [List.filterMap_append]
  congr 1
  cases h : hasK cs j <;> simp [h]
theorem DueJ.snoc {cs : List Cell} {j : Nat} {ys : List Value} {t : Tok} (h : DueJ cs j ys) (q : hasK cs j = true) : DueJ cs (j + 1) (ys ++ [.str (S (sel cs j)) t]) := by
  unfold DueJ at h ⊢
  rw [dueR_succ, if_pos q]
  simpa using StrsAre.snoc1 h (y := S (sel cs j)) (t := t)
theorem DueJ.skip {cs : List Cell} {j : Nat} {ys : List Value} (h : DueJ cs j ys) (q : hasK cs j = false) : DueJ cs (j + 1) ys := by
  unfold DueJ at h ⊢
  rw [dueR_succ, q]
  simpa using h
theorem any_hasK (cs : List Cell) (j : Nat) : (cs.map (·.k)).any (· == (0 + (j : Int))) = hasK cs j := by
  rw [List.any_map, Int.zero_add]
  rfl
set_option maxRecDepth 100000 in
set_option maxHeartbeats 4000000 in
theorem turn_due {w : World} {s : Shared} {g0 : Heap} {L fa : Addr} {cd : Value} {p : Program} {loose : List Str} {mean : ExcName → Option Value} {mg mb : Str → Option Value} {rest : List Stmt} {Q : Flow → Shared → Prop} {E : Value → Shared → Prop} {mx : Str → Option Value} {k bn en : Int} {t tb te tl1 tn : Tok} {NA WA CL KL : Addr} {ys vs kvs : List Value} {cs ks : List Cell} {xl xn : Str} {vp vk : Option Value} {tl : List (Addr × Obj)} {c c2 : Nat} {PL : Addr} {zs : List Value}
    (B : Below callerA g0 [] g0) (X : (KF w.params).In g0) (T : Top p loose mean mg mb g0)
    (F : Fr g0 L s.heap (fun y => if y = Str.ofString "name" then some (.str xn tn) else if y = Str.ofString "line" then some (.str xl tl1) else if y = Str.ofString "end" then some (.int en te) else if y = Str.ofString "begin" then some (.int bn tb) else if y = Str.ofString "cells" then some (.ref CL) else if y = Str.ofString "words" then some (.ref WA) else if y = Str.ofString "first" then some (.int k t) else if y = Str.ofString "numbers" then some (.ref NA) else mx y))
    (hL : Led g0 L s.heap (some (.ref PL)) (some (.ref KL)) tl) (hWA : (WA, LCg.lst ys) ∈ tl) (hKL : (KL, W.listOf kvs.toArray c2) ∈ tl) (hPL : (PL, LCg.lst zs) ∈ tl) (hk : CellsIn tl kvs ks) (hn2 : ks.length ≤ 30) (hz : IntsAre zs (ks.map (·.k))) (hst : StrsAre ys ws) (h3 : ws.length ≤ 3) (hf2 : (flatB ks).length ≤ 200)
    (h : ∀ h' tk DU ds tl', Fr g0 L h' (fun y => if y = Str.ofString "due" then some (.ref DU) else if y = Str.ofString "name" then some (.str xn tn) else if y = Str.ofString "line" then some (.str xl tl1) else if y = Str.ofString "end" then some (.int en te) else if y = Str.ofString "begin" then some (.int bn tb) else if y = Str.ofString "cells" then some (.ref CL) else if y = Str.ofString "words" then some (.ref WA) else if y = Str.ofString "first" then some (.int k t) else if y = Str.ofString "numbers" then some (.ref NA) else mx y) → Led g0 L h' (some (.ref PL)) (some (.ref KL)) tl' → (∀ q ∈ tl, q ∈ tl') → (DU, LCg.lst ds) ∈ tl' → StrsAre ds ((dueR ks (List.range ws.length)).map S) → wpAny (model PySem.Challenge.rw_nq0205_01.prog w) (callerA.deeper (envL L fa cd)) (execs (rest) (envL L fa cd)) Q E { s with heap := h', toks := tk }) :
    wpAny (model PySem.Challenge.rw_nq0205_01.prog w) (callerA.deeper (envL L fa cd)) (execs (pc 8 1 ++ rest) (envL L fa cd)) Q E s := by
  revert X; k_fill; intro X
  obtain ⟨op, ok, ps, N, hop, hok, htr, hoff, h7⟩ := hL
  have N1 : News g0 L s.heap ((PL, LCg.lst zs) :: (KL, W.listOf kvs.toArray c2) :: (WA, LCg.lst ys) :: (L + 1 + 1 + 1 + 1, op) :: (L + 1 + 1 + 1, ok) :: (767, tabJ ps) :: tl) := fun q hq => by
    simp only [List.mem_cons] at hq
    rcases hq with rfl | rfl | rfl | hq
    · exact N _ (.tail _ (.tail _ (.tail _ hPL)))
    · exact N _ (.tail _ (.tail _ (.tail _ hKL)))
    · exact N _ (.tail _ (.tail _ (.tail _ hWA)))
    · exact N q (by simpa only [List.mem_cons] using hq)
  clear N
  have hyl : ys.length = ws.length := hst.length
  have hy3 : ys.length ≤ 1000 := by omega
  k_steps
  refine stop_to ?_
  rename IsRange _ _ _ _ _ _ _ _ => hr
  rename Fr g0 L _ _ => F1
  rename News g0 L _ _ => N1
  rw [hyl] at hr
  have hw3 : ws.length = 0 ∨ ws.length = 1 ∨ ws.length = 2 ∨ ws.length = 3 := by omega
  have hsl : (flatB ks).length ≤ 200 := hf2
  refine ⟨_, _, _, _, _, _, ws.length, _, DueJ ks, rfl, rfl, F1, N1, hr, ?small, ?size, ?sz, trivial, ?step, ?fin⟩
  case small => rcases hw3 with e | e | e | e <;> rw [e] <;> decide
  case size => rcases hw3 with e | e | e | e <;> rw [e] <;> decide
  case sz => rw [sizeLine_eq]; omega
  case step =>
    intro i t9 zs9 I oI C oC K oK D h9 tk9 E' hi hj hoK F9 N9
    k_steps
    · refine stop_to ?_
      rename Fr g0 L _ _ => F8
      refine LCt.ListComp_T (F₀ := F8) (cl := [(Str.ofString "k", K)]) ?hclos ?hcell ?hkind ?hnames ?hx ?_
      case hcell => decide
      case hkind => rfl
      case hnames => decide
      case hx => rfl
      case hclos => with_unfolding_all rfl
      k_steps
      refine stop_to ?_
      rename News g0 L _ _ => N3
      refine srcLT_keep (fun j ys => PartsB ks (0 + (i : Int)) j ys) rfl (by assumption) N3 (by k_mem) ?hz3 trivial ?s3 ?f3
      case hz3 => rw [List.size_toArray, hk.length, sizeLine_eq]; omega
      case s3 =>
        intro i2 ys2 v2 I2 oI2 C2 oC2 D2 m2 h2 tk2 E2 hv2 hj2 hC2 hx2 F2 N2 off2 ne2
        rw [List.getElem?_toArray] at hv2
        obtain ⟨c9, a9, o9, e9, rfl, hm9, hcell⟩ := hk.item hv2
        k_steps
        · exact ⟨_, _, rfl, by assumption, by assumption, hj2.snoc e9 (beq_iff_eq.mpr (by assumption))⟩
        · exact ⟨_, _, rfl, by assumption, by assumption, hj2.skip e9 (beq_eq_false_iff_ne.mpr (by assumption))⟩
      case f3 =>
        intro g2 ys2 hj2 D2 h2 tk2 F2 N2 off2
        rw [List.size_toArray, hk.length, Int.zero_add] at hj2
        have hp9 : StrsAre ys2 (((ks.filter fun c => c.k == (i : Int)).map (·.b)).map S) := by
          unfold PartsB at hj2
          rwa [List.take_length] at hj2
        have hz9 := sel_len ks (i : Int)
        have hz8 : ((ks.filter fun c => c.k == (i : Int)).map (·.b)).flatten.length + ((ks.filter fun c => c.k == (i : Int)).map (·.b)).length ≤ 1000 := by
          have : ((ks.filter fun c => c.k == (i : Int)).map (·.b)).length ≤ ks.length := by rw [List.length_map]; exact List.length_filter_le _ _
          omega
        rename (List.any _ _) = true => hany
        rw [any_hasK] at hany
        k_steps
        exact ⟨_, _, rfl, by assumption, (fun q hq => (by assumption : News g0 L _ _) q (.tail _ hq)), hj.snoc hany⟩
    · rename (List.any _ _) = false => hany
      rw [any_hasK] at hany
      exact ⟨_, _, rfl, by assumption, by assumption, hj.skip hany⟩
  case fin =>
    intro D h9 tk9 ds hj F9 N9 off
    have oD : OffL L D := ⟨(off (L + 1 + 1 + 1 + 1, op) (by simp)).symm, (off (L + 1 + 1 + 1, ok) (by simp)).symm, (off (767, tabJ ps) (by simp)).symm⟩
    refine h _ _ D ds ((D, LCg.lst ds) :: tl) F9 (Led.intro N9 hop hok htr h7 (fun q hq => ?_) (by simp) (by simp) (by simp) fun q hq => ?_) (fun q hq => .tail _ hq) (.head _) hj
    · rcases List.mem_cons.mp hq with rfl | hq
      · exact .head _
      · refine .tail _ ?_
        (repeat (first | exact hq | refine List.mem_cons_of_mem _ ?_))
    · rcases List.mem_cons.mp hq with rfl | hq
      · exact oD
      · exact hoff q hq
end Mine
end PartF10
theorem Mine.flushF11 : True := by
  w_top off
  trivial
section PartF11
open PySem PySem.W PyProof.Rows PySem.Calls
set_option Elab.async false
set_option linter.unusedVariables false
namespace Mine
theorem kwF11x0 : True := by
  k_with_none
  k_with "size_fits" => first | (with_reducible assumption) | ((try simp only [PySem.Str.length_append, sizeLine_eq]); omega)
  k_with "k_room" => ((try simp only [depth_under_make, depth_under_kw, depth_in1, depth_deeper, depth_caller, depth_mark]); first | omega | decide)
  k_with "k_units" => ((try simp only [units_under_kw, units_in1, units_deeper, units_caller, Around.mark_units]); first | omega | decide)
  k_with "k_all" => (first | (with_reducible assumption) | exact List.forall_mem_nil _ | (refine' List.forall_mem_cons.mpr ⟨?az6b5, ?bz6b5⟩; (case az6b5 => k_ne); (case bz6b5 => k_all)))
  k_with "CompSrc" => (k_here; refine stop_of ?_)
  k_with "CompSrcT" => (k_here; refine stop_of ?_)
  trivial
/-- a cell of a list of the ledger -/
theorem item_cellN {prog : Program} {w : World} {A : Around} {E : Value → Shared → Prop} {s : Shared} {value slice : PySem.Expr} {h₀ : Heap} {L CA : Addr} {vs : List Value} {cs : List Cell} {k : Int} {u : Tok} {Q : Value → Shared → Prop} {led tl : List (Addr × Obj)} {n : Nat}
    (N : News h₀ L s.heap led) (hm : (CA, ({ cls := .type "list", data := .seq vs.toArray n } : Obj)) ∈ led) (hc : CellsIn tl vs cs) (ht : ∀ q ∈ tl, q ∈ led) (h0 : 0 ≤ k) (h1 : k < (cs.length : Int)) (hn : cs.length ≤ 30)
    (h : ∀ a o c, cs[k.toNat]? = some c → (a, o) ∈ led → IsCell o c → Q (.ref a) s)
    (hs : subscripted slice false (.ref CA) (.int k u) = operate [.ref CA, .int k u] (getItem (.ref CA) (.int k u)) := by with_unfolding_all rfl) :
    wpAny (model prog w) A (subscriptTail value slice (.ref CA) (.int k u)) Q E s := by
  have hls : s.heap.IsList CA vs.toArray := ⟨_, (N _ hm).1, rfl, n, rfl⟩
  have hvl := hc.length
  have hi : k.toNat < vs.length := by omega
  obtain ⟨c, a, o, e1, e2, e3, e4⟩ := hc.item (List.getElem?_eq_getElem hi)
  refine tail_any hls.typeIs slot_list_getitem.lookup (wpAny_getItem_list hls h0 (by omega) (x := vs[k.toNat]) (by simp [hi]) ?_) hs
  rw [e2]
  exact h a o c e1 (ht _ e3) e4
theorem len_led' {prog : Program} {w : World} {A : Around} {E : Value → Shared → Prop} {s : Shared} {h₀ : Heap} {L l : Addr} {ys : List Value} {news : List (Addr × Obj)} {k : Nat} {Q : Value → Shared → Prop} (N : News h₀ L s.heap news) (hm : (l, ({ cls := .type "list", data := .seq ys.toArray k } : Obj)) ∈ news) (hz : ys.length ≤ 1000)
    (h : Q (.int ((ys.length : Nat) : Int) (s.toks + 1)) { s with toks := s.toks + 1 + 1 }) : wpAny (model prog w) A (call (.builtin "len") [.ref l]) Q E s := len_led N hm hz h
noncomputable def markAt (cs : List Cell) (p : Bool) (i : Nat) : Bool := p && ((cs[i]?).map (·.q)).getD false
theorem mark_yes {cs : List Cell} {p : Prop} [Decidable p] {i : Nat} {k : Int} {c : Cell} (hp : p) (hk : k.toNat = i) (e : cs[k.toNat]? = some c) (q : c.q = true) : Str.ofString "'" = S (markB (markAt cs (decide p) i)) := by
  subst hk
  unfold markAt
  rw [decide_eq_true hp, e, Option.map_some, Option.getD_some, q, S39]
  rfl
theorem mark_no {cs : List Cell} {p : Prop} [Decidable p] {i : Nat} (hp : ¬ p) : Str.ofString "" = S (markB (markAt cs (decide p) i)) := by
  unfold markAt
  rw [decide_eq_false hp, S_nil]
  rfl
theorem mark_not {cs : List Cell} {p : Prop} [Decidable p] {i : Nat} {k : Int} {c : Cell} (hk : k.toNat = i) (e : cs[k.toNat]? = some c) (q : c.q = false) : Str.ofString "" = S (markB (markAt cs (decide p) i)) := by
  subst hk
  unfold markAt
  rw [e, Option.map_some, Option.getD_some, q, Bool.and_false, S_nil]
  rfl
theorem kwF11x1 : True := by
  k_with "subscriptTail" => (k_here; (with_reducible show wpAny _ _ (subscriptTail _ _ (Value.ref _) (Value.int 0 _)) _ _ _); k_dflt (refine' partN_a ?Nzc97 ?mzc97 ?hczc97 ?_ ?hszc97; (case Nzc97 => k_asm); (case mzc97 => (repeat (first | with_reducible assumption | refine List.mem_cons_of_mem _ ?_))); (case hczc97 => assumption); (case hszc97 => with_unfolding_all rfl)); intro t'zc97; (try dsimp only))
  k_with "subscriptTail" => (k_here; (with_reducible show wpAny _ _ (subscriptTail _ _ (Value.ref _) (Value.int 1 _)) _ _ _); k_dflt (refine' partN_b ?Nz02f ?mz02f ?hcz02f ?_ ?hsz02f; (case Nz02f => k_asm); (case mz02f => (repeat (first | with_reducible assumption | refine List.mem_cons_of_mem _ ?_))); (case hcz02f => assumption); (case hsz02f => with_unfolding_all rfl)); intro t'z02f; (try dsimp only))
  k_with "subscriptTail" => (k_here; (with_reducible show wpAny _ _ (subscriptTail _ _ (Value.ref _) (Value.int 2 _)) _ _ _); k_dflt (refine' partN_k ?Nz3a9 ?mz3a9 ?hcz3a9 ?_ ?hsz3a9; (case Nz3a9 => k_asm); (case mz3a9 => (repeat (first | with_reducible assumption | refine List.mem_cons_of_mem _ ?_))); (case hcz3a9 => assumption); (case hsz3a9 => with_unfolding_all rfl)); intro t'z3a9; (try dsimp only))
  k_with "subscriptTail" => (k_here; (with_reducible show wpAny _ _ (subscriptTail _ _ (Value.ref _) (Value.int 3 _)) _ _ _); k_dflt (refine' partN_q ?Nz29b ?mz29b ?hcz29b ?_ ?hsz29b; (case Nz29b => k_asm); (case mz29b => (repeat (first | with_reducible assumption | refine List.mem_cons_of_mem _ ?_))); (case hcz29b => assumption); (case hsz29b => with_unfolding_all rfl)); (try dsimp only))
  k_with "subscriptTail" => (k_here; (with_reducible show wpAny _ _ (subscriptTail _ _ (Value.ref _) (Value.int _ _)) _ _ _); k_dflt (refine' item_cellN ?Nz811 ?mz811 ?hcz811 ?htz811 ?h0z811 ?h1z811 ?hnz811 ?_ ?hsz811; (case Nz811 => k_asm); (case mz811 => k_mem); (case hcz811 => assumption); (case htz811 => exact (fun q hq => by (repeat (first | exact hq | refine List.mem_cons_of_mem _ ?_)))); (case h0z811 => omega); (case h1z811 => omega); (case hnz811 => assumption); (case hsz811 => with_unfolding_all rfl)); intro a'z811 o'z811 cc'z811 hcc'z811 hm'z811 hq'z811; (try dsimp only))
  k_with "call builtin:len" => (k_here; k_dflt (refine' len_led' ?Nz1fd ?mz1fd ?zz1fd ?_; (case Nz1fd => k_asm); (case mz1fd => k_mem); (case zz1fd => assumption)); (try dsimp only))
  k_with "compareOp In int ref" => (k_here; k_dflt (refine' in_led ?Nz82a ?mz82a ?zz82a ?_; (case Nz82a => k_asm); (case mz82a => k_mem); (case zz82a => assumption)); (try dsimp only))
  k_with "SrcK" => (k_here; refine stop_of ?_)
  trivial
set_option maxRecDepth 100000 in
set_option maxHeartbeats 4000000 in
theorem turn_ahead {w : World} {s : Shared} {g0 : Heap} {L fa : Addr} {cd : Value} {p : Program} {loose : List Str} {mean : ExcName → Option Value} {mg mb : Str → Option Value} {rest : List Stmt} {Q : Flow → Shared → Prop} {E : Value → Shared → Prop} {mx : Str → Option Value} {k : Int} {b e : Nat} {t tb te tl1 tn : Tok} {NA WA CL KL : Addr} {DU : Addr} {ys vs kvs : List Value} {cs ks : List Cell} {xl xn : Str} {vp vk : Option Value} {tl : List (Addr × Obj)} {c c2 : Nat}
    (B : Below callerA g0 [] g0) (X : (KF w.params).In g0) (T : Top p loose mean mg mb g0)
    (F : Fr g0 L s.heap (fun y => if y = Str.ofString "due" then some (.ref DU) else if y = Str.ofString "name" then some (.str xn tn) else if y = Str.ofString "line" then some (.str xl tl1) else if y = Str.ofString "end" then some (.int ((e : Nat) : Int) te) else if y = Str.ofString "begin" then some (.int ((b : Nat) : Int) tb) else if y = Str.ofString "cells" then some (.ref CL) else if y = Str.ofString "words" then some (.ref WA) else if y = Str.ofString "first" then some (.int k t) else if y = Str.ofString "numbers" then some (.ref NA) else mx y))
    (hL : Led g0 L s.heap vp vk tl) (hCL : (CL, W.listOf vs.toArray c) ∈ tl) (hc : CellsIn tl vs cs) (hn : cs.length ≤ 30) (hb : b ≤ cs.length)
    (h : ∀ h' tk xa ta, Fr g0 L h' (fun y => if y = Str.ofString "ahead" then some (.str xa ta) else if y = Str.ofString "due" then some (.ref DU) else if y = Str.ofString "name" then some (.str xn tn) else if y = Str.ofString "line" then some (.str xl tl1) else if y = Str.ofString "end" then some (.int ((e : Nat) : Int) te) else if y = Str.ofString "begin" then some (.int ((b : Nat) : Int) tb) else if y = Str.ofString "cells" then some (.ref CL) else if y = Str.ofString "words" then some (.ref WA) else if y = Str.ofString "first" then some (.int k t) else if y = Str.ofString "numbers" then some (.ref NA) else mx y) → xa = S (markB (markAt cs (decide (0 < b)) (b - 1))) → Led g0 L h' vp vk tl → wpAny (model PySem.Challenge.rw_nq0205_01.prog w) (callerA.deeper (envL L fa cd)) (execs (rest) (envL L fa cd)) Q E { s with heap := h', toks := tk }) :
    wpAny (model PySem.Challenge.rw_nq0205_01.prog w) (callerA.deeper (envL L fa cd)) (execs (pc 9 1 ++ rest) (envL L fa cd)) Q E s := by
  revert X; k_fill; intro X
  obtain ⟨op, ok, ps, N, hop, hok, htr, hoff, h7⟩ := hL
  have N1 : News g0 L s.heap ((CL, W.listOf vs.toArray c) :: (L + 1 + 1 + 1 + 1, op) :: (L + 1 + 1 + 1, ok) :: (767, tabJ ps) :: tl) := fun q hq => by
    simp only [List.mem_cons] at hq
    rcases hq with rfl | hq
    · exact N _ (.tail _ (.tail _ (.tail _ hCL)))
    · exact N q (by simpa only [List.mem_cons] using hq)
  clear N
  k_steps
  all_goals (rename Fr g0 L _ _ => F2; rename News g0 L _ _ => N2)
  · rename cs[_]? = some _ => he
    rename Cell.q _ = true => hq
    exact h _ _ _ _ F2 (mark_yes (by omega) (by omega) he hq) (Led.intro N2 hop hok htr h7 (fun q hq => by (repeat (first | exact hq | refine List.mem_cons_of_mem _ ?_))) (by simp) (by simp) (by simp) hoff)
  · rename cs[_]? = some _ => he
    rename Cell.q _ = false => hq
    exact h _ _ _ _ F2 (mark_not (by omega) he hq) (Led.intro N2 hop hok htr h7 (fun q hq => by (repeat (first | exact hq | refine List.mem_cons_of_mem _ ?_))) (by simp) (by simp) (by simp) hoff)
  · exact h _ _ _ _ F2 (mark_no (by omega)) (Led.intro N2 hop hok htr h7 (fun q hq => by (repeat (first | exact hq | refine List.mem_cons_of_mem _ ?_))) (by simp) (by simp) (by simp) hoff)
set_option maxRecDepth 100000 in
set_option maxHeartbeats 4000000 in
theorem turn_behind {w : World} {s : Shared} {g0 : Heap} {L fa : Addr} {cd : Value} {p : Program} {loose : List Str} {mean : ExcName → Option Value} {mg mb : Str → Option Value} {rest : List Stmt} {Q : Flow → Shared → Prop} {E : Value → Shared → Prop} {mx : Str → Option Value} {k : Int} {b e : Nat} {t tb te tl1 tn : Tok} {NA WA CL KL : Addr} {DU : Addr} {ys vs kvs : List Value} {cs ks : List Cell} {xl xn : Str} {vp vk : Option Value} {tl : List (Addr × Obj)} {c c2 : Nat} {xa : Str} {ta : Tok}
    (B : Below callerA g0 [] g0) (X : (KF w.params).In g0) (T : Top p loose mean mg mb g0)
    (F : Fr g0 L s.heap (fun y => if y = Str.ofString "ahead" then some (.str xa ta) else if y = Str.ofString "due" then some (.ref DU) else if y = Str.ofString "name" then some (.str xn tn) else if y = Str.ofString "line" then some (.str xl tl1) else if y = Str.ofString "end" then some (.int ((e : Nat) : Int) te) else if y = Str.ofString "begin" then some (.int ((b : Nat) : Int) tb) else if y = Str.ofString "cells" then some (.ref CL) else if y = Str.ofString "words" then some (.ref WA) else if y = Str.ofString "first" then some (.int k t) else if y = Str.ofString "numbers" then some (.ref NA) else mx y))
    (hL : Led g0 L s.heap vp vk tl) (hCL : (CL, W.listOf vs.toArray c) ∈ tl) (hc : CellsIn tl vs cs) (hn : cs.length ≤ 30)
    (h : ∀ h' tk xb tb2, Fr g0 L h' (fun y => if y = Str.ofString "behind" then some (.str xb tb2) else if y = Str.ofString "ahead" then some (.str xa ta) else if y = Str.ofString "due" then some (.ref DU) else if y = Str.ofString "name" then some (.str xn tn) else if y = Str.ofString "line" then some (.str xl tl1) else if y = Str.ofString "end" then some (.int ((e : Nat) : Int) te) else if y = Str.ofString "begin" then some (.int ((b : Nat) : Int) tb) else if y = Str.ofString "cells" then some (.ref CL) else if y = Str.ofString "words" then some (.ref WA) else if y = Str.ofString "first" then some (.int k t) else if y = Str.ofString "numbers" then some (.ref NA) else mx y) → xb = S (markB (markAt cs (decide (e < cs.length)) e)) → Led g0 L h' vp vk tl → wpAny (model PySem.Challenge.rw_nq0205_01.prog w) (callerA.deeper (envL L fa cd)) (execs (rest) (envL L fa cd)) Q E { s with heap := h', toks := tk }) :
    wpAny (model PySem.Challenge.rw_nq0205_01.prog w) (callerA.deeper (envL L fa cd)) (execs (pc 10 1 ++ rest) (envL L fa cd)) Q E s := by
  revert X; k_fill; intro X
  obtain ⟨op, ok, ps, N, hop, hok, htr, hoff, h7⟩ := hL
  have N1 : News g0 L s.heap ((CL, W.listOf vs.toArray c) :: (L + 1 + 1 + 1 + 1, op) :: (L + 1 + 1 + 1, ok) :: (767, tabJ ps) :: tl) := fun q hq => by
    simp only [List.mem_cons] at hq
    rcases hq with rfl | hq
    · exact N _ (.tail _ (.tail _ (.tail _ hCL)))
    · exact N q (by simpa only [List.mem_cons] using hq)
  clear N
  have hvl := hc.length
  have hy3 : vs.length ≤ 1000 := by omega
  k_steps
  all_goals (rename Fr g0 L _ _ => F2; rename News g0 L _ _ => N2)
  · rename cs[_]? = some _ => he
    rename Cell.q _ = true => hq
    exact h _ _ _ _ F2 (mark_yes (by omega) (by omega) he hq) (Led.intro N2 hop hok htr h7 (fun q hq => by (repeat (first | exact hq | refine List.mem_cons_of_mem _ ?_))) (by simp) (by simp) (by simp) hoff)
  · rename cs[_]? = some _ => he
    rename Cell.q _ = false => hq
    exact h _ _ _ _ F2 (mark_not (by omega) he hq) (Led.intro N2 hop hok htr h7 (fun q hq => by (repeat (first | exact hq | refine List.mem_cons_of_mem _ ?_))) (by simp) (by simp) (by simp) hoff)
  · exact h _ _ _ _ F2 (mark_no (by omega)) (Led.intro N2 hop hok htr h7 (fun q hq => by (repeat (first | exact hq | refine List.mem_cons_of_mem _ ?_))) (by simp) (by simp) (by simp) hoff)
end Mine
end PartF11
theorem Mine.flushF12 : True := by
  w_top off
  trivial
section PartF12
open PySem PySem.W PyProof.Rows PySem.Calls
set_option Elab.async false
set_option linter.unusedVariables false
namespace Mine
theorem kwF12x0 : True := by
  k_with_none
  k_with "size_fits" => first | (with_reducible assumption) | ((try simp only [PySem.Str.length_append, sizeLine_eq]); omega)
  k_with "k_room" => ((try simp only [depth_under_make, depth_under_kw, depth_in1, depth_deeper, depth_caller, depth_mark]); first | omega | decide)
  k_with "k_units" => ((try simp only [units_under_kw, units_in1, units_deeper, units_caller, Around.mark_units]); first | omega | decide)
  k_with "k_all" => (first | (with_reducible assumption) | exact List.forall_mem_nil _ | (refine' List.forall_mem_cons.mpr ⟨?az6b5, ?bz6b5⟩; (case az6b5 => k_ne); (case bz6b5 => k_all)))
  k_with "CompSrc" => (k_here; refine stop_of ?_)
  k_with "CompSrcT" => (k_here; refine stop_of ?_)
  trivial
theorem t_saidY {p : Program} {loose : List Str} {mean : ExcName → Option Value} {mg mb : Str → Option Value} {w : World} {A₀ : Around} {dep un : Nat} {gs : Option (List Code)} {s : Shared} {h₀ : Heap} {nms : List (Str × NameKind)} {ig ic : Bool} {mo : List (Str × Const)} {loc glo bi : Addr} {cel : List (Str × Addr)} {qu : Str} {fn : Option Addr} {cod : Value} {L : Addr} {m : Str → Option Value} {R : Result → Shared → Prop} {news : List (Addr × Obj)} {x : Str} {t : Tok} {ds : List Str}
    (B : Below A₀ h₀ [] h₀) (F : Fr h₀ L s.heap m) (X : (KF w.params).In h₀) (N : News h₀ L s.heap news) (T : Top p loose mean mg mb h₀) (hroom : dep + 70 < recursionLimit) (hun : un + 210 < cLine)
    (hx : x.length ≤ 1000) (hok : lexOk x.cps.toList .sp = true) (TK : Toks x.cps.toList .sp (some ds))
    (h : ∀ h' tk SA acc c, Fr h₀ L h' m → News h₀ L h' ((SA, lstO acc c) :: news) → StrsAre acc.toList ds → R (.ok (.ret (.ref SA))) { s with heap := h', toks := tk }) :
    codeAny (model PySem.Challenge.rw_nq0205_01.prog w) ⟨none, dep, some [(⟨⟨.function, nms, ig, ic, mo⟩, loc, glo, cel, qu, fn, cod, some L, bi⟩ : Env)], gs, un⟩ (.call (.ref 802) ⟨[.str x t], []⟩) R s :=
  t_said B F X N T X T hroom hun hx hok TK (fun ys e h' tk SA acc c F' N' hs => h h' tk SA acc c F' N' (by cases e; exact hs)) (fun e => nomatch e)
theorem t_saidN {p : Program} {loose : List Str} {mean : ExcName → Option Value} {mg mb : Str → Option Value} {w : World} {A₀ : Around} {dep un : Nat} {gs : Option (List Code)} {s : Shared} {h₀ : Heap} {nms : List (Str × NameKind)} {ig ic : Bool} {mo : List (Str × Const)} {loc glo bi : Addr} {cel : List (Str × Addr)} {qu : Str} {fn : Option Addr} {cod : Value} {L : Addr} {m : Str → Option Value} {R : Result → Shared → Prop} {news : List (Addr × Obj)} {x : Str} {t : Tok}
    (B : Below A₀ h₀ [] h₀) (F : Fr h₀ L s.heap m) (X : (KF w.params).In h₀) (N : News h₀ L s.heap news) (T : Top p loose mean mg mb h₀) (hroom : dep + 70 < recursionLimit) (hun : un + 210 < cLine)
    (hx : x.length ≤ 1000) (hok : lexOk x.cps.toList .sp = true) (TK : Toks x.cps.toList .sp none)
    (h : ∀ h' tk te, Fr h₀ L h' m → News h₀ L h' news → R (.ok (.ret (.str (Str.ofString "No closing quotation") te))) { s with heap := h', toks := tk }) :
    codeAny (model PySem.Challenge.rw_nq0205_01.prog w) ⟨none, dep, some [(⟨⟨.function, nms, ig, ic, mo⟩, loc, glo, cel, qu, fn, cod, some L, bi⟩ : Env)], gs, un⟩ (.call (.ref 802) ⟨[.str x t], []⟩) R s :=
  t_said B F X N T X T hroom hun hx hok TK (fun ys e => nomatch e) (fun _ h' tk te F' N' => h h' tk te F' N')
theorem kwF12x1 : True := by
  k_with "call ref" => (k_here; (k_dflt (refine wpAny_call ?_; refine' t_saidY ?k1z2c4 ?k2z2c4 ?k3z2c4 ?k4z2c4 ?k5z2c4 ?krz2c4 ?kuz2c4 ?hxz2c4 ?hoz2c4 ?htz2c4 ?_; (case k1z2c4 => k_asm); (case k2z2c4 => k_asm); (case k3z2c4 => k_asm); (case k4z2c4 => k_asm); (case k5z2c4 => k_asm); (case krz2c4 => k_room); (case kuz2c4 => k_units); (case hxz2c4 => assumption); (case hoz2c4 => assumption); (case htz2c4 => assumption))); intro h'z2c4 tk'z2c4 SA'z2c4 acc'z2c4 c'z2c4 F'z2c4 N'z2c4 hs'z2c4; (try dsimp only))
  k_with "compareOp NotEq ref ref" => (k_here; refine stop_of ?_)
  trivial
set_option maxRecDepth 100000 in
set_option maxHeartbeats 4000000 in
theorem turn_said1 {w : World} {s : Shared} {g0 : Heap} {L fa : Addr} {cd : Value} {p : Program} {loose : List Str} {mean : ExcName → Option Value} {mg mb : Str → Option Value} {rest : List Stmt} {Q : Flow → Shared → Prop} {E : Value → Shared → Prop} {mx : Str → Option Value} {k bn en : Int} {t tb te tl1 tn : Tok} {NA WA CL KL : Addr} {DU : Addr} {xa xb : Str} {ta tb2 : Tok} {dsv : List Value} {ds : List Str} {ys vs kvs : List Value} {cs ks : List Cell} {xl xn : Str} {vp vk : Option Value} {tl : List (Addr × Obj)} {c c2 : Nat}
    (B : Below callerA g0 [] g0) (X : (KF w.params).In g0) (T : Top p loose mean mg mb g0)
    (F : Fr g0 L s.heap (fun y => if y = Str.ofString "behind" then some (.str xb tb2) else if y = Str.ofString "ahead" then some (.str xa ta) else if y = Str.ofString "due" then some (.ref DU) else if y = Str.ofString "name" then some (.str xn tn) else if y = Str.ofString "line" then some (.str xl tl1) else if y = Str.ofString "end" then some (.int en te) else if y = Str.ofString "begin" then some (.int bn tb) else if y = Str.ofString "cells" then some (.ref CL) else if y = Str.ofString "words" then some (.ref WA) else if y = Str.ofString "first" then some (.int k t) else if y = Str.ofString "numbers" then some (.ref NA) else mx y))
    (hL : Led g0 L s.heap vp vk tl) (hDU : (DU, LCg.lst dsv) ∈ tl) (hds : StrsAre dsv ds) (hxa : xa.length ≤ 10) (hxn2 : xn.length ≤ 200) (hxb : xb.length ≤ 10) (hx : (xa ++ xn ++ xb).length ≤ 1000) (hok1 : lexOk (xa ++ xn ++ xb).cps.toList .sp = true) (hTK : Toks (xa ++ xn ++ xb).cps.toList .sp (some ds))
    (h : ∀ h' tk, Fr g0 L h' (fun y => if y = Str.ofString "behind" then some (.str xb tb2) else if y = Str.ofString "ahead" then some (.str xa ta) else if y = Str.ofString "due" then some (.ref DU) else if y = Str.ofString "name" then some (.str xn tn) else if y = Str.ofString "line" then some (.str xl tl1) else if y = Str.ofString "end" then some (.int en te) else if y = Str.ofString "begin" then some (.int bn tb) else if y = Str.ofString "cells" then some (.ref CL) else if y = Str.ofString "words" then some (.ref WA) else if y = Str.ofString "first" then some (.int k t) else if y = Str.ofString "numbers" then some (.ref NA) else mx y) → Led g0 L h' vp vk tl → wpAny (model PySem.Challenge.rw_nq0205_01.prog w) (callerA.deeper (envL L fa cd)) (execs (rest) (envL L fa cd)) Q E { s with heap := h', toks := tk }) :
    wpAny (model PySem.Challenge.rw_nq0205_01.prog w) (callerA.deeper (envL L fa cd)) (execs (pc 11 1 ++ rest) (envL L fa cd)) Q E s := by
  revert X; k_fill; intro X
  obtain ⟨op, ok, ps, N, hop, hok, htr, hoff, h7⟩ := hL
  have N1 : News g0 L s.heap ((DU, LCg.lst dsv) :: (L + 1 + 1 + 1 + 1, op) :: (L + 1 + 1 + 1, ok) :: (767, tabJ ps) :: tl) := fun q hq => by
    simp only [List.mem_cons] at hq
    rcases hq with rfl | hq
    · exact N _ (.tail _ (.tail _ (.tail _ hDU)))
    · exact N q (by simpa only [List.mem_cons] using hq)
  clear N
  k_steps
  refine stop_to ?_
  rename Fr g0 L _ _ => F3
  rename News g0 L _ _ => N3
  rename StrsAre _ ds => hs3
  refine ne_strs (items2 := dsv.toArray) (ts := ds) ⟨_, (N3 _ (.head _)).1, rfl, _, rfl⟩ ⟨_, (N3 (DU, LCg.lst dsv) (by k_mem)).1, rfl, _, rfl⟩ hs3 hds (by k_units) ?_
  k_steps
  exact h _ _ F3 (Led.intro N3 hop hok htr h7 (fun q hq => by (repeat (first | exact hq | refine List.mem_cons_of_mem _ ?_))) (by simp) (by simp) (by simp) hoff)
theorem kwF12x2 : True := by
  k_with "call ref" => (k_here; refine stop_of ?_)
  trivial
set_option maxRecDepth 100000 in
set_option maxHeartbeats 4000000 in
theorem turn_said2 {w : World} {s : Shared} {g0 : Heap} {L fa : Addr} {cd : Value} {p : Program} {loose : List Str} {mean : ExcName → Option Value} {mg mb : Str → Option Value} {rest : List Stmt} {Q : Flow → Shared → Prop} {E : Value → Shared → Prop} {mx : Str → Option Value} {k bn en : Int} {t tb te tl1 tn : Tok} {NA WA CL KL : Addr} {DU : Addr} {xa xb : Str} {ta tb2 : Tok} {dsv : List Value} {ds : List Str} {ys vs kvs : List Value} {cs ks : List Cell} {xl xn : Str} {vp vk : Option Value} {tl : List (Addr × Obj)} {c c2 : Nat}
    (B : Below callerA g0 [] g0) (X : (KF w.params).In g0) (T : Top p loose mean mg mb g0)
    (F : Fr g0 L s.heap (fun y => if y = Str.ofString "behind" then some (.str xb tb2) else if y = Str.ofString "ahead" then some (.str xa ta) else if y = Str.ofString "due" then some (.ref DU) else if y = Str.ofString "name" then some (.str xn tn) else if y = Str.ofString "line" then some (.str xl tl1) else if y = Str.ofString "end" then some (.int en te) else if y = Str.ofString "begin" then some (.int bn tb) else if y = Str.ofString "cells" then some (.ref CL) else if y = Str.ofString "words" then some (.ref WA) else if y = Str.ofString "first" then some (.int k t) else if y = Str.ofString "numbers" then some (.ref NA) else mx y))
    (hL : Led g0 L s.heap vp vk tl) (hxn2 : xn.length ≤ 200) (hok2 : xa = Str.ofString "" → lexOk xn.cps.toList .sp = true) (hTK2 : xa = Str.ofString "" → xb = Str.ofString "'" → Toks xn.cps.toList .sp none)
    (h : ∀ h' tk, Fr g0 L h' (fun y => if y = Str.ofString "behind" then some (.str xb tb2) else if y = Str.ofString "ahead" then some (.str xa ta) else if y = Str.ofString "due" then some (.ref DU) else if y = Str.ofString "name" then some (.str xn tn) else if y = Str.ofString "line" then some (.str xl tl1) else if y = Str.ofString "end" then some (.int en te) else if y = Str.ofString "begin" then some (.int bn tb) else if y = Str.ofString "cells" then some (.ref CL) else if y = Str.ofString "words" then some (.ref WA) else if y = Str.ofString "first" then some (.int k t) else if y = Str.ofString "numbers" then some (.ref NA) else mx y) → Led g0 L h' vp vk tl → wpAny (model PySem.Challenge.rw_nq0205_01.prog w) (callerA.deeper (envL L fa cd)) (execs (rest) (envL L fa cd)) Q E { s with heap := h', toks := tk }) :
    wpAny (model PySem.Challenge.rw_nq0205_01.prog w) (callerA.deeper (envL L fa cd)) (execs (pc 12 1 ++ rest) (envL L fa cd)) Q E s := by
  revert X; k_fill; intro X
  obtain ⟨op, ok, ps, N, hop, hok, htr, hoff, h7⟩ := hL
  have hx2 : xn.length ≤ 1000 := Nat.le_trans hxn2 (by decide)
  k_steps
  · refine stop_to ?_
    refine wpAny_call ?_
    have e1 : xa = Str.ofString "" := by first | assumption | exact beq_iff_eq.mp (by assumption)
    have e2 : xb = Str.ofString "'" := by first | assumption | exact beq_iff_eq.mp (by assumption)
    refine' t_saidN ?k1 ?k2 ?k3 ?k4 ?k5 ?kr ?ku hx2 (hok2 e1) (hTK2 e1 e2) ?_
    case k1 => k_asm
    case k2 => k_asm
    case k3 => k_asm
    case k4 => k_asm
    case k5 => k_asm
    case kr => k_room
    case ku => k_units
    intro h' tk' te' F' N'
    (try dsimp only)
    k_steps
    rename Fr g0 L _ _ => F3
    rename News g0 L _ _ => N3
    exact h _ _ F3 ⟨op, ok, ps, N3, hop, hok, htr, hoff, h7⟩
  · rename Fr g0 L _ _ => F3
    rename News g0 L _ _ => N3
    exact h _ _ F3 ⟨op, ok, ps, N3, hop, hok, htr, hoff, h7⟩
  · rename Fr g0 L _ _ => F3
    rename News g0 L _ _ => N3
    exact h _ _ F3 ⟨op, ok, ps, N3, hop, hok, htr, hoff, h7⟩
end Mine
end PartF12
theorem Mine.flushF13 : True := by
  w_top off
  trivial
section PartF13
open PySem PySem.W PyProof.Rows PySem.Calls
set_option Elab.async false
namespace Mine
theorem Step.blen {s s' : St} {c : Cell} (h : Step s c s') : c.b.length ≤ 1 := by
  cases h <;> simp [blankC, bareC, markC, quotC]
theorem Run.blen {s s' : St} {cs : List Cell} (h : Run s cs s') : ∀ c ∈ cs, c.b.length ≤ 1 := by
  induction h with
  | nil => intro c hc; cases hc
  | cons a _ ih =>
    intro c hc
    rcases List.mem_cons.mp hc with rfl | hc
    · exact a.blen
    · exact ih c hc
theorem flatB_len : ∀ cs : List Cell, (∀ c ∈ cs, c.b.length ≤ 1) → (flatB cs).length ≤ cs.length
  | [], _ => Nat.le_refl _
  | c :: cs, h => by
    have h1 := flatB_len cs fun d hd => h d (List.mem_cons_of_mem _ hd)
    have h2 := h c List.mem_cons_self
    have e : (flatB (c :: cs)).length = c.b.length + (flatB cs).length := by simp [flatB]
    rw [e, List.length_cons]
    omega
theorem blen_cells (ws : List Str) : ∀ c ∈ CS ws, c.b.length ≤ 1 := by
  cases ws with
  | nil => intro c hc; cases hc
  | cons y ws => exact (run_cells y.cps.toList (wl ws)).blen
theorem kept_len {ws : List Str} (hw : ∀ y ∈ ws, y.length ≤ 4) (h3 : ws.length ≤ 3) : (keptC (CS ws)).length ≤ 21 := by
  have := cs_len hw h3
  rw [List.length_take, List.length_drop]
  omega
theorem kept_flatB {ws : List Str} (hw : ∀ y ∈ ws, y.length ≤ 4) (h3 : ws.length ≤ 3) : (flatB (keptC (CS ws))).length ≤ 200 :=
  Nat.le_trans (flatB_len _ fun c hc => blen_cells ws c (List.mem_of_mem_drop (List.mem_of_mem_take hc))) (Nat.le_trans (kept_len hw h3) (by decide))
theorem mark_len (b : Bool) : (S (markB b)).length ≤ 10 := by
  cases b <;> decide
theorem S_len {l : List Nat} {n : Nat} (h : l.length ≤ n) : (S l).length ≤ n := by rw [S_length]; exact h
theorem three (a b c : List Nat) : S a ++ S b ++ S c = S (a ++ (b ++ c)) := by rw [S_append, S_append, List.append_assoc]
theorem no_mark {b : Bool} (h : S (markB b) = Str.ofString "") : b = false := by
  cases b with
  | false => rfl
  | true => rw [S_nil] at h; exact absurd (S_inj h) (by decide)
theorem is_mark {b : Bool} (h : S (markB b) = Str.ofString "'") : b = true := by
  cases b with
  | true => rfl
  | false => rw [S39] at h; exact absurd (S_inj h) (by decide)
set_option maxRecDepth 100000 in
theorem turn_eq2 : turnBody = pc 0 1 ++ (pc 1 1 ++ (pc 2 1 ++ (pc 3 1 ++ (pc 4 1 ++ (pc 5 1 ++ (pc 6 1 ++ (pc 7 1 ++ (pc 8 1 ++ (pc 9 1 ++ (pc 10 1 ++ (pc 11 1 ++ (pc 12 1 ++ [])))))))))))) := by kernel_rfl
theorem nums_map {g0 h : Heap} {L : Addr} {M : Str → Option Value} {v : Value} (F : Fr g0 L h M) (e : M (Str.ofString "numbers") = some v) : Fr g0 L h (fun y => if y = Str.ofString "numbers" then some v else M y) :=
  Fr.cong F fun y => by
    by_cases q : y = Str.ofString "numbers"
    · subst q; rw [if_pos rfl, e]
    · rw [if_neg q]
theorem law_turn {w : World} {s : Shared} {g0 : Heap} {L fa : Addr} {cd : Value} {p : Program} {loose : List Str} {mean : ExcName → Option Value} {mg mb : Str → Option Value} {Q : Flow → Shared → Prop} {E : Value → Shared → Prop} {mx : Str → Option Value} {k : Int} {t : Tok} {NA : Addr} {nv : List Value} {vp vk : Option Value} {tl : List (Addr × Obj)}
    (B : Below callerA g0 [] g0) (X : (KF w.params).In g0) (T : Top p loose mean mg mb g0) (h4 : g0.get? 4 = some modJ)
    (F : Fr g0 L s.heap (fun y => if y = Str.ofString "first" then some (.int k t) else if y = Str.ofString "numbers" then some (.ref NA) else mx y))
    (hL : Led g0 L s.heap vp vk tl) (hNA : (NA, LCg.lst nv) ∈ tl) (hI : IntsN 9 nv) (hk : k = 0 ∨ k = 3 ∨ k = 6) (hbare : AllBare s.gens)
    (h : ∀ (s' : Shared) (mx' : Str → Option Value) vp' vk' tl', Fr g0 L s'.heap (fun y => if y = Str.ofString "numbers" then some (.ref NA) else mx' y) → Led g0 L s'.heap vp' vk' tl' → (∀ q ∈ tl, q ∈ tl') → AllBare s'.gens → s'.os = s.os → Q .next s') :
    wpAny (model PySem.Challenge.rw_nq0205_01.prog w) (callerA.deeper (envL L fa cd)) (execs turnBody (envL L fa cd)) Q E s := by
  rw [turn_eq2]
  refine turn_words B X T F hL hNA hI hk fun h1 tk1 WA ys tl1 F1 L1 s1 hWA hW => ?_
  obtain ⟨ws, hst, hw, h3⟩ := hW
  have hcl : (CS ws).length ≤ 30 := Nat.le_trans (cs_len hw h3) (by decide)
  have hkl : (keptC (CS ws)).length ≤ 30 := Nat.le_trans (kept_len hw h3) (by decide)
  have hfa : (flatA (CS ws)).length ≤ 200 := Nat.le_trans (cs_flat hw h3) (by decide)
  have hfk : (flatA (keptC (CS ws))).length ≤ 200 := Nat.le_trans (kept_flat hw h3) (by decide)
  refine turn_cells B X T F1 L1 hWA hst hw h3 fun h2 tk2 CL vs c tl2 F2 L2 s2 hCL hc => ?_
  refine turn_bounds (ys := []) (ws := []) B X T F2 L2 hCL hc hcl fun h3' tk3 tb te F3 L3 => ?_
  refine turn_kept (ys := []) B X T F3 L3 hCL hc hw h3 fun h4' tk4 KL tl3 F4 L4 s3 hKL => ?_
  have hc3 := CellsIn.sub hc s3
  have hk3 := hc3.kept
  refine turn_line B X T F4 h4 L4 (s3 _ (s2 _ hWA)) hst hw h3 hbare fun s5 tq F5 L5 hb5 ho5 => ?_
  refine turn_name (ys := []) B X T F5 L5 hw h3 fun h6 tk6 tn F6 L6 => ?_
  refine turn_test1 (ys := []) (vk := none) B X T F6 L6 (s3 _ hCL) hKL hc3 hk3 hcl hkl hfa hfk rfl rfl fun h7 tk7 F7 L7 => ?_
  refine turn_places (ys := []) (vs := []) (cs := []) (vk := none) (c := 0) B X T F7 L7 hKL hk3 hkl fun h8 tk8 PL zs tl4 F8 L8 s4 hPL hz => ?_
  refine turn_due (vs := []) (cs := []) (vp := none) (vk := none) (c := 0) B X T F8 L8 (s4 _ (s3 _ (s2 _ hWA))) (s4 _ hKL) hPL (CellsIn.sub hk3 s4) hkl hz hst h3 (kept_flatB hw h3) fun h9 tk9 DU ds tl5 F9 L9 s5' hDU hds => ?_
  have hc5 := CellsIn.sub hc3 fun q hq => s5' q (s4 q hq)
  have hCL5 := s5' _ (s4 _ (s3 _ hCL))
  refine turn_ahead (KL := 0) (ys := []) (kvs := []) (ks := []) (c2 := 0) B X T F9 L9 hCL5 hc5 hcl (Nat.le_trans (bounds_le (CS ws)).1 (bounds_le (CS ws)).2) fun h10 tk10 xa ta F10 ea L10 => ?_
  refine turn_behind (KL := 0) (ys := []) (kvs := []) (ks := []) (c2 := 0) B X T F10 L10 hCL5 hc5 hcl fun h11 tk11 xb tb2 F11 eb L11 => ?_
  have pl := plain_law ws
  have ea' : xa = S (markB (aheadB (CS ws))) := ea
  have eb' : xb = S (markB (behindB (CS ws))) := eb
  subst ea' eb'
  have e3 := three (markB (aheadB (CS ws))) (flatA (keptC (CS ws))) (markB (behindB (CS ws)))
  have hm : ∀ b, (markB b).length ≤ 1 := fun b => by cases b <;> decide
  refine turn_said1 (KL := 0) (ys := []) (vs := []) (kvs := []) (cs := []) (ks := []) (c := 0) (c2 := 0) B X T F11 L11 hDU hds (mark_len _) (S_len hfk) (mark_len _) ?hx ?hok ?htk fun h12 tk12 F12 L12 => ?_
  case hx =>
    rw [e3]
    refine S_len ?_
    have := hm (aheadB (CS ws))
    have := hm (behindB (CS ws))
    rw [List.length_append, List.length_append]
    omega
  case hok => rw [e3, S_toList]; exact pl.ok3
  case htk => rw [e3, S_toList]; exact pl.tk3
  refine turn_said2 (KL := 0) (dsv := []) (ds := []) (ys := []) (vs := []) (kvs := []) (cs := []) (ks := []) (c := 0) (c2 := 0) B X T F12 L12 (S_len hfk) (fun e => ?hok2) (fun e1 e2 => ?htk2) fun h13 tk13 F13 L13 => ?_
  case hok2 => rw [S_toList]; exact pl.ok4 (no_mark e)
  case htk2 => rw [S_toList]; exact pl.tk4 (no_mark e1) (is_mark e2)
  exact wpAny_execs_nil (h _ _ _ _ tl5 (nums_map F13 (by kernel_rfl)) L13 (fun q hq => s5' q (s4 q (s3 q (s2 q (s1 q hq))))) hb5 ho5)
end Mine
end PartF13
theorem Mine.flushF14 : True := by
  w_top off
  trivial
section PartF14
open PySem PySem.W PyProof.Rows PySem.Calls
set_option Elab.async false
set_option linter.unusedVariables false
namespace Mine
theorem kwF14x0 : True := by
  k_with_none
  k_with "size_fits" => first | (with_reducible assumption) | ((try simp only [PySem.Str.length_append, sizeLine_eq]); omega)
  k_with "k_room" => ((try simp only [depth_under_make, depth_under_kw, depth_in1, depth_deeper, depth_caller, depth_mark]); first | omega | decide)
  k_with "k_units" => ((try simp only [units_under_kw, units_in1, units_deeper, units_caller, Around.mark_units]); first | omega | decide)
  k_with "k_all" => (first | (with_reducible assumption) | exact List.forall_mem_nil _ | (refine' List.forall_mem_cons.mpr ⟨?az6b5, ?bz6b5⟩; (case az6b5 => k_ne); (case bz6b5 => k_all)))
  k_with "CompSrc" => (k_here; refine stop_of ?_)
  k_with "CompSrcT" => (k_here; refine stop_of ?_)
  trivial
theorem Led.sub {g0 h : Heap} {L : Addr} {vp vk : Option Value} {tl tl' : List (Addr × Obj)} (x : Led g0 L h vp vk tl') (k : ∀ q ∈ tl, q ∈ tl') : Led g0 L h vp vk tl := by
  obtain ⟨op, ok, ps, N, hop, hok, htr, hoff, h7⟩ := x
  refine ⟨op, ok, ps, fun q hq => ?_, hop, hok, htr, fun q hq => hoff q (k q hq), h7⟩
  simp only [List.mem_cons] at hq
  rcases hq with rfl | rfl | rfl | hq
  · exact N _ (by simp)
  · exact N _ (by simp)
  · exact N _ (by simp)
  · exact N _ (.tail _ (.tail _ (.tail _ (k q hq))))
theorem kwF14x1 : True := by
  k_with "exec For Name List cons nil" => (k_here; k_dflt (refine For_law ?_))
  k_with "pyIter ref" => (k_here; refine stop_of ?_)
  trivial
set_option maxRecDepth 100000 in
set_option maxHeartbeats 4000000 in
theorem law_rest {w : World} {s : Shared} {g0 : Heap} {L fa : Addr} {cd : Value} {p : Program} {loose : List Str} {mean : ExcName → Option Value} {mg mb : Str → Option Value} {Q : Flow → Shared → Prop} {E : Value → Shared → Prop} {mx : Str → Option Value} {NA : Addr} {nv : List Value} {op ok : Obj}
    (B : Below callerA g0 [] g0) (X : (KF w.params).In g0) (T : Top p loose mean mg mb g0) (h4 : g0.get? 4 = some modJ)
    (F : Fr g0 L s.heap (fun y => if y = Str.ofString "numbers" then some (.ref NA) else mx y))
    (N : News g0 L s.heap [(NA, LCg.lst nv), (L + 1 + 1 + 1 + 1, op), (L + 1 + 1 + 1, ok), (767, tabJ #[])]) (hop : op.data = .cell none) (hok : ok.data = .cell none) (h7 : 767 < L) (hNA : OffL L NA) (hI : IntsN 9 nv) (hbare : AllBare s.gens)
    (hE : PassesOwn (model PySem.Challenge.rw_nq0205_01.prog w) (callerA.deeper (envL L fa cd)) (envL L fa cd) E)
    (h : ∀ (s' : Shared) (mx' : Str → Option Value) vp' vk', Fr g0 L s'.heap mx' → Led g0 L s'.heap vp' vk' [] → AllBare s'.gens → s'.os = s.os → Q (.ret (.bool true)) s') :
    wpAny (model PySem.Challenge.rw_nq0205_01.prog w) (callerA.deeper (envL L fa cd)) (execs (bd 2 1 ++ bd 3 1) (envL L fa cd)) Q E s := by
  revert X; k_fill; intro X
  k_steps
  refine stop_to ?_
  rename Fr g0 L _ _ => F1
  rename News g0 L _ _ => N1
  rename_i LI h1 l1
  have oLI : OffL L LI := ⟨Nat.ne_of_gt (by first | exact l1.2.1 | omega), Nat.ne_of_gt (by first | exact l1.2.2.1 | omega), Nat.ne_of_gt (by first | exact l1.2.2.2 | exact l1.2.2.2.1 | omega)⟩
  have L1 : Led g0 L h1 none none [(LI, W.listOf #[Value.int 0 s.toks, Value.int 3 (s.toks + 1), Value.int 6 (s.toks + 1 + 1)] 0), (NA, LCg.lst nv)] := by
    refine ⟨op, ok, #[], fun q hq => ?_, hop, hok, trivial, fun q hq => ?_, h7⟩
    · simp only [List.mem_cons, List.not_mem_nil, or_false] at hq
      rcases hq with rfl | rfl | rfl | rfl | rfl <;> exact N1 _ (by simp)
    · simp only [List.mem_cons, List.not_mem_nil, or_false] at hq
      rcases hq with rfl | rfl
      · exact oLI
      · exact hNA
  have hLI := N1 _ (.head _)
  have hl : h1.IsList LI #[Value.int 0 s.toks, Value.int 3 (s.toks + 1), Value.int 6 (s.toks + 1 + 1)] := ⟨_, hLI.1, rfl, _, rfl⟩
  refine wpAny_pyIter_list hl ?_
  dsimp only
  have hlt : LI < h1.objs.size := Heap.lt_size hLI.1
  have hLlt : L < h1.objs.size := F1.ns.lt
  have h0I : g0.get? h1.objs.size = none := Heap.get?_none_of_le (Nat.le_trans F1.above (Nat.le_of_lt hLlt))
  generalize hH2 : h1.push { cls := .type "list_iterator", data := .fields #[.ref LI, .int 0 0] } = H2
  have up : HSub h1 H2 := fun b o e => hH2 ▸ Heap.get?_push_of_some _ e
  have hI0 : H2.IsListIter h1.objs.size LI 0 := ⟨_, hH2 ▸ Heap.get?_push_size _ rfl, rfl, rfl⟩
  have oI : OffL L h1.objs.size := by
    obtain ⟨op', ok', ps', N', _⟩ := L1
    exact offL_fresh N' (Heap.get?_none_of_le (Nat.le_refl _))
  generalize hIe : h1.objs.size = I at hI0 oI hlt hLlt h0I ⊢
  have Lup : ∀ {h h' : Heap} {vp vk : Option Value} {tl : List (Addr × Obj)}, Led g0 L h vp vk tl → (∀ q : Addr × Obj, q.1 ≠ I → h.get? q.1 = some q.2 → h'.get? q.1 = some q.2) → (∀ q ∈ tl, q.1 ≠ I) → Led g0 L h' vp vk tl := by
    rintro h h' vp vk tl ⟨op', ok', ps', N', a1, a2, a3, a4, a5⟩ k ht
    refine ⟨op', ok', ps', fun q hq => ⟨k q ?_ (N' q hq).1, (N' q hq).2⟩, a1, a2, a3, a4, a5⟩
    simp only [List.mem_cons] at hq
    rcases hq with rfl | rfl | rfl | hq
    · exact oI.1.symm
    · exact oI.2.1.symm
    · exact oI.2.2.symm
    · exact ht q hq
  have nI : ∀ q ∈ [(LI, W.listOf #[Value.int 0 s.toks, Value.int 3 (s.toks + 1), Value.int 6 (s.toks + 1 + 1)] 0), (NA, LCg.lst nv)], q.1 ≠ I := fun q hq => by
    simp only [List.mem_cons, List.not_mem_nil, or_false] at hq
    rcases hq with rfl | rfl
    · exact Nat.ne_of_lt hlt
    · exact Nat.ne_of_lt (hIe ▸ Heap.lt_size (N1 (NA, LCg.lst nv) (by simp)).1)
  have Wk := Walks.list (prog := PySem.Challenge.rw_nq0205_01.prog) (w := w) (A := callerA.deeper (envL L fa cd)) rfl I LI (Nat.ne_of_lt hlt) #[Value.int 0 s.toks, Value.int 3 (s.toks + 1), Value.int 6 (s.toks + 1 + 1)]
  have list_in : ∀ {h : Heap} {vp vk : Option Value}, Led g0 L h vp vk [(LI, W.listOf #[Value.int 0 s.toks, Value.int 3 (s.toks + 1), Value.int 6 (s.toks + 1 + 1)] 0), (NA, LCg.lst nv)] → h.IsList LI #[Value.int 0 s.toks, Value.int 3 (s.toks + 1), Value.int 6 (s.toks + 1 + 1)] := by
    rintro h vp vk ⟨op', ok', ps', N', _⟩
    exact ⟨_, (N' _ (.tail _ (.tail _ (.tail _ (.head _))))).1, rfl, _, rfl⟩
  have frI : ∀ {h h' : Heap} {m : Str → Option Value}, Fr g0 L h m → (∀ b o, b ∉ [I] → h.get? b = some o → h'.get? b = some o) → Fr g0 L h' m := fun F' k => LCg.fr_but F' k (Nat.ne_of_lt hLlt) h0I
  refine ⟨3, fun i s' => (∃ (mx' : Str → Option Value) (vp' vk' : Option Value), Fr g0 L s'.heap (fun y => if y = Str.ofString "numbers" then some (.ref NA) else mx' y) ∧ Led g0 L s'.heap vp' vk' [(LI, W.listOf #[Value.int 0 s.toks, Value.int 3 (s.toks + 1), Value.int 6 (s.toks + 1 + 1)] 0), (NA, LCg.lst nv)]) ∧ s'.heap.IsListIter I LI i ∧ AllBare s'.gens ∧ s'.os = s.os, ?j0, ?turn, ?done, fun _ => rfl⟩
  case j0 => exact ⟨⟨mx, none, none, F1.keeps up, Lup L1 (fun q _ e => up _ _ e) nI⟩, hI0, hbare, rfl⟩
  case turn =>
    rintro i s3 hi ⟨⟨mx', vp', vk', F3, L3⟩, hI3, hb3, ho3⟩
    refine Wk.item i _ _ _ hi ⟨hI3, list_in L3⟩ fun v h4' tk4 hv hst4 hk4 => ⟨v, rfl, ?_⟩
    have F4 := frI F3 hk4
    have L4 := Lup L3 (fun q hq e => hk4 _ _ (by simpa using hq) e) nI
    obtain ⟨k, t, rfl, hk⟩ : ∃ k t, v = .int k t ∧ (k = 0 ∨ k = 3 ∨ k = 6) := by
      rcases i with _ | _ | _ | i
      · exact ⟨0, _, (Option.some.inj hv).symm, .inl rfl⟩
      · exact ⟨3, _, (Option.some.inj hv).symm, .inr (.inl rfl)⟩
      · exact ⟨6, _, (Option.some.inj hv).symm, .inr (.inr rfl)⟩
      · omega
    obtain ⟨oI4, eI4, cI4, dI4⟩ := hst4.1
    obtain ⟨op4, ok4, ps4, N4, b1, b2, b3, b4, b5⟩ := L4
    have N5 : News g0 L h4' ((I, oI4) :: (LI, W.listOf #[Value.int 0 s.toks, Value.int 3 (s.toks + 1), Value.int 6 (s.toks + 1 + 1)] 0) :: (NA, LCg.lst nv) :: (L + 1 + 1 + 1 + 1, op4) :: (L + 1 + 1 + 1, ok4) :: (767, tabJ ps4) :: []) := fun q hq => by
      simp only [List.mem_cons, List.not_mem_nil, or_false] at hq
      rcases hq with rfl | rfl | rfl | rfl | rfl | rfl
      · exact ⟨eI4, Nat.ne_of_gt hLlt, h0I⟩
      all_goals exact N4 _ (by simp)
    clear F1 N1 F3
    iterate 2 walk1
    rename Fr g0 L _ _ => F5
    rename News g0 L _ _ => N6
    have L5 : Led g0 L _ vp' vk' [(I, oI4), (LI, W.listOf #[Value.int 0 s.toks, Value.int 3 (s.toks + 1), Value.int 6 (s.toks + 1 + 1)] 0), (NA, LCg.lst nv)] := Led.intro N6 b1 b2 b3 b5 (fun q hq => ?a) (by simp) (by simp) (by simp) (fun q hq => ?b)
    case a =>
      simp only [List.mem_cons, List.not_mem_nil, or_false] at hq
      rcases hq with rfl | rfl | rfl <;> simp
    case b =>
      simp only [List.mem_cons, List.not_mem_nil, or_false] at hq
      rcases hq with rfl | rfl | rfl
      · exact oI
      · exact oLI
      · exact hNA
    refine law_turn B X T h4 F5 L5 (by simp) hI hk hb3 fun s6 mx6 vp6 vk6 tl6 F6 L6 s6' hb6 ho6 => ?_
    refine ⟨⟨mx6, vp6, vk6, F6, L6.sub fun q hq => s6' q (.tail _ hq)⟩, ?_, hb6, ho6.trans ho3⟩
    obtain ⟨_, _, _, N7, _⟩ := L6
    exact ⟨oI4, (N7 _ (.tail _ (.tail _ (.tail _ (s6' _ (.head _)))))).1, cI4, dI4⟩
  case done =>
    rintro s3 ⟨⟨mx', vp', vk', F3, L3⟩, hI3, hb3, ho3⟩
    refine Wk.done _ _ _ ⟨hI3, list_in L3⟩ fun h4' tk4 hk4 => ⟨rfl, ?_⟩
    have F4 := frI F3 hk4
    have L4 := Lup L3 (fun q hq e => hk4 _ _ (by simpa using hq) e) nI
    clear F1 N1 F3
    k_steps
    exact h _ _ _ _ F4 (L4.sub fun _ q => nomatch q) hb3 ho3
end Mine
end PartF14
theorem Mine.flushF15 : True := by
  w_top off
  trivial
section PartF15
open PySem PySem.W PyProof.Rows PySem.Calls
set_option Elab.async false
set_option linter.unusedVariables false
namespace Mine
set_option maxRecDepth 100000 in
set_option maxHeartbeats 4000000 in
theorem law_walk : WalkO Q0 loose0 (XL Q0 []) (InK KF2) PySem.Challenge.rw_nq0205_01.row.toRowW dLaw [] fun f vs => PySem.call f vs := by
  intro w s₀ s₁ mg mb G Y fa o pm cd doc dV kV ho hd hcd hD hmg hg args vals as hpre hlay hrd hwl hlo
  have X2 : (KF2 w.params).In s₁.heap := Y
  have X0 := X0_of X2
  have hT9 : TabsAt [(771, 767)] s₁.heap := fun q hq => by
    obtain rfl := List.mem_singleton.mp hq
    exact ⟨hd771 X0, at767 X2⟩
  have h4 := at4 X2
  have h767 : 767 < s₁.heap.objs.size := Heap.lt_size (at767 X2)
  refine Ground.open G ?_
  intro T B D TE TW
  wrow_args hpre hlay hrd hwl hlo
  refine enter_call ?_
  refine post_law hT9 ?_
  clear D TE TW B
  w_call any ho hd hcd hD T F
  rename News _ _ _ _ => N
  rename_i SA vals bs hLs ra wl r0 hI0 hr0 hc1 hc2 h₁ tk₁ w4 w3 w2 w1 e4 e3 e2 e1 x0
  have C' := ghost_code hT9
  revert X0; k_fill; intro X0
  have X' := ghost_K hT9 X0 (by kernel_rfl)
  have T' := ghost_top hT9 T
  have K' := ghost_below hT9
  have N' := ghost_news hT9 F N
  have F' := ghost_fr hT9 F
  have h4' := ghost_get hT9 h4 (by intro q; cases q)
  kn_lists hT9
  simp only [tabNews, List.map_cons, List.map_nil, List.nil_append, List.cons_append] at N'
  clear N X0 F C' hd ho hmg X2 Y G hD hcd
  rename IntsAre _ _ => hI
  rename (ghostOf s₁.heap [(771, 767)]).IsList _ _ => hS
  rename ¬ _ < _ => h63
  have h63' := h63
  rw [body_eq]
  have F'' : Fr (ghostOf s₁.heap [(771, 767)]) s₁.heap.objs.size _ (fun y => List.lookup y []) := Fr.cong F' fun y => by kernel_rfl
  have e4' : w4.data = .cell none := e4.trans (by kernel_rfl)
  have e3' : w3.data = .cell none := e3.trans (by kernel_rfl)
  have e2' : w2.data = .cell none := e2.trans (by kernel_rfl)
  have e1' : w1.data = .cell (some (.ref SA)) := e1.trans (by kernel_rfl)
  have hn63 : List.length _ ≤ 63 := Nat.le_of_not_lt fun q => h63 (Int.ofNat_lt.mpr q)
  clear e4 e3 e2 e1 x0 F' h63 h63'
  show wpAny (model PySem.Challenge.rw_nq0205_01.prog w) (callerA.deeper (envL s₁.heap.objs.size fa cd)) (execs (bd 0 2 ++ (bd 2 1 ++ bd 3 1)) (envL s₁.heap.objs.size fa cd)) _ _ (⟨h₁, s₁.gens, s₁.drawn, tk₁, s₁.os⟩ : Shared)
  refine @law_start w ⟨h₁, s₁.gens, s₁.drawn, tk₁, s₁.os⟩ (ghostOf s₁.heap [(771, 767)]) s₁.heap.objs.size fa SA cd _ _ _ _ _ w4 w3 w2 w1 _ _ (bd 2 1 ++ bd 3 1) _ _ K' X' T' F'' N' h767 e4' e3' e2' e1' hS hI hn63 ?_
  intro h2 tk2 NA nv F2 N2 hI2 hNA
  refine law_rest K' X' T' h4' F2 N2 e4' e3' h767 hNA hI2 ?_ (by passes_own) ?_
  · show AllBare s₁.gens
    rw [hg]
    exact .of_eq rfl
  · intro s' mx' vp' vk' F3 L3 hb3 ho3
    obtain ⟨_, _, ps, N3, _⟩ := L3
    exact ⟨rfl, F3.keep, ho3, hb3, ⟨ps, (N3 _ (.tail _ (.tail _ (.head _)))).1⟩⟩
end Mine
end PartF15
theorem PySem.Challenge.cw_nq0205_01_holds : PySem.Challenge.rw_nq0205_01.Holds :=
  Mine.hd Mine.law_walk
