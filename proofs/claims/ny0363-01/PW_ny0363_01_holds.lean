import PyProof.Rows.All
import Wide.All
import OpenK.AllK
import Wide.FinOn
import KE.KFind
import KE.KPop
import PyProof.AttrMissHeap
import PyProof.EnumStmt
import PyProof.FactsAll.set
import PyProof.ListNew
import PyProof.ListTruth
import PyProof.RangeFor
import PyProof.Rows.ChunkLeaf
import PyProof.SeqRoads2
import PyProof.Truth
import PyProof.ZipIter
import PySem.Challenge.RW_ny0363_01
open PySem PySem.W PyProof.Rows
set_option Elab.async false
section
set_option maxRecDepth 1000000
namespace Mine
/-- the text with every name read out; the same program -/
noncomputable def twin : {q : Program // PySem.Challenge.pw_ny0363_01 = q} := by
  apply Subtype.mk
  conv => lhs; reduce
noncomputable abbrev twpw : Program := twin.1
theorem pw_eq : PySem.Challenge.pw_ny0363_01 = twpw := twin.2
/-! the objects of the top that the walk reads -/
def nth : List Stmt → Nat → Stmt
  | [], _ => .Pass default
  | x :: _, 0 => x
  | _ :: r, n + 1 => nth r n
abbrev st (i : Nat) : Stmt := nth PySem.Challenge.pw_ny0363_01.main.body i
def clsBody : Stmt → List Stmt
  | .ClassDef _ _ _ b _ _ _ _ _ _ _ => b
  | _ => []
abbrev me (i j : Nat) : Stmt := nth (clsBody (st i)) j
def fnO (s : Stmt) (qual : Str) (dV pm cd : Value) : Obj := match s with
  | .FunctionDef name args body _ _ _ scope _ _ _ => ⟨.type "function", none, .func (fnOf name qual args body scope dV .none .none pm none cd .none), #[]⟩
  | _ => ⟨.none, none, .plain, #[]⟩
abbrev t (x : String) : Str := Str.ofString x
abbrev e (P : Params) (x : String) (tk : Tok) (v : Value) : DictEntry := ⟨PyData.keyHash P (Str.ofString x), .str (Str.ofString x) tk, v⟩
noncomputable def K (P : Params) : Frag :=
  (nat_lit 2, ⟨.none, none, (.dict #[e P "imp\x6frt.loaded._collections" 185 (.bool true), e P "class._frozen_importlib.BuiltinImporter" 187 (.ref 15), e P "watched.imp\x6frt" 208 (.ref 19), e P "class._frozen_importlib.ModuleSpec" 218 (.ref 23), e P "sys.modules.booked-epoch" 247 (.int 3 0), e P "sys.modules.landed._collections" 248 (.bool true), e P "imp\x6frt.later-laid._collections" 263 (.bool true), e P "watched.library" 265 (.ref 28), e P "watched.library-objects" 0 (.str (t "\x0d") 0), e P "watched.library-deep._collections" 266 (.str (t "\x04\x00\x00\x0c\x04\x00\x00\x0c\x04\x00\x00\x03\x04\x00\x00\x0c\x08\x04dict\x02") 0), e P "type.__subclasses__.OSError.0" 334 (.int 70 0), e P "type.__subclasses__.OSError.n" 335 (.int 1 0)] 12), #[]⟩) ::
  (nat_lit 3, ⟨(.type "dict"), none, (.dict #[e P "__name__" 165 (.str (t "law_ny0363_01") 1232), e P "__doc__" 166 .none, e P "__package__" 167 .none, e P "__loader__" 168 (.builtin "__main__.__loader__#op\x61que"), e P "__spec__" 169 .none, e P "__annotations__" 170 (.ref 6), e P "__builtins__" 171 (.ref 4), e P "__file__" 173 (.str (t "/claim/cut.py") 172), e P "__cached__" 174 .none, e P "deque" 272 (.type "collections.deque"), e P "_wall" 285 (.ref 39), e P "unorderable_list_difference" 297 (.ref 46), e P "_whence" 307 (.ref 53), e P "_index" 315 (.ref 60), e P "UnsupportedOperation" 337 (.ref 70), e P "IOBase" 369 (.ref 90), e P "BufferedIOBase" 387 (.ref 105), e P "TextIOBase" 405 (.ref 117), e P "BytesIO" 667 (.ref 347), e P "StringIO" 954 (.ref 594), e P "_kind" 965 (.ref 603), e P "_fspath" 974 (.ref 610), e P "_check_arg_types" 984 (.ref 617), e P "isabs" 991 (.ref 624), e P "join" 1002 (.ref 631), e P "dirname" 1012 (.ref 638), e P "shlex" 1153 (.ref 729), e P "split" 1163 (.ref 741), e P "Entry" 1222 (.ref 779), e P "merge_entries" 1231 (.ref 790), e P "_law_prime" 1240 (.ref 797), e P "_law_stands" 1248 (.ref 804), e P "_law_dressed" 1260 (.ref 811), e P "_law_value" 1270 (.ref 818), e P "_law_divisor" 1278 (.ref 825), e P "_law_record" 1286 (.ref 832), e P "_law_apart" 1294 (.ref 839), e P "_law_shared" 1306 (.ref 846), e P "_law_spanned" 1316 (.ref 853), e P "law" 1322 (.ref 858)] 40), #[]⟩) ::
  (nat_lit 45, ⟨(.type "code"), none, (.fields #[(.str (t "unorderable_list_difference") 288), (.str (t "unorderable_list_difference") 289), (.str (t "/claim/cut.py") 290), (.int 6 0), (.int 2 0), (.int 0 0), (.int 0 0), (.int 3 0), (.ref 40), (.bool true), (.int 273 0), (.ref 41), .none, (.ref 42), (.ref 43), (.ref 44), (.int 295 0), (.int 6 0), (.str (t "/claim/cut.py") 296)]), #[]⟩) ::
  (nat_lit 46, fnO (st 3) (t "unorderable_list_difference") .none (.str (t "cpy313.unittest.util") 286) (.ref 45)) ::
  (nat_lit 59, ⟨(.type "code"), none, (.fields #[(.str (t "_index") 308), (.str (t "_index") 309), (.str (t "/claim/cut.py") 310), (.int 21 0), (.int 2 0), (.int 0 0), (.int 0 0), (.int 3 0), (.ref 54), (.bool true), (.int 273 0), (.ref 55), .none, (.ref 56), (.ref 57), (.ref 58), (.int 313 0), (.int 21 0), (.str (t "/claim/cut.py") 314)]), #[]⟩) ::
  (nat_lit 60, fnO (st 6) (t "_index") .none (.str (t "io") 298) (.ref 59)) ::
  (nat_lit 86, ⟨(.type "code"), none, (.fields #[(.str (t "__new__") 352), (.str (t "IOBase.__new__") 353), (.str (t "/claim/cut.py") 354), (.int 33 0), (.int 1 0), (.int 1 0), (.int 0 0), (.int 15 0), (.ref 81), (.bool true), (.int 273 0), (.ref 82), .none, (.ref 83), (.ref 84), (.ref 85), (.int 358 0), (.int 33 0), (.str (t "/claim/cut.py") 359)]), #[]⟩) ::
  (nat_lit 87, fnO (me 8 1) (t "IOBase.__new__") .none (.str (t "io") 298) (.ref 86)) ::
  (nat_lit 89, ⟨(.type "dict"), none, (.dict #[e P "__module__" 345 (.str (t "io") 350), e P "__firstlineno__" 349 (.int 30 348), e P "__new__" 360 (.ref 91), e P "__static_attributes__" 361 (.ref 88), e P "__dict__" 364 (.ref 92), e P "__weakref__" 366 (.ref 93), e P "__doc__" 367 .none] 4), #[]⟩) ::
  (nat_lit 90, ⟨(.type "type"), none, (.cls { name := (t "IOBase"), bases := [(.type "object")], mro := [(.ref 90), (.type "object")], ns := 89, qualname := (t "IOBase"), hasDict := true, slotNames := [], subclasses := [(.ref 105), (.ref 117)], abstract := false, collection := none, hasDel := false }), #[none, none, some (.str (t "IOBase") 338), some (.str (t "IOBase") 346), some .none, some (.bool true)]⟩) ::
  (nat_lit 91, ⟨(.type "staticmethod"), none, (.fields #[(.ref 87)]), #[]⟩) ::
  (nat_lit 116, ⟨(.type "dict"), none, (.dict #[e P "__module__" 395 (.str (t "io") 400), e P "__firstlineno__" 399 (.int 39 398), e P "__static_attributes__" 402 (.ref 115), e P "__doc__" 403 .none] 2), #[]⟩) ::
  (nat_lit 117, ⟨(.type "type"), none, (.cls { name := (t "TextIOBase"), bases := [(.ref 90)], mro := [(.ref 117), (.ref 90), (.type "object")], ns := 116, qualname := (t "TextIOBase"), hasDict := true, slotNames := [], subclasses := [(.ref 594)], abstract := false, collection := none, hasDel := false }), #[some (.ref 108), none, some (.str (t "TextIOBase") 388), some (.str (t "TextIOBase") 396), some .none, some (.bool true)]⟩) ::
  (nat_lit 347, ⟨(.type "type"), none, (.cls { name := (t "BytesIO"), bases := [(.ref 105)], mro := [(.ref 347), (.ref 105), (.ref 90), (.type "object")], ns := 346, qualname := (t "BytesIO"), hasDict := true, slotNames := [], subclasses := [], abstract := false, collection := none, hasDel := false }), #[some (.ref 120), none, some (.str (t "BytesIO") 406), some (.str (t "BytesIO") 414), some .none, some (.bool true)]⟩) ::
  (nat_lit 357, ⟨(.type "tuple"), none, (.seq #[(.str (t "") 682), (.str (t "\n") 683)] 0), #[]⟩) ::
  (nat_lit 363, ⟨(.type "code"), none, (.fields #[(.str (t "__init__") 684), (.str (t "StringIO.__init__") 685), (.str (t "/claim/cut.py") 686), (.int 214 0), (.int 3 0), (.int 0 0), (.int 0 0), (.int 3 0), (.ref 358), (.bool true), (.int 273 0), (.ref 359), .none, (.ref 360), (.ref 361), (.ref 362), (.int 690 0), (.int 214 0), (.str (t "/claim/cut.py") 691)]), #[]⟩) ::
  (nat_lit 364, fnO (me 12 1) (t "StringIO.__init__") (.ref 357) (.str (t "io") 298) (.ref 363)) ::
  (nat_lit 370, ⟨(.type "code"), none, (.fields #[(.str (t "__translated") 693), (.str (t "StringIO.__translated") 694), (.str (t "/claim/cut.py") 695), (.int 227 0), (.int 2 0), (.int 0 0), (.int 0 0), (.int 3 0), (.ref 365), (.bool true), (.int 273 0), (.ref 366), .none, (.ref 367), (.ref 368), (.ref 369), (.int 699 0), (.int 227 0), (.str (t "/claim/cut.py") 700)]), #[]⟩) ::
  (nat_lit 371, fnO (me 12 2) (t "StringIO.__translated") .none (.str (t "io") 298) (.ref 370)) ::
  (nat_lit 377, ⟨(.type "code"), none, (.fields #[(.str (t "__check") 702), (.str (t "StringIO.__check") 703), (.str (t "/claim/cut.py") 704), (.int 235 0), (.int 1 0), (.int 0 0), (.int 0 0), (.int 3 0), (.ref 372), (.bool true), (.int 273 0), (.ref 373), .none, (.ref 374), (.ref 375), (.ref 376), (.int 706 0), (.int 235 0), (.str (t "/claim/cut.py") 707)]), #[]⟩) ::
  (nat_lit 378, fnO (me 12 3) (t "StringIO.__check") .none (.str (t "io") 298) (.ref 377)) ::
  (nat_lit 533, ⟨(.type "tuple"), none, (.seq #[(.int (-1) 875)] 0), #[]⟩) ::
  (nat_lit 539, ⟨(.type "code"), none, (.fields #[(.str (t "read") 876), (.str (t "StringIO.read") 877), (.str (t "/claim/cut.py") 878), (.int 357 0), (.int 2 0), (.int 2 0), (.int 0 0), (.int 3 0), (.ref 534), (.bool true), (.int 273 0), (.ref 535), .none, (.ref 536), (.ref 537), (.ref 538), (.int 883 0), (.int 357 0), (.str (t "/claim/cut.py") 884)]), #[]⟩) ::
  (nat_lit 540, fnO (me 12 25) (t "StringIO.read") (.ref 533) (.str (t "io") 298) (.ref 539)) ::
  (nat_lit 593, ⟨(.type "dict"), none, (.dict #[e P "__module__" 675 (.str (t "_io") 680), e P "__firstlineno__" 679 (.int 211 678), e P "__init__" 692 (.ref 364), e P "_StringIO__translated" 701 (.ref 371), e P "_StringIO__check" 708 (.ref 378), e P "_StringIO__check_dot" 715 (.ref 385), e P "_StringIO__line" 730 (.ref 392), e P "closed" 738 (.ref 400), e P "line_buffering" 746 (.ref 408), e P "newlines" 754 (.ref 416), e P "encoding" 762 (.ref 424), e P "errors" 770 (.ref 432), e P "close" 777 (.ref 439), e P "__enter__" 784 (.ref 446), e P "__exit__" 792 (.ref 453), e P "readable" 799 (.ref 460), e P "writable" 806 (.ref 467), e P "seekable" 813 (.ref 474), e P "isatty" 820 (.ref 481), e P "flush" 827 (.ref 488), e P "fileno" 834 (.ref 495), e P "detach" 841 (.ref 502), e P "getvalue" 848 (.ref 509), e P "tell" 855 (.ref 516), e P "seek" 865 (.ref 524), e P "truncate" 873 (.ref 532), e P "read" 885 (.ref 540), e P "readline" 895 (.ref 548), e P "readlines" 905 (.ref 556), e P "__iter__" 912 (.ref 563), e P "__next__" 920 (.ref 570), e P "write" 932 (.ref 577), e P "writelines" 940 (.ref 584), e P "__repr__" 947 (.ref 591), e P "__static_attributes__" 951 (.ref 592), e P "__doc__" 952 .none] 2), #[]⟩) ::
  (nat_lit 594, ⟨(.type "type"), none, (.cls { name := (t "StringIO"), bases := [(.ref 117)], mro := [(.ref 594), (.ref 117), (.ref 90), (.type "object")], ns := 593, qualname := (t "StringIO"), hasDict := true, slotNames := [], subclasses := [], abstract := false, collection := none, hasDel := false }), #[some (.ref 350), none, some (.str (t "StringIO") 668), some (.str (t "StringIO") 676), some .none, some (.bool true)]⟩) ::
  (nat_lit 646, ⟨(.type "tuple"), none, (.seq #[.none, .none, (.bool false), (.bool false)] 0), #[]⟩) ::
  (nat_lit 652, ⟨(.type "code"), none, (.fields #[(.str (t "__init__") 1027), (.str (t "shlex.__init__") 1028), (.str (t "/claim/cut.py") 1029), (.int 482 0), (.int 5 0), (.int 0 0), (.int 0 0), (.int 3 0), (.ref 647), (.bool true), (.int 273 0), (.ref 648), .none, (.ref 649), (.ref 650), (.ref 651), (.int 1036 0), (.int 482 0), (.str (t "/claim/cut.py") 1037)]), #[]⟩) ::
  (nat_lit 653, fnO (me 21 0) (t "shlex.__init__") (.ref 646) (.str (t "cpy313.shlex") 1013) (.ref 652)) ::
  (nat_lit 659, ⟨(.type "code"), none, (.fields #[(.str (t "punctuation_chars") 1039), (.str (t "shlex.punctuation_chars") 1040), (.str (t "/claim/cut.py") 1041), (.int 523 0), (.int 1 0), (.int 0 0), (.int 0 0), (.int 3 0), (.ref 654), (.bool true), (.int 273 0), (.ref 655), .none, (.ref 656), (.ref 657), (.ref 658), (.int 1043 0), (.int 523 0), (.str (t "/claim/cut.py") 1044)]), #[]⟩) ::
  (nat_lit 660, fnO (me 21 1) (t "shlex.punctuation_chars") .none (.str (t "cpy313.shlex") 1013) (.ref 659)) ::
  (nat_lit 661, ⟨(.type "property"), none, (.fields #[(.ref 660), .none, .none, .none, (.str (t "punctuation_chars") 1046), (.bool false)]), #[]⟩) ::
  (nat_lit 689, ⟨(.type "code"), none, (.fields #[(.str (t "get_token") 1071), (.str (t "shlex.get_token") 1072), (.str (t "/claim/cut.py") 1073), (.int 550 0), (.int 1 0), (.int 0 0), (.int 0 0), (.int 3 0), (.ref 684), (.bool true), (.int 273 0), (.ref 685), .none, (.ref 686), (.ref 687), (.ref 688), (.int 1080 0), (.int 550 0), (.str (t "/claim/cut.py") 1081)]), #[]⟩) ::
  (nat_lit 690, fnO (me 21 5) (t "shlex.get_token") .none (.str (t "cpy313.shlex") 1013) (.ref 689)) ::
  (nat_lit 696, ⟨(.type "code"), none, (.fields #[(.str (t "read_token") 1083), (.str (t "shlex.read_token") 1084), (.str (t "/claim/cut.py") 1085), (.int 577 0), (.int 1 0), (.int 0 0), (.int 0 0), (.int 3 0), (.ref 691), (.bool true), (.int 273 0), (.ref 692), .none, (.ref 693), (.ref 694), (.ref 695), (.int 1091 0), (.int 577 0), (.str (t "/claim/cut.py") 1092)]), #[]⟩) ::
  (nat_lit 697, fnO (me 21 6) (t "shlex.read_token") .none (.str (t "cpy313.shlex") 1013) (.ref 696)) ::
  (nat_lit 718, ⟨(.type "code"), none, (.fields #[(.str (t "__iter__") 1111), (.str (t "shlex.__iter__") 1112), (.str (t "/claim/cut.py") 1113), (.int 724 0), (.int 1 0), (.int 0 0), (.int 0 0), (.int 3 0), (.ref 713), (.bool true), (.int 273 0), (.ref 714), .none, (.ref 715), (.ref 716), (.ref 717), (.int 1115 0), (.int 724 0), (.str (t "/claim/cut.py") 1116)]), #[]⟩) ::
  (nat_lit 719, fnO (me 21 9) (t "shlex.__iter__") .none (.str (t "cpy313.shlex") 1013) (.ref 718)) ::
  (nat_lit 725, ⟨(.type "code"), none, (.fields #[(.str (t "__next__") 1118), (.str (t "shlex.__next__") 1119), (.str (t "/claim/cut.py") 1120), (.int 727 0), (.int 1 0), (.int 0 0), (.int 0 0), (.int 3 0), (.ref 720), (.bool true), (.int 273 0), (.ref 721), .none, (.ref 722), (.ref 723), (.ref 724), (.int 1123 0), (.int 727 0), (.str (t "/claim/cut.py") 1124)]), #[]⟩) ::
  (nat_lit 726, fnO (me 21 10) (t "shlex.__next__") .none (.str (t "cpy313.shlex") 1013) (.ref 725)) ::
  (nat_lit 728, ⟨(.type "dict"), none, (.dict #[e P "__module__" 1022 (.str (t "cpy313.shlex") 1013), e P "__firstlineno__" 1026 (.int 480 1025), e P "__init__" 1038 (.ref 653), e P "punctuation_chars" 1046 (.ref 661), e P "push_token" 1054 (.ref 668), e P "push_source" 1063 (.ref 676), e P "pop_source" 1070 (.ref 683), e P "get_token" 1082 (.ref 690), e P "read_token" 1093 (.ref 697), e P "sourcehook" 1101 (.ref 704), e P "error_leader" 1110 (.ref 712), e P "__iter__" 1117 (.ref 719), e P "__next__" 1125 (.ref 726), e P "__static_attributes__" 1146 (.ref 727), e P "__dict__" 1148 (.ref 730), e P "__weakref__" 1150 (.ref 731), e P "__doc__" 1151 .none] 4), #[]⟩) ::
  (nat_lit 729, ⟨(.type "type"), none, (.cls { name := (t "shlex"), bases := [(.type "object")], mro := [(.ref 729), (.type "object")], ns := 728, qualname := (t "shlex"), hasDict := true, slotNames := [], subclasses := [], abstract := false, collection := none, hasDel := false }), #[none, none, some (.str (t "shlex") 1015), some (.str (t "shlex") 1023), some (.builtin "object.__new__"), some (.bool true)]⟩) ::
  (nat_lit 734, ⟨(.type "tuple"), none, (.seq #[(.bool false), (.bool true)] 0), #[]⟩) ::
  (nat_lit 740, ⟨(.type "code"), none, (.fields #[(.str (t "split") 1154), (.str (t "split") 1155), (.str (t "/claim/cut.py") 1156), (.int 732 0), (.int 3 0), (.int 0 0), (.int 0 0), (.int 3 0), (.ref 735), (.bool true), (.int 273 0), (.ref 736), .none, (.ref 737), (.ref 738), (.ref 739), (.int 1161 0), (.int 732 0), (.str (t "/claim/cut.py") 1162)]), #[]⟩) ::
  (nat_lit 741, fnO (st 22) (t "split") (.ref 734) (.str (t "cpy313.shlex") 1013) (.ref 740)) ::
  (nat_lit 754, ⟨(.type "code"), none, (.fields #[(.str (t "__init__") 1178), (.str (t "Entry.__init__") 1179), (.str (t "/claim/cut.py") 1180), (.int 743 0), (.int 1 0), (.int 0 0), (.int 0 0), (.int 3 0), (.ref 749), (.bool true), (.int 273 0), (.ref 750), .none, (.ref 751), (.ref 752), (.ref 753), (.int 1182 0), (.int 743 0), (.str (t "/claim/cut.py") 1183)]), #[]⟩) ::
  (nat_lit 755, fnO (me 24 0) (t "Entry.__init__") .none (.str (t "cpy313.urllib.robotparser") 1164) (.ref 754)) ::
  (nat_lit 778, ⟨(.type "dict"), none, (.dict #[e P "__module__" 1173 (.str (t "cpy313.urllib.robotparser") 1164), e P "__firstlineno__" 1177 (.int 741 1176), e P "__init__" 1184 (.ref 755), e P "__str__" 1194 (.ref 762), e P "applies_to" 1202 (.ref 769), e P "allowance" 1210 (.ref 776), e P "__static_attributes__" 1215 (.ref 777), e P "__dict__" 1217 (.ref 780), e P "__weakref__" 1219 (.ref 781), e P "__doc__" 1220 .none] 4), #[]⟩) ::
  (nat_lit 779, ⟨(.type "type"), none, (.cls { name := (t "Entry"), bases := [(.type "object")], mro := [(.ref 779), (.type "object")], ns := 778, qualname := (t "Entry"), hasDict := true, slotNames := [], subclasses := [], abstract := false, collection := none, hasDel := false }), #[none, none, some (.str (t "Entry") 1166), some (.str (t "Entry") 1174), some (.builtin "object.__new__"), some (.bool true)]⟩) ::
  (nat_lit 789, ⟨(.type "code"), none, (.fields #[(.str (t "merge_entries") 1223), (.str (t "merge_entries") 1224), (.str (t "/claim/cut.py") 1225), (.int 771 0), (.int 2 0), (.int 0 0), (.int 0 0), (.int 3 0), (.ref 784), (.bool true), (.int 273 0), (.ref 785), .none, (.ref 786), (.ref 787), (.ref 788), (.int 1229 0), (.int 771 0), (.str (t "/claim/cut.py") 1230)]), #[]⟩) ::
  (nat_lit 790, fnO (st 25) (t "merge_entries") .none (.str (t "cpy313.urllib.robotparser") 1164) (.ref 789)) ::
  (nat_lit 796, ⟨(.type "code"), none, (.fields #[(.str (t "_law_prime") 1234), (.str (t "_law_prime") 1235), (.str (t "/claim/cut.py") 1236), (.int 779 0), (.int 1 0), (.int 0 0), (.int 0 0), (.int 3 0), (.ref 791), (.bool true), (.int 273 0), (.ref 792), .none, (.ref 793), (.ref 794), (.ref 795), (.int 1238 0), (.int 779 0), (.str (t "/claim/cut.py") 1239)]), #[]⟩) ::
  (nat_lit 797, fnO (st 27) (t "_law_prime") .none (.str (t "law_ny0363_01") 1232) (.ref 796)) ::
  (nat_lit 803, ⟨(.type "code"), none, (.fields #[(.str (t "_law_stands") 1241), (.str (t "_law_stands") 1242), (.str (t "/claim/cut.py") 1243), (.int 781 0), (.int 2 0), (.int 0 0), (.int 0 0), (.int 3 0), (.ref 798), (.bool true), (.int 273 0), (.ref 799), .none, (.ref 800), (.ref 801), (.ref 802), (.int 1246 0), (.int 781 0), (.str (t "/claim/cut.py") 1247)]), #[]⟩) ::
  (nat_lit 804, fnO (st 28) (t "_law_stands") .none (.str (t "law_ny0363_01") 1232) (.ref 803)) ::
  (nat_lit 810, ⟨(.type "code"), none, (.fields #[(.str (t "_law_dressed") 1249), (.str (t "_law_dressed") 1250), (.str (t "/claim/cut.py") 1251), (.int 783 0), (.int 1 0), (.int 0 0), (.int 0 0), (.int 3 0), (.ref 805), (.bool true), (.int 273 0), (.ref 806), .none, (.ref 807), (.ref 808), (.ref 809), (.int 1258 0), (.int 783 0), (.str (t "/claim/cut.py") 1259)]), #[]⟩) ::
  (nat_lit 811, fnO (st 29) (t "_law_dressed") .none (.str (t "law_ny0363_01") 1232) (.ref 810)) ::
  (nat_lit 817, ⟨(.type "code"), none, (.fields #[(.str (t "_law_value") 1261), (.str (t "_law_value") 1262), (.str (t "/claim/cut.py") 1263), (.int 791 0), (.int 1 0), (.int 0 0), (.int 0 0), (.int 3 0), (.ref 812), (.bool true), (.int 273 0), (.ref 813), .none, (.ref 814), (.ref 815), (.ref 816), (.int 1268 0), (.int 791 0), (.str (t "/claim/cut.py") 1269)]), #[]⟩) ::
  (nat_lit 818, fnO (st 30) (t "_law_value") .none (.str (t "law_ny0363_01") 1232) (.ref 817)) ::
  (nat_lit 824, ⟨(.type "code"), none, (.fields #[(.str (t "_law_divisor") 1271), (.str (t "_law_divisor") 1272), (.str (t "/claim/cut.py") 1273), (.int 797 0), (.int 2 0), (.int 0 0), (.int 0 0), (.int 3 0), (.ref 819), (.bool true), (.int 273 0), (.ref 820), .none, (.ref 821), (.ref 822), (.ref 823), (.int 1276 0), (.int 797 0), (.str (t "/claim/cut.py") 1277)]), #[]⟩) ::
  (nat_lit 825, fnO (st 31) (t "_law_divisor") .none (.str (t "law_ny0363_01") 1232) (.ref 824)) ::
  (nat_lit 831, ⟨(.type "code"), none, (.fields #[(.str (t "_law_record") 1279), (.str (t "_law_record") 1280), (.str (t "/claim/cut.py") 1281), (.int 801 0), (.int 1 0), (.int 0 0), (.int 0 0), (.int 3 0), (.ref 826), (.bool true), (.int 273 0), (.ref 827), .none, (.ref 828), (.ref 829), (.ref 830), (.int 1284 0), (.int 801 0), (.str (t "/claim/cut.py") 1285)]), #[]⟩) ::
  (nat_lit 832, fnO (st 32) (t "_law_record") .none (.str (t "law_ny0363_01") 1232) (.ref 831)) ::
  (nat_lit 838, ⟨(.type "code"), none, (.fields #[(.str (t "_law_apart") 1287), (.str (t "_law_apart") 1288), (.str (t "/claim/cut.py") 1289), (.int 805 0), (.int 2 0), (.int 0 0), (.int 0 0), (.int 3 0), (.ref 833), (.bool true), (.int 273 0), (.ref 834), .none, (.ref 835), (.ref 836), (.ref 837), (.int 1292 0), (.int 805 0), (.str (t "/claim/cut.py") 1293)]), #[]⟩) ::
  (nat_lit 839, fnO (st 33) (t "_law_apart") .none (.str (t "law_ny0363_01") 1232) (.ref 838)) ::
  (nat_lit 845, ⟨(.type "code"), none, (.fields #[(.str (t "_law_shared") 1295), (.str (t "_law_shared") 1296), (.str (t "/claim/cut.py") 1297), (.int 807 0), (.int 2 0), (.int 0 0), (.int 0 0), (.int 3 0), (.ref 840), (.bool true), (.int 273 0), (.ref 841), .none, (.ref 842), (.ref 843), (.ref 844), (.int 1304 0), (.int 807 0), (.str (t "/claim/cut.py") 1305)]), #[]⟩) ::
  (nat_lit 846, fnO (st 34) (t "_law_shared") .none (.str (t "law_ny0363_01") 1232) (.ref 845)) ::
  (nat_lit 852, ⟨(.type "code"), none, (.fields #[(.str (t "_law_spanned") 1307), (.str (t "_law_spanned") 1308), (.str (t "/claim/cut.py") 1309), (.int 811 0), (.int 2 0), (.int 0 0), (.int 0 0), (.int 3 0), (.ref 847), (.bool true), (.int 273 0), (.ref 848), .none, (.ref 849), (.ref 850), (.ref 851), (.int 1314 0), (.int 811 0), (.str (t "/claim/cut.py") 1315)]), #[]⟩) ::
  (nat_lit 853, fnO (st 35) (t "_law_spanned") .none (.str (t "law_ny0363_01") 1232) (.ref 852)) ::
  (nat_lit 857, ⟨(.type "code"), none, (.fields #[(.str (t "law") 1317), (.str (t "law") 1318), (.str (t "/claim/cut.py") 1319), (.int 814 0), (.int 1 0), (.int 0 0), (.int 0 0), (.int 3 0), (.ref 854), (.bool true), (.int 273 0), (.ref 855), .none, .none, .none, (.ref 856), (.int 1320 0), (.int 814 0), (.str (t "/claim/cut.py") 1321)]), #[]⟩) ::
  (nat_lit 858, fnO (st 36) (t "law") .none (.str (t "law_ny0363_01") 1232) (.ref 857)) :: []
def addrs : List Addr := [2, 3, 45, 46, 59, 60, 86, 87, 89, 90, 91, 116, 117, 347, 357, 363, 364, 370, 371, 377, 378, 533, 539, 540, 593, 594, 646, 652, 653, 659, 660, 661, 689, 690, 696, 697, 718, 719, 725, 726, 728, 729, 734, 740, 741, 754, 755, 778, 779, 789, 790, 796, 797, 803, 804, 810, 811, 817, 818, 824, 825, 831, 832, 838, 839, 845, 846, 852, 853, 857, 858]
theorem addrs_eq (P : Params) : addrs = (K P).map (·.1) := rfl
/-! a run on trees -/
def trOf (l : List Obj) : Nat → Nat → Nat → BT
  | 0, _, _ => .nil
  | f + 1, a, b => match l[b]? with
    | some o => .node o (trOf l f (2 * a) (a + b)) (trOf l f (2 * a) (2 * a + b))
    | none => .nil
theorem trOf_get (l : List Obj) : ∀ (f a b i : Nat) (o : Obj), (trOf l f a b).get i = some o → l[a * i + b]? = some o
  | 0, a, b, i, o, h => by cases h
  | f + 1, a, b, i, o, h => by
    unfold trOf at h
    cases hb : l[b]? with
    | none => rw [hb] at h; cases h
    | some v =>
      rw [hb] at h
      dsimp only at h
      rw [BT.get_node] at h
      by_cases h0 : i = 0
      · subst h0; rw [if_pos rfl] at h; rw [Nat.mul_zero, Nat.zero_add, hb]; exact h
      · rw [if_neg h0] at h
        by_cases p : i % 2 = 1
        · rw [if_pos p] at h
          have := trOf_get l f _ _ _ _ h
          rw [← this]
          congr 1
          have e := Nat.div_add_mod i 2
          rw [p] at e
          generalize i / 2 = j at e ⊢
          subst e
          rw [Nat.mul_add, Nat.mul_one, ← Nat.mul_assoc, Nat.mul_comm a 2]; omega
        · rw [if_neg p] at h
          have := trOf_get l f _ _ _ _ h
          rw [← this]
          congr 1
          have e : i = 2 * (i / 2 - 1) + 2 := by omega
          generalize i / 2 - 1 = j at e ⊢
          subst e
          rw [Nat.mul_add, ← Nat.mul_assoc, Nat.mul_comm a 2]; omega
def toT (s : Shared) : SharedT := ⟨trOf s.heap.objs.toList 12 1 0, s.heap.objs.size, s.heap.life, s.gens, s.drawn, s.toks, s.os⟩
def fullT (s : Shared) : Bool := (List.range s.heap.objs.size).all fun i => ((trOf s.heap.objs.toList 12 1 0).get i).isSome
theorem toT_abs {s : Shared} (h : fullT s = true) : (toT s).abs = s := by
  obtain ⟨⟨objs, life⟩, gens, drawn, toks, os⟩ := s
  have key : absHeap (trOf objs.toList 12 1 0) objs.size life = ⟨objs, life⟩ := by
    have : (absHeap (trOf objs.toList 12 1 0) objs.size life).objs = objs := by
      apply Array.ext_getElem?
      intro i
      rw [absHeap_at]
      by_cases hi : i < objs.size
      · rw [if_pos hi]
        have := List.all_eq_true.mp h i (List.mem_range.mpr hi)
        obtain ⟨o, ho⟩ := Option.isSome_iff_exists.mp this
        have g := trOf_get _ _ _ _ _ _ ho
        rw [Nat.one_mul, Nat.add_zero, Array.getElem?_toList] at g
        show some (((trOf objs.toList 12 1 0).get i).getD default) = _
        rw [g]
        have ho' : (trOf objs.toList 12 1 0).get i = some o := ho
        rw [ho']; rfl
      · rw [if_neg hi, Array.getElem?_eq_none (by omega)]
    show Heap.mk (absHeap (trOf objs.toList 12 1 0) objs.size life).objs life = _
    rw [this]
  show Shared.mk (absHeap (trOf objs.toList 12 1 0) objs.size life) gens drawn toks os = _
  rw [key]
def goT (stop : Thread → Option Bool) (ok : Thread → Bool) (sp : SharedT → Thread → Option (SharedT × Thread)) : Nat → SharedT → Thread → Option SharedT
  | 0, _, _ => none
  | n + 1, s, t => match stop t with
    | some true => some s
    | some false => none
    | none => match ok t with
      | false => none
      | true => match sp s t with
        | some (s', t') => goT stop ok sp n s' t'
        | none => none
def impStop (at_ : Thread → Option (List Value)) (t : Thread) : Option Bool := match at_ t with
  | some [] => some true
  | some (_ :: _) => some false
  | none => none
def topStop (t : Thread) : Option Bool := match through t with
  | true => some true
  | false => none
theorem imp_of {tb : String → Option Builtin} {p : Program} {w : World} : ∀ {n : Nat} {s s' : SharedT} {t : Thread}, goT (impStop Thread.atExitBegin) (fun _ => true) (stepT (denote tb) p w) n s t = some s' → importEnds tb p w n s.abs t = some s'.abs
  | 0, _, _, _, h => by cases h
  | n + 1, s, s', t, h => by
    unfold goT impStop at h
    unfold importEnds
    cases he : t.atExitBegin with
    | some x =>
      rw [he] at h
      cases x with
      | nil => cases h; rfl
      | cons a l => cases h
    | none =>
      rw [he] at h
      dsimp only at h ⊢
      cases hs : stepT (denote tb) p w s t with
      | none => rw [hs] at h; cases h
      | some r => obtain ⟨s₂, t₂⟩ := r; rw [hs] at h; rw [stepT_spec hs]; exact imp_of h
theorem top_of {tb : String → Option Builtin} {p : Program} {w : World} {n₀ : Nat} {ann : Option Value} : ∀ {n : Nat} {s s' : SharedT} {t : Thread}, goT topStop (stepOk n₀ ann) (stepT (denote tb) p w) n s t = some s' → topRun tb p w n₀ ann n s.abs t = some s'.abs
  | 0, _, _, _, h => by cases h
  | n + 1, s, s', t, h => by
    unfold goT topStop at h
    unfold topRun
    cases he : through t with
    | true => rw [he] at h; cases h; rfl
    | false =>
      rw [he] at h
      dsimp only at h ⊢
      cases hk : stepOk n₀ ann t with
      | false => rw [hk] at h; cases h
      | true =>
        rw [hk] at h
        dsimp only at h ⊢
        cases hs : stepT (denote tb) p w s t with
        | none => rw [hs] at h; cases h
        | some r => obtain ⟨s₂, t₂⟩ := r; rw [hs] at h; rw [stepT_spec hs]; exact top_of h
/-- the opening, the fence and the top, on trees; the makes of the words are handed in -/
def whole (sp : Program → World → SharedT → Thread → Option (SharedT × Thread)) (at_ : Thread → Option (List Value)) (ok : Nat → Option Value → Thread → Bool) (fence : Program → Shared → Option Shared) (start' : Program → Shared × Thread) (ns : Heap → Addr → Str → Option Value)
    (p : Program) (w : World) (N : Nat) : Option SharedT := match fullT (start' (opening p)).1 with
  | false => none
  | true => match goT (impStop at_) (fun _ => true) (sp (opening p) w) N (toT (start' (opening p)).1) (start' (opening p)).2 with
    | none => none
    | some s1 => match fence p s1.abs with
      | none => none
      | some s2 => match fullT s2 && (s2.heap.isNs mainGlobals && s2.gens.size == 0) with
        | false => none
        | true => match goT topStop (ok s2.heap.objs.size (ns s2.heap mainGlobals "__annotations__")) (sp p w) N (toT s2) (topStub p) with
          | none => none
          | some s3 => match staticsOk (importedModules p.main.body) s2.heap s3.abs.heap && namesBound p s3.abs.heap && gensDone s3.abs && laidKept s2.heap s3.abs.heap with
            | true => some s3
            | false => none
theorem whole_ok {p : Program} {w : World} {N : Nat} {s : SharedT} (h : whole (fun p w => stepT (denote treeTable) p w) Thread.atExitBegin stepOk fenceModules? start Heap.nsMap p w N = some s) : openEnds treeTable p w N = some s.abs := by
  unfold whole at h
  cases h1 : fullT (start (opening p)).1 with
  | false => rw [h1] at h; cases h
  | true =>
    rw [h1] at h
    dsimp only at h
    cases h2 : goT (impStop Thread.atExitBegin) (fun _ => true) (stepT (denote treeTable) (opening p) w) N (toT (start (opening p)).1) (start (opening p)).2 with
    | none => rw [h2] at h; cases h
    | some s1 =>
      rw [h2] at h
      dsimp only at h
      have a1 := imp_of h2
      rw [toT_abs h1] at a1
      cases h3 : fenceModules? p s1.abs with
      | none => rw [h3] at h; cases h
      | some s2 =>
        rw [h3] at h
        dsimp only at h
        cases h4 : (fullT s2 && (s2.heap.isNs mainGlobals && s2.gens.size == 0)) with
        | false => rw [h4] at h; cases h
        | true =>
          rw [h4] at h
          dsimp only at h
          obtain ⟨h5, h6⟩ := Bool.and_eq_true_iff.mp h4
          cases h7 : goT topStop (stepOk s2.heap.objs.size (s2.heap.nsMap mainGlobals "__annotations__")) (stepT (denote treeTable) p w) N (toT s2) (topStub p) with
          | none => rw [h7] at h; cases h
          | some s3 =>
            rw [h7] at h
            dsimp only at h
            have a2 := top_of h7
            rw [toT_abs h5] at a2
            cases h8 : (staticsOk (importedModules p.main.body) s2.heap s3.abs.heap && namesBound p s3.abs.heap && gensDone s3.abs && laidKept s2.heap s3.abs.heap) with
            | false => rw [h8] at h; cases h
            | true =>
              rw [h8] at h
              cases h
              unfold openEnds fencedOpening
              rw [a1]
              show (fenceModules? p s1.abs).bind _ = _
              rw [h3]
              show topFrom treeTable p w N s2 = _
              unfold topFrom
              rw [h6]
              dsimp only
              rw [a2]
              show (match staticsOk (importedModules p.main.body) s2.heap s.abs.heap && namesBound p s.abs.heap && gensDone s.abs && laidKept s2.heap s.abs.heap with | true => some s.abs | false => none) = _
              rw [h8]
abbrev qOf (p : Program) : Program := { p with main := { p.main with body := [nth p.main.body 36] } }
abbrev loose : List Str := [t "deque", t "_wall", t "unorderable_list_difference", t "_whence", t "_index", t "UnsupportedOperation", t "IOBase", t "BufferedIOBase", t "TextIOBase", t "BytesIO", t "StringIO", t "_kind", t "_fspath", t "_check_arg_types", t "isabs", t "join", t "dirname", t "shlex", t "split", t "Entry", t "merge_entries", t "_law_prime", t "_law_stands", t "_law_dressed", t "_law_value", t "_law_divisor", t "_law_record", t "_law_apart", t "_law_shared", t "_law_spanned"]
abbrev Xt (q : Program) (s : Shared) : Bool := xlAt q [] s && recOk [] s
end Mine
end
section
set_option maxRecDepth 1000000
namespace Mine
theorem key : ∀ w : World, (whole (fun p w => PySem.W.Fast.tw10156331382660048174 (PySem.W.Fast.tw11892475500146522536 PySem.W.Fast.tw14364793385576792824) p w) PySem.W.Fast.tw3805553451399329143 PySem.W.Fast.tw6613529449190102663 PySem.W.Fast.tw14289696077712309145 PySem.W.Fast.tw1435165496053646825 PySem.W.Fast.tw8920871248978507458 twpw w 6000).map
    (fun s => (PySem.W.Fast.tw4187177175401517315 (qOf twpw) loose (importedModules twpw.main.body) (Xt (qOf twpw)) true s.abs, addrs.map s.abs.heap.get?)) =
    some (openGood (qOf twpw) loose, (K w.params).map fun p => some p.2) := by
  intro w
  kernel_rfl!
end Mine
end
section
set_option maxRecDepth 1000000
set_option maxHeartbeats 0
namespace Mine
abbrev Yf (s : Shared) : List (Option Obj) := addrs.map s.heap.get?
noncomputable abbrev Ya (w : World) : List (Option Obj) := (K w.params).map fun p => some p.2
theorem left_t : LeftO twpw (qOf twpw) loose (Xt (qOf twpw)) Yf Ya 6000 := fun w => by
  have k := key w
  rw [← PySem.W.Fast.te10156331382660048174, ← PySem.W.Fast.te11892475500146522536, ← PySem.W.Fast.te14364793385576792824, ← PySem.W.Fast.te3805553451399329143, ← PySem.W.Fast.te6613529449190102663, ← PySem.W.Fast.te14289696077712309145, ← PySem.W.Fast.te1435165496053646825, ← PySem.W.Fast.te8920871248978507458, ← PySem.W.Fast.te4187177175401517315] at k
  obtain ⟨s, hs, he⟩ := Option.map_eq_some_iff.mp k
  rw [whole_ok hs]
  exact congrArg some he
theorem left : LeftO PySem.Challenge.pw_ny0363_01 (qOf PySem.Challenge.pw_ny0363_01) loose (Xt (qOf PySem.Challenge.pw_ny0363_01)) Yf Ya 6000 := by
  rw [pw_eq]; exact left_t
noncomputable def lawD : OpenLaw := { prog := twpw, name := (Str.ofString "law"), about := [(Str.ofString "unorderable_list_difference")], foot := 10, most := some 63, bound := none, writes := false }
theorem lawD_eq : PySem.Challenge.rw_ny0363_01 = lawD := by
  unfold PySem.Challenge.rw_ny0363_01 lawD; rw [← pw_eq]
theorem saidD : lawD.wellSaid = true := by
  rw [PySem.W.Fast.te9446332074065402090]
  decide +kernel
theorem said : PySem.Challenge.rw_ny0363_01.wellSaid = true := by rw [lawD_eq]; exact saidD
end Mine
end
section
set_option maxRecDepth 1000000
namespace Mine
abbrev qv : Program := qOf PySem.Challenge.pw_ny0363_01
abbrev lo : List Str := looseW qv loose
abbrev HExt (h h' : Heap) : Prop := ∀ b o, h.get? b = some o → h'.get? b = some o
/-- a call of the text's own def f upon vs: what stood stands, and Post -/
abbrev Con (w : World) (d : Nat) (f : Addr) (vs : List Value) (Pre : Heap → Prop) (Post : Heap → Heap → Value → Prop) : Prop :=
  ∀ (mean : ExcName → Option Value) (mg mb : Str → Option Value) (dp un : Nat) (gd : Option (List Code)) (cn : Str) (cs : Scope) (a : Addr) (ccd : Value) (cl : List (Str × Addr)) (outer : List Env) (A₀ : Around) (base h₀ : Heap) (L : Addr) (m : Str → Option Value) (s : Shared) (Q E : Value → Shared → Prop),
    Below A₀ base outer h₀ → Fr h₀ L s.heap m → (K w.params).In h₀ → Top qv lo mean mg mb h₀ → cs.kind = .function → dp + d < recursionLimit → un + 20 * d < cLine → Pre s.heap →
    (∀ (v : Value) (h' : Heap) (tk' : Nat), HExt s.heap h' → Post s.heap h' v → Q v { s with heap := h', toks := tk' }) →
      wpAny (model PySem.Challenge.rw_ny0363_01.row.prog w) (ktrTop dp un gd cn cs L a ccd cl outer) (call (.ref f) vs) Q E s
theorem con_use {w : World} {d : Nat} {f : Addr} {vs : List Value} {Pre : Heap → Prop} {Post : Heap → Heap → Value → Prop} (C : Con w d f vs Pre Post)
    {mean : ExcName → Option Value} {mg mb : Str → Option Value} {dp un : Nat} {gd : Option (List Code)} {cn : Str} {cs : Scope} {a : Addr} {ccd : Value} {cl : List (Str × Addr)} {outer : List Env} {A₀ : Around} {base h₀ : Heap} {L : Addr} {m : Str → Option Value} {s : Shared} {Q E : Value → Shared → Prop}
    (B : Below A₀ base outer h₀) (F : Fr h₀ L s.heap m) (X : (K w.params).In h₀) (T : Top qv lo mean mg mb h₀) (hk : cs.kind = .function) (hd : dp + d < recursionLimit) (hu : un + 20 * d < cLine) (hp : Pre s.heap)
    (k : ∀ (v : Value) (h' : Heap) (tk' : Nat), HExt s.heap h' → Post s.heap h' v → Q v { s with heap := h', toks := tk' }) :
    wpAny (model PySem.Challenge.rw_ny0363_01.row.prog w) (ktrTop dp un gd cn cs L a ccd cl outer) (call (.ref f) vs) Q E s := C mean mg mb dp un gd cn cs a ccd cl outer A₀ base h₀ L m s Q E B F X T hk hd hu hp k
abbrev HBut (as : List Addr) (h h' : Heap) : Prop := ∀ b o, h.get? b = some o → b ∉ as → h'.get? b = some o
/-- a call that may turn the objects of news alone -/
abbrev ConL (w : World) (d : Nat) (f : Addr) (vs : List Value) (news : List (Addr × Obj)) (Post : Value → List (Addr × Obj) → Prop) : Prop :=
  ∀ (mean : ExcName → Option Value) (mg mb : Str → Option Value) (dp un : Nat) (gd : Option (List Code)) (cn : Str) (cs : Scope) (a : Addr) (ccd : Value) (cl : List (Str × Addr)) (outer : List Env) (A₀ : Around) (base h₀ : Heap) (L : Addr) (m : Str → Option Value) (s : Shared) (Q E : Value → Shared → Prop),
    Below A₀ base outer h₀ → Fr h₀ L s.heap m → (K w.params).In h₀ → Top qv lo mean mg mb h₀ → cs.kind = .function → dp + d < recursionLimit → un + 20 * d < cLine → News h₀ L s.heap news →
    (∀ (v : Value) (h' : Heap) (tk' : Nat) (news' : List (Addr × Obj)), HBut (news.map (·.1)) s.heap h' → Fr h₀ L h' m → News h₀ L h' news' → Post v news' → Q v { s with heap := h', toks := tk' }) →
      wpAny (model PySem.Challenge.rw_ny0363_01.row.prog w) (ktrTop dp un gd cn cs L a ccd cl outer) (call (.ref f) vs) Q E s
theorem conL_use {w : World} {d : Nat} {f : Addr} {vs : List Value} {news : List (Addr × Obj)} {Post : Value → List (Addr × Obj) → Prop} (C : ConL w d f vs news Post)
    {mean : ExcName → Option Value} {mg mb : Str → Option Value} {dp un : Nat} {gd : Option (List Code)} {cn : Str} {cs : Scope} {a : Addr} {ccd : Value} {cl : List (Str × Addr)} {outer : List Env} {A₀ : Around} {base h₀ : Heap} {L : Addr} {m : Str → Option Value} {s : Shared} {Q E : Value → Shared → Prop}
    (B : Below A₀ base outer h₀) (F : Fr h₀ L s.heap m) (X : (K w.params).In h₀) (T : Top qv lo mean mg mb h₀) (hk : cs.kind = .function) (hd : dp + d < recursionLimit) (hu : un + 20 * d < cLine) (N : News h₀ L s.heap news)
    (k : ∀ (v : Value) (h' : Heap) (tk' : Nat) (news' : List (Addr × Obj)), HBut (news.map (·.1)) s.heap h' → Fr h₀ L h' m → News h₀ L h' news' → Post v news' → Q v { s with heap := h', toks := tk' }) :
    wpAny (model PySem.Challenge.rw_ny0363_01.row.prog w) (ktrTop dp un gd cn cs L a ccd cl outer) (call (.ref f) vs) Q E s := C mean mg mb dp un gd cn cs a ccd cl outer A₀ base h₀ L m s Q E B F X T hk hd hu N k
theorem hbut2 {h g h' : Heap} {L : Addr} {m : Str → Option Value} {as : List Addr} (G : GSub h g as) (F : Fr g L h' m) : HBut as h h' := fun b o e n => F.keep b o (G b o e n)
theorem gsub_all {h g : Heap} (G : GSub h g (([] : List (Addr × Obj)).map (·.1))) : HExt h g := fun b o e => G b o e (fun z => nomatch z)
theorem ext2 {h g h' : Heap} {L : Addr} {m : Str → Option Value} (G : HExt h g) (F : Fr g L h' m) : HExt h h' := fun b o e => F.keep b o (G b o e)
theorem room_d {dp d : Nat} (h : dp + d < recursionLimit) : dp < recursionLimit := Nat.lt_of_le_of_lt (Nat.le_add_right _ _) h
end Mine
end
section
namespace Mine
theorem wp_noexc {α : Type} {M : Model} {A : Around} {tr : Sem α} {Q : α → Shared → Prop} {E : Value → Shared → Prop} {s : Shared} (h : wpAny M A tr Q (fun _ _ => False) s) : wpAny M A tr Q E s := wpAny_mono h (fun _ _ x => x) fun _ _ x => x.elim
theorem gen_tk {α : Type} {M : Model} {A : Around} {tr : Sem α} {Q : α → Shared → Prop} {E : Value → Shared → Prop} {h : Heap} {g : Array GenState} {d : Drawn} {n : Nat} {o : OsState} (H : ∀ tk, wpAny M A tr Q E ⟨h, g, d, tk, o⟩) : wpAny M A tr Q E ⟨h, g, d, n, o⟩ := H n
theorem in_str_b {prog : Program} {w : World} {A : Around} {E : Value → Shared → Prop} {s : Shared} {x y : Str} {tx ty : Tok} {b : Bool} {Q : Value → Shared → Prop} (hb : (!(Builtin.Str.occurrences x y 0 x.length 1).isEmpty) = b) (h : Q (.bool b) s) : wpAny (model prog w) A (compareOp .In (.str y ty) (.str x tx)) Q E s := PyProof.Rows.in_str (hb ▸ h)
theorem eq_str_b {prog : Program} {w : World} {A : Around} {E : Value → Shared → Prop} {s : Shared} {x y : Str} {tx ty : Tok} {b : Bool} {Q : Value → Shared → Prop} (hb : (x == y) = b) (h : Q (.bool b) s) : wpAny (model prog w) A (compareOp .Eq (.str x tx) (.str y ty)) Q E s := PyProof.Rows.eq_str (hb ▸ h)
theorem truthy_str_b {prog : Program} {w : World} {A : Around} {E : Value → Shared → Prop} {s : Shared} {x : Str} {tx : Tok} {b : Bool} {Q : Bool → Shared → Prop} (hl : x.length ≤ 1000000) (hb : ((x.length : Int) != 0) = b) (h : Q b { s with toks := s.toks + 1 + 1 }) : wpAny (model prog w) A (truthy (.str x tx)) Q E s := PySem.P.truthy_str (by omega) (hb ▸ h)
end Mine
end
section
set_option maxRecDepth 1000000
namespace Mine
abbrev fsO (outer : List Env) : List Addr := outer.filterMap (·.frame)
/-- back from a call that may have turned the frames' slots -/
def LeaveT (A₀ : Around) (base : Heap) (outer : List Env) (fs : List Addr) (h₀ : Heap) (L : Addr) (m : Str → Option Value) (g : Heap) (R : Result → Shared → Prop) (v : Value) (s' : Shared) : Prop :=
  ∃ g' L' m' news', KtsTurn fs g g' ∧ Fr g' L' s'.heap m' ∧ News g' L' s'.heap news' ∧
    ∀ h₀', KtsTurn (fsO outer) h₀ h₀' → Fr h₀' L s'.heap m → News h₀' L s'.heap news' → Below A₀ base outer h₀' → KtsDicts (fsO outer) h₀' → (∀ b o, g.get? b = some o → b ∉ fs → s'.heap.get? b = some o) → R (.ok (.ret v)) s'
theorem leaveT_ {A₀ : Around} {base : Heap} {outer : List Env} {fs : List Addr} {h₀ : Heap} {L : Addr} {m : Str → Option Value} {g g' : Heap} {R : Result → Shared → Prop} {v : Value} {s' : Shared} {L' : Addr} {m' : Str → Option Value} {news' : List (Addr × Obj)}
    (T : KtsTurn fs g g') (F : Fr g' L' s'.heap m') (N : News g' L' s'.heap news')
    (k : ∀ h₀', KtsTurn (fsO outer) h₀ h₀' → Fr h₀' L s'.heap m → News h₀' L s'.heap news' → Below A₀ base outer h₀' → KtsDicts (fsO outer) h₀' → (∀ b o, g.get? b = some o → b ∉ fs → s'.heap.get? b = some o) → R (.ok (.ret v)) s') :
    LeaveT A₀ base outer fs h₀ L m g R v s' := ⟨g', L', m', news', T, F, N, k⟩
theorem mem_fs {env : Env} {outer : List Env} {L b : Addr} (hf : env.frame = some L) (hm : b ∈ fsO (env :: outer)) : b = L ∨ b ∈ fsO outer := by
  obtain ⟨e, he, hb⟩ := List.mem_filterMap.mp hm
  rcases List.mem_cons.mp he with rfl | he
  · exact .inl (Option.some.inj (hb.symm.trans hf))
  · exact .inr (List.mem_filterMap.mpr ⟨e, he, hb⟩)
section
variable {prog : Program} {w : World} {A₀ A : Around} {s : Shared} {base h₀ : Heap} {outer : List Env} {env : Env} {L : Addr} {m : Str → Option Value} {news : List (Addr × Obj)} {K : Frag} {p : Program} {loose : List Str} {mean : ExcName → Option Value} {mg mb : Str → Option Value}
    {R : Result → Shared → Prop} {name qual : Str} {params : Arguments} {body : List Stmt} {scope : Scope} {dV kV doc pm cdv ct oc : Value} {an od : Option Addr} {osl : Array (Option Value)} {f : Addr} {args : Args} {binds : List (Str × Value)}
theorem code_defT (B : Below A₀ base outer h₀) (F : Fr h₀ L s.heap m) (N : News h₀ L s.heap news) (XB : K.In base) (TB : Top p loose mean mg mb base) (D : KtsDicts (fsO outer) h₀)
    (hA : A.frames = some (env :: outer)) (hf : env.frame = some L) (hke : env.scope.kind = .function)
    (ho : K.lookup f = some ⟨oc, od, .func (fnOf name qual params body scope dV kV doc pm an cdv ct), osl⟩) (hcd : codeIn K cdv qual = true) (hroom : A.depth < recursionLimit)
    (hbind : BindsTo s (fnOf name qual params body scope dV kV doc pm an cdv ct) args binds) (hloc : ∀ y ∈ binds, scope.names.lookup y.1 = some .local)
    (h : ∀ g L' h₁, Fr h₀ L g m → Fr g L' h₁ (fun y => binds.reverse.lookup y) → News g L' h₁ news → Below A base (env :: outer) g → K.In g → Top p loose mean mg mb g → KtsDicts (fsO (env :: outer)) g → GSub s.heap g (news.map (·.1)) →
      wpAny (model prog w) (A.deeper (envOf qual scope L' f cdv)) (execs body (envOf qual scope L' f cdv))
        (fun fl s' => LeaveT A₀ base outer (fsO (env :: outer)) h₀ L m g R (match fl with | .ret v => v | _ => .none) s')
        (fun e s' => wpAny (model prog w) (A.deeper (envOf qual scope L' f cdv)) (leaving (envOf qual scope L' f cdv) e) (fun _ s'' => R (.error e) s'') (fun e' s'' => R (.error e') s'') s')
        { s with heap := h₁, toks := s.toks + binds.length })
    (hco : scope.isCoroutine = false) (hgen : scope.isGenerator = false) (hk : scope.kind = .function)
    (hcell : ∀ x ∈ scope.names, x.2 ≠ .cell) : codeAny (model prog w) A (.call (.ref f) args) R s := by
  obtain ⟨FG, BG, st, -⟩ := groundX (R := R) B F N hA hf hke
  have X₀ : K.In h₀ := XB.keeps B.stays
  have T : Top p loose mean mg mb h₀ := TB.keeps B.stays
  have X := X₀.keeps F.keep
  refine codeAny_call_def (fd := fnOf name qual params body scope dV kV doc pm an cdv ct) (body := body) (binds := binds) hroom (X _ _ ho) rfl (T.nolimit.keeps F.keep) (codeRec_of X hcd) rfl hbind hcell hloc (fun h₁ hns hk₁ => ?_) hco hgen hk
  obtain ⟨oL, es, ep, hLg, hLd, hLk, hLf⟩ := FG.ns
  have hfL : L ∈ fsO (env :: outer) := List.mem_filterMap.mpr ⟨env, .head _, hf⟩
  refine wpAny_mono (h _ s.heap.objs.size h₁ FG ⟨hns, fun b o e => hk₁ b o (of_hideAll _ e), Nat.le_of_eq (hideAll_size _ _)⟩
    (fun p hp => ⟨hk₁ _ _ (N p hp).1, Nat.ne_of_lt (Heap.lt_size (N p hp).1), hideAll_none _ (List.mem_map_of_mem hp)⟩) BG (X₀.keeps st) (T.keeps st) (fun b hb => ?_) (fun b o e n => hideAll_get _ e n)) (fun fl s' hl => ?_) fun _ _ y => y
  · rcases mem_fs hf hb with rfl | z
    · exact ⟨oL, es, ep, hLg, hLd⟩
    · obtain ⟨o, es', n', ho', hd'⟩ := D b z
      exact ⟨o, es', n', st b o ho', hd'⟩
  · obtain ⟨g', L', m', news', T', F', N', k⟩ := hl
    have nL₀ : h₀.get? L = none := kts_self F
    obtain ⟨sl, hs⟩ := T'.up hLg
    obtain ⟨T₁, S₁⟩ := kts_turn_at (h := s'.heap) (fs := fsO outer) (g := h₀)
      (fun b hb => by
        obtain ⟨_, o, ho', _⟩ := B.frames.mem hb
        exact ⟨o, ho'⟩)
      (fun b o e nmem => F'.keep b o (T'.other b o (st b o e) (fun q => by
        rcases mem_fs hf q with z | z
        · rw [z, nL₀] at e; cases e
        · exact nmem z)))
      (fun b o e hm => by
        obtain ⟨sl', hs'⟩ := T'.up (st b o e)
        exact ⟨sl', F'.keep _ _ hs'⟩)
    have B₃ : Below A₀ base outer (ktsHeap s'.heap (fsO outer) h₀) := ⟨B.stack, fun b o e => T₁.other b o (B.stays b o e) (fun hm => by
      rw [(B.frames.mem hm).1] at e; cases e), B.frames.of_keeps fun b o e _ => by
      obtain ⟨sl', hs'⟩ := T₁.up e
      exact ⟨_, hs', rfl⟩⟩
    refine k _ T₁ ⟨⟨_, es, ep, F'.keep _ _ hs, hLd, hLk, hLf⟩, S₁, by rw [T₁.size]; exact F.above⟩ (fun p hp => ⟨(N' p hp).1, fun q => ?_, ?_⟩) B₃ (D.turn T₁) (fun b o e n => F'.keep b o (T'.other b o e n))
    · have := (N' p hp).2.2; rw [q, hs] at this; cases this
    · refine T₁.none_ _ ?_
      cases q : h₀.get? p.1 with
      | none => rfl
      | some o =>
        obtain ⟨sl', hs'⟩ := T'.up (st _ _ q)
        have := (N' p hp).2.2
        rw [hs'] at this
        cases this
end
/-- a call that may turn the objects of news and the frames' slots -/
abbrev ConT (w : World) (d : Nat) (f : Addr) (vs : List Value) (news : List (Addr × Obj)) (Post : Heap → Heap → Value → List (Addr × Obj) → Prop) : Prop :=
  ∀ (mean : ExcName → Option Value) (mg mb : Str → Option Value) (dp un : Nat) (gd : Option (List Code)) (cn : Str) (cs : Scope) (a : Addr) (ccd : Value) (cl : List (Str × Addr)) (outer : List Env) (A₀ : Around) (base h₀ : Heap) (L : Addr) (m : Str → Option Value) (s : Shared) (Q E : Value → Shared → Prop),
    Below A₀ base outer h₀ → Fr h₀ L s.heap m → (K w.params).In base → Top qv lo mean mg mb base → KtsDicts (fsO outer) h₀ → cs.kind = .function → dp + d < recursionLimit → un + 20 * d < cLine → News h₀ L s.heap news →
    (∀ (v : Value) (h' : Heap) (tk' : Nat) (h₀' : Heap) (news' : List (Addr × Obj)), KtsTurn (fsO outer) h₀ h₀' → Fr h₀' L h' m → Below A₀ base outer h₀' → KtsDicts (fsO outer) h₀' → HBut (news.map (·.1) ++ L :: fsO outer) s.heap h' → News h₀' L h' news' → Post s.heap h' v news' → Q v { s with heap := h', toks := tk' }) →
      wpAny (model PySem.Challenge.rw_ny0363_01.row.prog w) (ktrTop dp un gd cn cs L a ccd cl outer) (call (.ref f) vs) Q E s
theorem conT_use {w : World} {d : Nat} {f : Addr} {vs : List Value} {news : List (Addr × Obj)} {Post : Heap → Heap → Value → List (Addr × Obj) → Prop} (C : ConT w d f vs news Post)
    {mean : ExcName → Option Value} {mg mb : Str → Option Value} {dp un : Nat} {gd : Option (List Code)} {cn : Str} {cs : Scope} {a : Addr} {ccd : Value} {cl : List (Str × Addr)} {outer : List Env} {A₀ : Around} {base h₀ : Heap} {L : Addr} {m : Str → Option Value} {s : Shared} {Q E : Value → Shared → Prop}
    (B : Below A₀ base outer h₀) (F : Fr h₀ L s.heap m) (X : (K w.params).In base) (T : Top qv lo mean mg mb base) (D : KtsDicts (fsO outer) h₀) (hk : cs.kind = .function) (hd : dp + d < recursionLimit) (hu : un + 20 * d < cLine) (N : News h₀ L s.heap news)
    (k : ∀ (v : Value) (h' : Heap) (tk' : Nat) (h₀' : Heap) (news' : List (Addr × Obj)), KtsTurn (fsO outer) h₀ h₀' → Fr h₀' L h' m → Below A₀ base outer h₀' → KtsDicts (fsO outer) h₀' → HBut (news.map (·.1) ++ L :: fsO outer) s.heap h' → News h₀' L h' news' → Post s.heap h' v news' → Q v { s with heap := h', toks := tk' }) :
    wpAny (model PySem.Challenge.rw_ny0363_01.row.prog w) (ktrTop dp un gd cn cs L a ccd cl outer) (call (.ref f) vs) Q E s := C mean mg mb dp un gd cn cs a ccd cl outer A₀ base h₀ L m s Q E B F X T D hk hd hu N k
/-- what a turning call leaves of another ledger of its caller -/
theorem news_turn {A₀ : Around} {base h₀ h₀' h h' : Heap} {outer : List Env} {L : Addr} {nw : List (Addr × Obj)} {as : List Addr} (B : Below A₀ base outer h₀) (N : News h₀ L h nw) (T : KtsTurn (fsO outer) h₀ h₀') (H : HBut (as ++ L :: fsO outer) h h') (hd : ∀ p ∈ nw, p.1 ∉ as) : News h₀' L h' nw := fun p hp => by
  refine ⟨H _ _ (N p hp).1 fun hm => ?_, (N p hp).2.1, T.none_ _ (N p hp).2.2⟩
  rcases List.mem_append.mp hm with z | z
  · exact hd p hp z
  · rcases List.mem_cons.mp z with z | z
    · exact (N p hp).2.1 z
    · obtain ⟨_, o, ho, _⟩ := B.frames.mem z
      rw [(N p hp).2.2] at ho; cases ho
theorem hbutT {s g h' : Heap} {as fs : List Addr} {env : Env} {outer : List Env} {L : Addr} (hf : env.frame = some L) (G : GSub s g as) (H : ∀ b o, g.get? b = some o → b ∉ fsO (env :: outer) → h'.get? b = some o) : HBut (as ++ L :: fsO outer) s h' := fun b o e n =>
  H b o (G b o e fun z => n (List.mem_append_left _ z)) fun z => n (List.mem_append_right _ (by
    rcases mem_fs hf z with z | z
    · exact z ▸ .head _
    · exact .tail _ z))
/-- a call that turns nothing but the frames' slots -/
abbrev ConTP (w : World) (d : Nat) (f : Addr) (vs : List Value) (Pre : List Addr → Heap → Prop) (Post : Value → List (Addr × Obj) → Prop) : Prop :=
  ∀ (mean : ExcName → Option Value) (mg mb : Str → Option Value) (dp un : Nat) (gd : Option (List Code)) (cn : Str) (cs : Scope) (a : Addr) (ccd : Value) (cl : List (Str × Addr)) (outer : List Env) (A₀ : Around) (base h₀ : Heap) (L : Addr) (m : Str → Option Value) (s : Shared) (Q E : Value → Shared → Prop),
    Below A₀ base outer h₀ → Fr h₀ L s.heap m → (K w.params).In base → Top qv lo mean mg mb base → KtsDicts (fsO outer) h₀ → cs.kind = .function → dp + d < recursionLimit → un + 20 * d < cLine → Pre (L :: fsO outer) s.heap →
    (∀ (v : Value) (h' : Heap) (tk' : Nat) (h₀' : Heap) (news' : List (Addr × Obj)), KtsTurn (fsO outer) h₀ h₀' → Fr h₀' L h' m → Below A₀ base outer h₀' → KtsDicts (fsO outer) h₀' → HBut (L :: fsO outer) s.heap h' → News h₀' L h' news' → (∀ p ∈ news', s.heap.get? p.1 = none) → Post v news' → Q v { s with heap := h', toks := tk' }) →
      wpAny (model PySem.Challenge.rw_ny0363_01.row.prog w) (ktrTop dp un gd cn cs L a ccd cl outer) (call (.ref f) vs) Q E s
theorem conTP_use {w : World} {d : Nat} {f : Addr} {vs : List Value} {Pre : List Addr → Heap → Prop} {Post : Value → List (Addr × Obj) → Prop} (C : ConTP w d f vs Pre Post)
    {mean : ExcName → Option Value} {mg mb : Str → Option Value} {dp un : Nat} {gd : Option (List Code)} {cn : Str} {cs : Scope} {a : Addr} {ccd : Value} {cl : List (Str × Addr)} {outer : List Env} {A₀ : Around} {base h₀ : Heap} {L : Addr} {m : Str → Option Value} {s : Shared} {Q E : Value → Shared → Prop}
    (B : Below A₀ base outer h₀) (F : Fr h₀ L s.heap m) (X : (K w.params).In base) (T : Top qv lo mean mg mb base) (D : KtsDicts (fsO outer) h₀) (hk : cs.kind = .function) (hd : dp + d < recursionLimit) (hu : un + 20 * d < cLine) (P : Pre (L :: fsO outer) s.heap)
    (k : ∀ (v : Value) (h' : Heap) (tk' : Nat) (h₀' : Heap) (news' : List (Addr × Obj)), KtsTurn (fsO outer) h₀ h₀' → Fr h₀' L h' m → Below A₀ base outer h₀' → KtsDicts (fsO outer) h₀' → HBut (L :: fsO outer) s.heap h' → News h₀' L h' news' → (∀ p ∈ news', s.heap.get? p.1 = none) → Post v news' → Q v { s with heap := h', toks := tk' }) :
    wpAny (model PySem.Challenge.rw_ny0363_01.row.prog w) (ktrTop dp un gd cn cs L a ccd cl outer) (call (.ref f) vs) Q E s := C mean mg mb dp un gd cn cs a ccd cl outer A₀ base h₀ L m s Q E B F X T D hk hd hu P k
theorem fresh_turn {s g g' h : Heap} {fs : List Addr} {L : Addr} {nw : List (Addr × Obj)} (G : GSub s g (([] : List (Addr × Obj)).map (·.1))) (T : KtsTurn fs g g') (N : News g' L h nw) : ∀ p ∈ nw, s.get? p.1 = none := fun p hp => by
  cases q : s.get? p.1 with
  | none => rfl
  | some o =>
    obtain ⟨sl, hs⟩ := T.up (G _ _ q (fun z => nomatch z))
    have := (N p hp).2.2
    rw [hs] at this; cases this
end Mine
end
section
set_option maxRecDepth 100000
set_option maxHeartbeats 8000000
namespace Mine
section
variable {prog : Program} {w : World} {A₀ : Around} {E : Value → Shared → Prop} {s' : Shared} {base g h : Heap} {outer : List Env} {L a e : Addr} {m : Str → Option Value} {name : Str} {scope : Scope} {cd : Value}
  {b₀ : Stmt} {suite : List Stmt} {pos np : Pos} {rest : List ExceptHandler} {Q : Flow → Shared → Prop} {news : List (Addr × Obj)} {KF : Frag}
  {p : Program} {loose : List Str} {mean : ExcName → Option Value} {mg mb : Str → Option Value} {x : Str} {X T' : String}
/-- an exception of a built-in, caught in the frame where it was raised -/
theorem caught_newT (hx : Heap.NewExc h s'.heap e X) (F : Fr g L h m) (B : Below A₀ base outer g) (N : News g L h news) (XB : KF.In base) (TB : Top p loose mean mg mb base) (D : KtsDicts (fsO outer) g)
    (ex : nsIn KF mainGlobals x = some none) (hv : bootBuiltins x = some (.type T')) (hn' : x ≠ "__name__")
    (hexc : isSubtype (.type T') (.type "BaseException") = pure true) (hnt : isSubtype (.type ((Manifest.find? T').elim "type" fun y => y.metatype)) (.type "tuple") = pure false) (hsub : isSubtype (.type X) (.type T') = pure true)
    (k : ∀ h' g', KtsTurn (fsO outer) g g' → Fr g' L h' m → News g' L h' news → Below A₀ base outer g' → KF.In g' → Top p loose mean mg mb g' → KtsDicts (fsO outer) g' →
      wpAny (model prog w) ((A₀.deeper (envOf name scope L a cd)).mark (some (.ref e))) (execs (b₀ :: suite) (envOf name scope L a cd)) Q E { s' with heap := h' })
    (hk : scope.kind = .function := by rfl) (hkx : (envOf name scope L a cd).kindOf x = some .globalImplicit := by rfl) (hd : (x == ("__debug__" : Str)) = false := by decide)
    (hE : PassesOwnAt (model prog w) ((A₀.deeper (envOf name scope L a cd)).mark (some (.ref e))) (A₀.deeper (envOf name scope L a cd)) (envOf name scope L a cd) E := by passes_own) :
    wpAny (model prog w) (A₀.deeper (envOf name scope L a cd)) (noteFrame (.ref e) (envOf name scope L a cd))
      (fun _ s₂ => wpAny (model prog w) (A₀.deeper (envOf name scope L a cd)) (setFlight (.ref e) none) (fun _ s₃ =>
        wpAny (model prog w) (A₀.deeper (envOf name scope L a cd)) (handleBy (.ref e) (envOf name scope L a cd) (.ExceptHandler (some (.Name x np)) none (b₀ :: suite) pos :: rest)) Q E s₃) E s₂) E s' := by
  have B' := B.push (name := name) (a := a) (cd := cd) F hk
  have hin : ∀ env ∈ (envOf name scope L a cd :: outer), ∀ b, env.frame = some b → b ∈ fsO (envOf name scope L a cd :: outer) := fun env he b hb => List.mem_filterMap.mpr ⟨env, he, hb⟩
  have st : base.StaysIn (hideAll h (fsO (envOf name scope L a cd :: outer))) := fun b o q => hideAll_get _ (B'.stays b o q) fun hm => by
    rw [(B'.frames.mem hm).1] at q; cases q
  have hBG : ∀ b o, h.get? b = some o → b ∉ (envOf name scope L a cd :: outer).filterMap (·.frame) → (hideAll h (fsO (envOf name scope L a cd :: outer))).get? b = some o := fun b o q nm => hideAll_get _ q (fun z => nm z)
  have hl : ∀ q ∈ news, (hideAll h (fsO (envOf name scope L a cd :: outer))).get? q.1 = some q.2 := fun q hq => by
    refine hideAll_get _ (N q hq).1 fun hm => ?_
    rcases mem_fs (env := envOf name scope L a cd) (L := L) rfl hm with z | z
    · exact (N q hq).2.1 z
    · obtain ⟨o, ho, _⟩ := (B.frames.mem z).2
      rw [(N q hq).2.2] at ho; cases ho
  have hen : (hideAll h (fsO (envOf name scope L a cd :: outer))).get? e = none := by
    cases q : (hideAll h (fsO (envOf name scope L a cd :: outer))).get? e with
    | none => rfl
    | some o => have := of_hideAll _ q; rw [hx.new] at this; cases this
  obtain ⟨ob, tp, he, hcls, hdt⟩ := hx.there
  unfold noteFrame
  simp only [show (envOf name scope L a cd).frame = some L from rfl]
  refine wpAny_bind (wpAny_field he hdt (x := .none) rfl ?_)
  rw [if_neg (by decide)]
  refine wpAny_entryW (base := hideAll h (fsO (envOf name scope L a cd :: outer))) (a0 := tp) B'.stack ((funFrames_hide B'.frames hin).of_keeps fun b o hb _ => ⟨o, hx.keeps b o hb, rfl⟩) rfl he (fun b o eb => hx.keeps b o (of_hideAll _ eb)) hen hdt (by show 1 < 6; decide) rfl fun h₄ hN => ?_
  obtain ⟨n1, n2, n3, n4⟩ := hN
  rw [hcls] at n3
  have hheld₄ : Heap.HeldW (hideAll h (fsO (envOf name scope L a cd :: outer))) (envOf name scope L a cd :: outer) e (.type X) tp L h₄ := ⟨n1, hen, n2, n3⟩
  have hsm₄ : h.UpToSlots h₄ := (Heap.UpToSlots.of_keeps hx.keeps).trans n4
  refine wpAny_landsW hheld₄ fun h₅ hheld hsm₅' => ?_
  have hsm₅ := hsm₄.trans hsm₅'
  obtain ⟨g₅, T₅, F₅, K₅⟩ := kts_ground B F hBG hheld.1 hsm₅
  have X₅ : KF.In g₅ := XB.keeps K₅.stays
  have P₅ : TopRead p loose mg mb g₅ := topRead_of (TB.keeps K₅.stays)
  obtain ⟨ob', hob, hobc⟩ := hheld.there
  refine wpAny_handleBy_builtin (X := X) (T := T') (b := true) hexc hnt hsub (name_B F₅ X₅ P₅ ex hv hn' ⟨rfl, ⟨ob', hob, hobc⟩, ?_⟩ hk hkx hd)
  refine lands_againW hheld fun h₆ hfl₆ hsm₆ => ?_
  obtain ⟨g₆, T₆, F₆, K₆⟩ := kts_ground B F hBG hfl₆.1 (hsm₅.trans hsm₆)
  have Nl : News g₆ L h₆ news := fun q hq => ⟨hfl₆.1 _ _ (hl q hq), (N q hq).2.1, T₆.none_ _ (N q hq).2.2⟩
  exact wpAny_passesOwnAt hE (k h₆ g₆ T₆ F₆ Nl K₆ (XB.keeps K₆.stays) (TB.keeps K₆.stays) (D.turn T₆))
end
end Mine
end
section
set_option maxRecDepth 100000
set_option maxHeartbeats 8000000
namespace Mine
/-- texts with their tokens, as values -/
def sv (es : List (Str × Tok)) : List Value := es.map fun p => .str p.1 p.2
theorem sv_append (a b : List (Str × Tok)) : sv (a ++ b) = sv a ++ sv b := List.map_append
theorem sv_length (a : List (Str × Tok)) : (sv a).length = a.length := List.length_map _
theorem sv_of {vs : List Value} {ys : List Str} (h : StrsAre vs ys) : ∃ es, vs = sv es ∧ es.map (·.1) = ys := by
  induction h with
  | nil => exact ⟨[], rfl, rfl⟩
  | cons y t _ ih =>
    obtain ⟨es, rfl, rfl⟩ := ih
    exact ⟨(y, t) :: es, rfl, rfl⟩
theorem of_sv (es : List (Str × Tok)) : StrsAre (sv es) (es.map (·.1)) := by
  induction es with
  | nil => exact .nil
  | cons p es ih => exact .cons _ _ ih
def isS (x : Str) : Value → Bool
  | .str y _ => y.cps.toList == x.cps.toList
  | _ => false
theorem isS_str (x y : Str) (t : Tok) : isS x (.str y t) = decide (y = x) := by
  unfold isS
  by_cases h : y = x
  · subst h; simp
  · rw [decide_eq_false h]
    refine beq_eq_false_iff_ne.mpr fun e => h (PySem.Str.ext' (Array.toList_inj.mp e))
theorem sv_eq {es : List (Str × Tok)} {x : Str} {t : Tok} : ∀ y, y ∈ (sv es).toArray → MeetsSeq.EqGives y (.str x t) (isS x y) := fun y hy => by
  obtain ⟨p, _, rfl⟩ := List.mem_map.mp (by simpa [sv] using hy : y ∈ es.map fun p => Value.str p.1 p.2)
  exact PySem.SeqRoads2.EqGives.str p.1 x p.2 t
section
variable {prog : Program} {w : World} {A : Around} {E : Value → Shared → Prop} {s : Shared} {h₀ : Heap} {L D : Addr} {m : Str → Option Value} {news : List (Addr × Obj)} {g : Obj → List (Addr × Obj)} {es : List (Str × Tok)} {n : Nat} {x : Str} {t : Tok}
theorem updF_upd {D : Addr} {o o' : Obj} {l : List (Addr × Obj)} {g : Obj → List (Addr × Obj)} (U : UpdF D o l g) : Upd D o o' l (g o') := by
  induction U with
  | head h => exact .head h
  | tail h _ ih => exact .tail h ih
theorem str_pop {p : Str × Tok} {Q : Value → Shared → Prop} (F : Fr h₀ L s.heap m) (N : News h₀ L s.heap news) (U : UpdF D (listOf (sv (es ++ [p])).toArray n) news g) (hz : es.length ≤ 1000)
    (h : ∀ h', Fr h₀ L h' m → News h₀ L h' (g (listOf (sv es).toArray (n + 1))) → Q (.str p.1 p.2) { s with heap := h' }) : wpAny (model prog w) A (call (.builtin "list.pop") [.ref D]) Q E s := by
  refine kl_pop F N (p := sv es) (y := .str p.1 p.2) ?_ (updF_upd U) (by rw [List.toList_toArray, sv_length, List.length_append, List.length_singleton, sizeLine_eq]; omega) h
  rw [List.toList_toArray, sv_append]
  exact kpa_last _ _
theorem str_remove {Q : Value → Shared → Prop} (F : Fr h₀ L s.heap m) (N : News h₀ L s.heap news) (U : UpdF D (listOf (sv es).toArray n) news g) (hz : es.length ≤ 1000) (hx : x ∈ es.map (·.1))
    (h : ∀ h' es', es'.map (·.1) = (es.map (·.1)).erase x → es'.length ≤ es.length → Fr h₀ L h' m → News h₀ L h' (g (listOf (sv es').toArray (n + 1))) → Q .none { s with heap := h' }) : wpAny (model prog w) A (call (.builtin "list.remove") [.ref D, .str x t]) Q E s := by
  obtain ⟨l₁, l₂, hn1, e1, e2⟩ := List.exists_erase_eq hx
  obtain ⟨es₁, r, rfl, rfl, e3⟩ := List.map_eq_append_iff.mp e1
  obtain ⟨p, es₂, rfl, rfl, rfl⟩ := List.map_eq_cons_iff.mp e3
  have U' := updF_upd (o' := listOf (sv (es₁ ++ es₂)).toArray (n + 1)) U
  obtain ⟨pre, post, rfl, e5, a', b'⟩ := U'.split
  have z := N (D, listOf _ n) (List.mem_append.mpr (.inr (.head _)))
  have hsz : (sv (es₁ ++ p :: es₂)).toArray.size = es₁.length + es₂.length + 1 := by simp [sv]; omega
  have hsize : (sv (es₁ ++ p :: es₂)).toArray.size ≤ sizeLine := by rw [hsz, sizeLine_eq]; simp at hz; omega
  have hat : ∀ i (hi : i < (sv (es₁ ++ p :: es₂)).toArray.size) (hi' : i < (es₁ ++ p :: es₂).length), (sv (es₁ ++ p :: es₂)).toArray[i] = .str (es₁ ++ p :: es₂)[i].1 (es₁ ++ p :: es₂)[i].2 := fun i hi hi' => (List.getElem_toArray _).trans (List.getElem_map _)
  refine call_meets PySem.F.slot_list_remove ⟨_, z.1, rfl⟩ PySem.F.entry_list_remove (PySem.F.args_list_remove_2 _ _)
    (MeetsSeq.list_remove D _ n (.str p.1 t) (isS p.1) sv_eq es₁.length (by rw [hsz]; omega) (by rw [hat _ _ (by simp), isS_str]; exact decide_eq_true (by simp)) (fun i hi hlt => ?_) hsize)
    ⟨z.1, h _ (es₁ ++ es₂) (by rw [e2, List.map_append]) (by simp) (F.change (Heap.SameBut.update ..) z.2.1 z.2.2) ?_⟩
  · rw [hat _ _ (by simp; omega), isS_str]
    refine decide_eq_false fun e => hn1 ?_
    rw [List.getElem_append_left hlt] at e
    exact List.mem_map.mpr ⟨_, List.getElem_mem hlt, e⟩
  · rw [e5]
    refine ki_turn _ N a' b' ?_ ?_
    · show (sv (es₁ ++ p :: es₂)).toArray.eraseIdxIfInBounds es₁.length = (sv (es₁ ++ es₂)).toArray
      apply Array.toList_inj.mp
      simp [sv, Array.toList_eraseIdxIfInBounds, List.eraseIdx_append_of_length_le]
    · have hq : (sv (es₁ ++ es₂)).toArray.size ≠ (sv (es₁ ++ p :: es₂)).toArray.size := by rw [hsz]; simp [sv]
      rw [if_neg (by simpa using hq)]
theorem str_remove_no {Q : Value → Shared → Prop} (N : News h₀ L s.heap news) (hm : (D, listOf (sv es).toArray n) ∈ news) (hx : x ∉ es.map (·.1)) (hA : A.handled = none)
    (h : ∀ h' tk e, Heap.NewExc s.heap h' e "ValueError" → E (.ref e) { s with heap := h', toks := tk }) : wpAny (model prog w) A (call (.builtin "list.remove") [.ref D, .str x t]) Q E s := by
  refine call_meets PySem.F.slot_list_remove ⟨_, (N _ hm).1, rfl⟩ PySem.F.entry_list_remove (PySem.F.args_list_remove_2 _ _)
    (MeetsSeq.list_remove_none D _ n (.str x t) (isS x) sv_eq fun i hi => ?_) ⟨(N _ hm).1, hA, h⟩
  have hi' : i < es.length := by simpa [sv] using hi
  have : (sv es).toArray[i] = .str es[i].1 es[i].2 := (List.getElem_toArray _).trans (List.getElem_map _)
  rw [this, isS_str]
  exact decide_eq_false fun e => hx (List.mem_map.mpr ⟨_, List.getElem_mem hi', e⟩)
end
end Mine
end
section
set_option maxRecDepth 100000
set_option maxHeartbeats 8000000
namespace Mine
local macro_rules | `(tactic| walk_at "my_enterL") => `(tactic| (refine wpAny_call ?_; k_dflt (refine' code_defG ?k1 ?k2 ?k3 ?k4 ?k5 ?kA ?kF ?kK ?k6 ?k7 ?k8 ?k9 ?kB ?_ ?c2 ?c3 ?c4 ?c5; (case kA => exact rfl); (case kF => exact rfl); (case kK => assumption); (case k1 => k_asm); (case k2 => k_asm); (case k3 => k_asm); (case k4 => k_asm); (case k5 => k_asm); (case k6 => k_is); (case k7 => k_is); (case k8 => exact room_d (by assumption)); (case k9 => first | exact BindsTo.of_eq rfl | exact binds_K (by k_in) rfl (by k_is) rfl rfl rfl); (case c5 => decide); (case kB => exact locs rfl); (case c2 => exact rfl); (case c3 => exact rfl); (case c4 => exact rfl); k_whole; intro g' L' h' FG' F' N' B' X' T' GS; (try dsimp only); (try k_fold))))
local macro_rules | `(tactic| k_room) => `(tactic| (simp only [depth_under_make, depth_under_kw, depth_in1, depth_deeper, depth_caller]; omega))
local macro_rules | `(tactic| walk_at "execs cons") => `(tactic| (refine wpAny_execs_cons ?_; (try dsimp only)))
/-- the two objects of a StringIO -/
abbrev ioObjs (P : Params) (io iod : Addr) (tn tb tp : Tok) (nl : Tok) (buf : Str) (bt : Tok) (pos : Nat) (pt : Tok) : List (Addr × Obj) :=
  [(io, instObj 594 iod), (iod, dictOf [e P "_StringIO__newline" tn (.str (t "\n") nl), e P "_StringIO__buf" tb (.str buf bt), e P "_StringIO__pos" tp (.int (pos : Int) pt)] 3)]
theorem slice_one {buf : Str} {pos : Nat} {c : Nat} {j : Int} (hc : buf.cps.toList[pos]? = some c) (hj : j = (pos : Int) + 1) : Txt.slice buf (some (pos : Int)) (some j) = ⟨#[c]⟩ := by
  subst hj
  have hl : pos < buf.cps.toList.length := (List.getElem?_eq_some_iff.mp hc).1
  have hl' : pos < buf.length := by simpa [Str.length] using hl
  have := slice_closesL (x := buf) (i := (pos : Int)) (j := (pos : Int) + 1) (by omega) (by omega) (by omega)
  rw [beq_iff_eq.mp this]
  have e1 : ((pos : Int)).toNat = pos := by omega
  have e2 : ((pos : Int) + 1 - pos).toNat = 1 := by omega
  rw [e1, e2, List.take_one, List.head?_drop, hc]
  rfl
theorem c_read (w : World) (io iod : Addr) (tn tb tp nl : Tok) (buf : Str) (bt : Tok) (pos : Nat) (pt t1 : Tok) (c : Nat) (hne : io ≠ iod) (hc : buf.cps.toList[pos]? = some c) (h2 : buf.length ≤ 1000) :
    ConL w 4 540 [.ref io, .int 1 t1] (ioObjs w.params io iod tn tb tp nl buf bt pos pt) (fun v news => ∃ tk pt', v = .str ⟨#[c]⟩ tk ∧ news = ioObjs w.params io iod tn tb tp nl buf bt (pos + 1) pt') := by
  have hl : (pos : Int) < (buf.length : Int) := by
    have := (List.getElem?_eq_some_iff.mp hc).1
    simp only [Str.length, Array.length_toList] at this ⊢
    omega
  dsimp only [ConL]
  k_fill
  intros
  rename_i hret
  walk_at "my_enterL"
  k_steps
  · refine' hret _ _ _ _ (hbut2 ?G ?F) ?F2 ?N ?P; (case G => assumption); (case F => assumption); (case F2 => assumption); (case N => assumption); (case P => exact ⟨_, _, congrArg (Value.str · _) (slice_one hc (by omega)), rfl⟩)
  · refine' hret _ _ _ _ (hbut2 ?G ?F) ?F2 ?N ?P; (case G => assumption); (case F => assumption); (case F2 => assumption); (case N => assumption)
    have e : (buf.length : Int) = ((pos + 1 : Nat) : Int) := by omega
    exact ⟨_, _, congrArg (Value.str · _) (slice_one hc (by omega)), by rw [e]⟩
theorem c_read_end (w : World) (io iod : Addr) (tn tb tp nl : Tok) (buf : Str) (bt : Tok) (pos : Nat) (pt t1 : Tok) (hne : io ≠ iod) (hc : pos = buf.length) (h2 : buf.length ≤ 1000) :
    ConL w 4 540 [.ref io, .int 1 t1] (ioObjs w.params io iod tn tb tp nl buf bt pos pt) (fun v news => ∃ tk, v = .str (t "") tk ∧ news = ioObjs w.params io iod tn tb tp nl buf bt pos pt) := by
  have hl : ¬ ((pos : Int) < (buf.length : Int)) := by omega
  dsimp only [ConL]
  k_fill
  intros
  rename_i hret
  walk_at "my_enterL"
  k_steps
  all_goals (refine' hret _ _ _ _ (hbut2 ?G ?F) ?F2 ?N ?P; (case G => assumption); (case F => assumption); (case F2 => assumption); (case N => assumption); (case P => exact ⟨_, rfl, rfl⟩))
end Mine
end
section
set_option maxRecDepth 1000000
set_option maxHeartbeats 8000000
namespace Mine
theorem mro_deque : mroOf (.type "collections.deque") = pure [.type "collections.deque", .type "object"] := by rw [mroOf_type]; kernel_rfl
theorem lookup_deque_new : typeLookup (.type "collections.deque") "__new__" = pure (some (.builtin "collections.deque.__new__")) := by rw [typeLookup_type, builtinLookup_eq_fast]; kernel_rfl
theorem slot_deque_init : Slot "collections.deque" "__init__" "collections.deque.__init__" :=
  .of (owner := "collections.deque") (n := "__init__") (by rw [typeLookup_type, builtinLookup_eq_fast]; kernel_rfl) (by decide +kernel) (by decide +kernel) (by decide +kernel)
    (by first | exact .inl (by decide +kernel) | exact .inr (by decide +kernel)) (by rw [isSubtype_type]; kernel_rfl)
theorem entry_deque_init : entryFor table "collections.deque.__init__" = some Builtin.«collections.deque.__init__» := entryFor_of_tree (by kernel_rfl)
theorem called_deque : TypeCalled "collections.deque" "collections.deque.__new__" "collections.deque.__init__" :=
  ⟨by decide +kernel, by decide +kernel, ⟨_, _, mro_deque⟩, madeBy_type mro_deque lookup_deque_new (by decide +kernel), by decide +kernel, by rw [isSubtype_type]; kernel_rfl, slot_deque_init⟩
theorem typeCall_deque_0 : checkTypeCall "collections.deque" ⟨[], []⟩ = pure () := by kernel_rfl
theorem newCall_deque_0 : checkBuiltinCall "collections.deque.__new__" ⟨[.type "collections.deque"], []⟩ = pure () := by kernel_rfl
theorem entry_deque_new : entryFor table "collections.deque.__new__" = some Builtin.«collections.deque.__new__» := entryFor_of_tree (by kernel_rfl)
theorem plain_deque_new : plainId "collections.deque.__new__" = true := by decide +kernel
theorem sub_deque_self : isSubtype (.type "collections.deque") (.type "collections.deque") = pure true := by rw [isSubtype_type]; kernel_rfl
theorem dq_new_run : Builtin.«collections.deque.__new__» ⟨[.type "collections.deque"], []⟩ = (alloc ⟨.type "collections.deque", none, .fields #[.none, .int 0 0], #[]⟩ >>= fun a => pure (.done (.ret (.ref a)))) := by kernel_rfl
abbrev dqObj : Obj := ⟨.type "collections.deque", none, .fields #[.none, .int 0 0], #[]⟩
section
variable {prog : Program} {w : World} {A : Around} {E : Value → Shared → Prop} {s : Shared}
theorem code_deque_new {Q₁ : Value → Shared → Prop} (h : Q₁ (.ref s.heap.objs.size) { s with heap := s.heap.push dqObj }) :
    codeAny (model prog w) A (.call (.builtin "collections.deque.__new__") ⟨[.type "collections.deque"], []⟩) (wants Q₁ E) s := by
  refine codeAny_of_tree ?_
  show wpAny _ A.in1 (do checkBuiltinCall "collections.deque.__new__" ⟨[.type "collections.deque"], []⟩; again (.builtin "collections.deque.__new__" ⟨[.type "collections.deque"], []⟩)) _ _ s
  refine wpAny_bind (wpAny_of_eq newCall_deque_0 (wpAny_pure ⟨plainId_quiet plain_deque_new _, codeAny_builtin entry_deque_new ?_⟩))
  rw [dq_new_run]
  exact wpAny_bind (wpAny_alloc (wpAny_pure h))
theorem dq_init_run (a : Addr) : Builtin.«collections.deque.__init__» ⟨[.ref a], []⟩ = (setField (.ref a) 0 .none >>= fun _ => Builtin.Deque.clear (.ref a) >>= fun _ => pure (.done (.ret .none))) := by kernel_rfl
theorem dq_args (a : Value) : argsOk "collections.deque.__init__" ⟨[a], []⟩ := by unfold argsOk; kernel_rfl
theorem dq_kind : builtinKind "collections.deque.__init__" = some .slot := by decide +kernel
theorem dq_split : splitId "collections.deque.__init__" = some ("collections.deque", "__init__") := by decide +kernel
theorem dq_upd : Obj.mapFields (·.setIfInBounds 0 Value.none) dqObj = dqObj := rfl
theorem update_same {h : Heap} {a : Addr} {o : Obj} {f : Obj → Obj} (g : h.get? a = some o) (e : f o = o) : h.update a f = h := by
  unfold Heap.update
  have : h.objs.modify a f = h.objs := by
    apply Array.ext_getElem?
    intro i
    rw [Array.getElem?_modify]
    by_cases q : a = i
    · subst q
      have ho : h.objs[a]? = some o := by
        unfold Heap.get? at g
        split at g
        · cases g
        · exact g
      simp [ho, e]
    · simp [q]
  obtain ⟨ob, lf⟩ := h
  dsimp only at this ⊢
  rw [this]
set_option maxHeartbeats 1000000 in
theorem call_deque_0 {Q : Value → Shared → Prop} (h : Q (.ref s.heap.objs.size) { s with heap := s.heap.push dqObj }) :
    wpAny (model prog w) A (call (.type "collections.deque") []) Q E s := by
  obtain ⟨c, tl, hmro⟩ := called_deque.mro
  have hmade := called_deque.made
  have hsub := called_deque.sub
  refine wpAny_call (codeAny_of_tree ?_)
  show wpAny _ _ (callAny (.type "collections.deque") _) _ _ _
  refine wpAny_pure ⟨Code.quiet_builtin _ (by decide +kernel), codeAny_builtin F.entry_type_call ?_⟩
  rw [Around.under_plain (weight_type_call_type "collections.deque" [] []) rfl]
  have h1 := called_deque.notType
  have h2 := called_deque.canCreate
  have hct := typeCall_deque_0
  repeat (any_goals (first | assumption | wp_step))
  refine codeAny_mono (code_deque_new (E := E) (Q₁ := fun obj s₁ => obj = .ref s.heap.objs.size ∧ s₁ = { s with heap := s.heap.push dqObj }) ⟨rfl, rfl⟩) fun r s₁ hr => ?_
  cases r with
  | error e => exact hr
  | ok fl =>
    cases fl with
    | ret obj =>
      obtain ⟨rfl, rfl⟩ := hr
      have hS : (s.heap.push dqObj).get? s.heap.objs.size = some dqObj := Heap.get?_push_size _ rfl
      have hT : Shared.TypeIs { s with heap := s.heap.push dqObj } (.ref s.heap.objs.size) "collections.deque" := ⟨_, hS, rfl⟩
      have hli := called_deque.init.lookup
      have hbi := called_deque.init.bind (.ref s.heap.objs.size)
      have hin : Looks (model prog w) (s.heap.push dqObj) (isInstance (.ref s.heap.objs.size) (.type "collections.deque")) true := ((Looks.ld hS).andThen .now).andThen (Looks.of_pure sub_deque_self)
      repeat (any_goals (first | assumption | wp_step))
      refine codeAny_mono (codeAny_call_builtin (R := wants (fun r s₂ => r = .none ∧ Q (.ref s.heap.objs.size) s₂) E) called_deque.init.plain entry_deque_init (@check_slot (model prog w) _ _ _ "collections.deque.__init__" "collections.deque" "__init__" (.ref s.heap.objs.size) [] [] _ dq_kind dq_split hin (dq_args (.ref s.heap.objs.size)) ?_)) fun r₂ s₂ hr₂ => ?_
      · show wpAny _ _ (Builtin.«collections.deque.__init__» ⟨[.ref s.heap.objs.size], []⟩) _ _ _
        rw [dq_init_run]
        refine wpAny_bind (wpAny_setField hS rfl (by decide) ?_)
        rw [update_same hS dq_upd]
        unfold Builtin.Deque.clear Builtin.Deque.items
        refine wpAny_bind (wpAny_bind (wpAny_bind (wpAny_fieldsOf hS rfl (wpAny_pure ?_))))
        exact wpAny_pure (wpAny_pure ⟨rfl, h⟩)
      · cases r₂ with
        | error e => exact hr₂
        | ok fl₂ =>
          cases fl₂ with
          | ret r =>
            obtain ⟨rfl, hq⟩ := hr₂
            repeat (any_goals (first | assumption | wp_step))
          | _ => exact hr₂.elim
    | _ => exact hr.elim
theorem newDeque_N {h₀ : Heap} {L : Addr} {m : Str → Option Value} {news : List (Addr × Obj)} {Q : Value → Shared → Prop} (F : Fr h₀ L s.heap m) (N : News h₀ L s.heap news)
    (h : ∀ x h', Fr h₀ L h' m → News h₀ L h' ((x, dqObj) :: news) → (∀ p ∈ news, p.1 < x) → Q (.ref x) { s with heap := h' }) :
    wpAny (model prog w) A (call (.type "collections.deque") []) Q E s := call_deque_0 (h _ _ (F.push _) (N.push F _) fun p hp => Heap.lt_size (N p hp).1)
end
end Mine
end
section
set_option maxRecDepth 100000
set_option maxHeartbeats 8000000
namespace Mine
local macro_rules | `(tactic| walk_at "my_enterL") => `(tactic| (refine wpAny_call ?_; k_dflt (refine' code_defG ?k1 ?k2 ?k3 ?k4 ?k5 ?kA ?kF ?kK ?k6 ?k7 ?k8 ?k9 ?kB ?_ ?c2 ?c3 ?c4 ?c5; (case kA => exact rfl); (case kF => exact rfl); (case kK => assumption); (case k1 => k_asm); (case k2 => k_asm); (case k3 => k_asm); (case k4 => k_asm); (case k5 => k_asm); (case k6 => k_is); (case k7 => k_is); (case k8 => exact room_d (by assumption)); (case k9 => first | exact BindsTo.of_eq rfl | exact binds_K (by k_in) rfl (by k_is) rfl rfl rfl); (case c5 => decide); (case kB => exact locs rfl); (case c2 => exact rfl); (case c3 => exact rfl); (case c4 => exact rfl); k_whole; intro g' L' h' FG' F' N' B' X' T' GS; refine wp_noexc ?_; (try dsimp only); (try k_fold))))
local macro_rules | `(tactic| k_room) => `(tactic| (simp only [depth_under_make, depth_under_kw, depth_in1, depth_deeper, depth_caller]; omega))
local macro_rules | `(tactic| walk_at "execs cons") => `(tactic| (refine wpAny_execs_cons ?_; (try dsimp only); (try (refine gen_tk (fun tk => ?_)))))
local macro_rules | `(tactic| walk_at "compareOp In str str") => `(tactic| k_dflt (first | (refine in_str_b (b := true) (by first | assumption | decide +kernel) ?_) | (refine in_str_b (b := false) (by first | assumption | decide +kernel) ?_)))
local macro_rules | `(tactic| walk_at "compareOp Eq str str") => `(tactic| k_dflt (first | (refine eq_str_b (b := true) (by first | assumption | decide +kernel) ?_) | (refine eq_str_b (b := false) (by first | assumption | decide +kernel) ?_)))
local macro_rules | `(tactic| walk_at "truthy str") => `(tactic| k_dflt (first | (refine truthy_str_b (b := true) (by first | assumption | exact Nat.le_of_ble_eq_true rfl) (by first | assumption | exact rfl) ?_) | (refine truthy_str_b (b := false) (by first | assumption | exact Nat.le_of_ble_eq_true rfl) (by first | assumption | exact rfl) ?_)))
abbrev wch : String := "abcdfeghijklmnopqrstuvwxyzABCDEFGHIJKLMNOPQRSTUVWXYZ0123456789_ßàáâãäåæçèéêëìíîïðñòóôõöøùúûüýþÿÀÁÂÃÄÅÆÇÈÉÊËÌÍÎÏÐÑÒÓÔÕÖØÙÚÛÜÝÞ"
abbrev lexEs (P : Params) (k v : Nat → Tok) (io pb fs : Addr) (state : Value) (lineno : Int) (lt : Tok) (token : Str) (tt : Tok) : List DictEntry := [
  e P "instream" (k 0) (.ref io), e P "infile" (k 1) .none, e P "posix" (k 2) (.bool true), e P "eof" (k 3) .none, e P "commenters" (k 4) (.str (t "") (v 4)), e P "wordchars" (k 5) (.str (t wch) (v 5)), e P "whitespace" (k 6) (.str (t " \t\r\n") (v 6)), e P "whitespace_split" (k 7) (.bool true), e P "quotes" (k 8) (.str (t "'\"") (v 8)), e P "escape" (k 9) (.str (t "\\") (v 9)), e P "escapedquotes" (k 10) (.str (t "\"") (v 10)), e P "state" (k 11) state, e P "pushback" (k 12) (.ref pb), e P "lineno" (k 13) (.int lineno lt), e P "debug" (k 14) (.int 0 (v 14)), e P "token" (k 15) (.str token tt), e P "filestack" (k 16) (.ref fs), e P "source" (k 17) .none, e P "_punctuation_chars" (k 18) (.str (t "") (v 18))]
abbrev lexObjs (P : Params) (k v : Nat → Tok) (lex ld io iod pb fs : Addr) (state : Value) (lineno : Int) (lt : Tok) (token : Str) (tt : Tok) (buf : Str) (pos : Nat) (pt : Tok) : List (Addr × Obj) :=
  [(fs, dqObj), (pb, dqObj), (io, instObj 594 iod), (iod, dictOf [e P "_StringIO__newline" (k 19) (.str (t "\n") (v 19)), e P "_StringIO__buf" (k 20) (.str buf (v 20)), e P "_StringIO__pos" (k 21) (.int (pos : Int) pt)] 3), (lex, instObj 729 ld), (ld, dictOf (lexEs P k v io pb fs state lineno lt token tt) 19)]
abbrev isDig (c : Nat) : Prop := c = 49 ∨ c = 50 ∨ c = 51 ∨ c = 53 ∨ c = 55
abbrev isBl (c : Nat) : Prop := c = 32 ∨ c = 9 ∨ c = 10
inductive MS | sp | wd | sq | dq | es
def MS.txt : MS → Str
  | .sp => t " " | .wd => t "a" | .sq => t "'" | .dq => t "\"" | .es => t "\\"
/-- what the reader does with a line's signs -/
inductive MRun (T : Str) (r' : List Nat) : MS → Str → List Nat → Prop
  | stop {c} : isBl c → T.length ≠ 0 → MRun T r' .wd T (c :: r')
  | dig_sp {c tok r} : isDig c → MRun T r' .wd ⟨#[c]⟩ r → MRun T r' .sp tok (c :: r)
  | sq_sp {tok r} : MRun T r' .sq tok r → MRun T r' .sp tok (39 :: r)
  | dq_sp {tok r} : MRun T r' .dq tok r → MRun T r' .sp tok (34 :: r)
  | es_sp {tok r} : MRun T r' .es tok r → MRun T r' .sp tok (92 :: r)
  | dig_sq {c tok r} : isDig c → MRun T r' .sq (tok ++ ⟨#[c]⟩) r → MRun T r' .sq tok (c :: r)
  | end_sq {tok r} : MRun T r' .wd tok r → MRun T r' .sq tok (39 :: r)
  | dig_dq {c tok r} : isDig c → MRun T r' .dq (tok ++ ⟨#[c]⟩) r → MRun T r' .dq tok (c :: r)
  | end_dq {tok r} : MRun T r' .wd tok r → MRun T r' .dq tok (34 :: r)
  | dig_es {c tok r} : isDig c → MRun T r' .wd (tok ++ ⟨#[c]⟩) r → MRun T r' .es tok (c :: r)
  | dig_wd {c tok r} : isDig c → MRun T r' .wd (tok ++ ⟨#[c]⟩) r → MRun T r' .wd tok (c :: r)
  | sq_wd {tok r} : MRun T r' .sq tok r → MRun T r' .wd tok (39 :: r)
  | dq_wd {tok r} : MRun T r' .dq tok r → MRun T r' .wd tok (34 :: r)
  | es_wd {tok r} : MRun T r' .es tok r → MRun T r' .wd tok (92 :: r)
local macro_rules | `(tactic| walk_at "my_use") => `(tactic| ((case k1 => k_asm); (case k2 => k_asm); (case k3 => k_asm); (case k4 => k_asm); (case k5 => exact rfl); (case k6 => (simp only [depth_under_make, depth_under_kw, depth_in1, depth_deeper, depth_caller]; omega)); (case k7 => (simp only [units_in1, units_deeper, Around.mark_units, units_caller]; omega))))
/-- read_token's names -/
abbrev rtMap (lex : Addr) (q : Bool) (es : Str) (te : Tok) (nc : Option Value) : Str → Option Value := fun y => if y = t "nextchar" then nc else if y = t "escapedstate" then some (.str es te) else if y = t "quoted" then some (.bool q) else if y = t "self" then some (.ref lex) else none
def RtJ (P : Params) (k v : Nat → Tok) (lex ld io iod pb fs : Addr) (buf T : Str) (r' : List Nat) (n : Nat) (m : Str → Option Value) (news : List (Addr × Obj)) : Prop :=
  ∃ (st : MS) (tok : Str) (rest : List Nat) (q : Bool) (es : Str) (te : Tok) (nc : Option Value) (ts : Tok) (lineno : Int) (lt tt : Tok) (pos : Nat) (pt : Tok), MRun T r' st tok rest ∧ n = rest.length ∧ buf.cps.toList.drop pos = rest ∧ tok.length ≤ pos ∧ pos ≤ buf.length ∧ (st = .es → es = t "a") ∧ 0 ≤ lineno ∧ lineno ≤ (pos : Int) + 1 ∧
    m = rtMap lex q es te nc ∧ news = lexObjs P k v lex ld io iod pb fs (.str st.txt ts) lineno lt tok tt buf pos pt
theorem MRun.cons {T : Str} {r' : List Nat} {st : MS} {tok : Str} {l : List Nat} (h : MRun T r' st tok l) : ∃ c r, l = c :: r := by cases h <;> exact ⟨_, _, rfl⟩
theorem news_tail {h₀ h : Heap} {L : Addr} {p : Addr × Obj} {l : List (Addr × Obj)} (N : News h₀ L h (p :: l)) : News h₀ L h l := fun q hq => N q (.tail _ hq)
section
variable {P : Params} {k v : Nat → Tok} {lex ld io iod pb fs : Addr} {state : Value} {lineno : Int} {lt : Tok} {token : Str} {tt : Tok} {buf : Str} {pos pos' : Nat} {pt pt' : Tok} {h₀ h h' : Heap} {L : Addr}
theorem lex_io (N : News h₀ L h (lexObjs P k v lex ld io iod pb fs state lineno lt token tt buf pos pt)) : News h₀ L h (ioObjs P io iod (k 19) (k 20) (k 21) (v 19) buf (v 20) pos pt) := fun p hp => by
  rcases List.mem_cons.mp hp with rfl | hp
  · exact N _ (.tail _ (.tail _ (.head _)))
  · rcases List.mem_cons.mp hp with rfl | hp
    · exact N _ (.tail _ (.tail _ (.tail _ (.head _))))
    · cases hp
theorem lex_io_back (hA : ld < lex) (hB : lex < iod) (hC : iod < io) (hD : io < pb) (hE : pb < fs) (N : News h₀ L h (lexObjs P k v lex ld io iod pb fs state lineno lt token tt buf pos pt))
    (HB : HBut ((ioObjs P io iod (k 19) (k 20) (k 21) (v 19) buf (v 20) pos pt).map (·.1)) h h') (N' : News h₀ L h' (ioObjs P io iod (k 19) (k 20) (k 21) (v 19) buf (v 20) pos' pt')) :
    News h₀ L h' (lexObjs P k v lex ld io iod pb fs state lineno lt token tt buf pos' pt') := by
  have key : ∀ a o, (a, o) ∈ lexObjs P k v lex ld io iod pb fs state lineno lt token tt buf pos pt → a ≠ io → a ≠ iod → h'.get? a = some o ∧ a ≠ L ∧ h₀.get? a = none := fun a o hm h1 h2 =>
    ⟨HB a o (N _ hm).1 (by simp [h1, h2]), (N _ hm).2⟩
  have ne (a b : Nat) (h : a < b) : a ≠ b := Nat.ne_of_lt h
  intro p hp
  simp only [List.mem_cons, List.not_mem_nil, or_false] at hp
  rcases hp with rfl | rfl | rfl | rfl | rfl | rfl
  · exact key _ _ (.head _) (by unfold Addr at *; omega) (by unfold Addr at *; omega)
  · exact key _ _ (.tail _ (.head _)) (by unfold Addr at *; omega) (by unfold Addr at *; omega)
  · exact N' _ (.head _)
  · exact N' _ (.tail _ (.head _))
  · exact key _ _ (.tail _ (.tail _ (.tail _ (.tail _ (.head _))))) (by unfold Addr at *; omega) (by unfold Addr at *; omega)
  · exact key _ _ (.tail _ (.tail _ (.tail _ (.tail _ (.tail _ (.head _)))))) (by unfold Addr at *; omega) (by unfold Addr at *; omega)
end
theorem fr_congr {h₀ h : Heap} {L : Addr} {m m' : Str → Option Value} (F : Fr h₀ L h m) (e : ∀ y, m y = m' y) : Fr h₀ L h m' := (funext e) ▸ F
theorem lookup_one (y x : Str) (v : Value) : List.lookup y [(x, v)] = if y = x then some v else none := by
  by_cases h : y = x
  · subst h; simp [List.lookup]
  · rw [if_neg h]; simp [List.lookup, beq_eq_false_iff_ne.mpr h]
theorem sgl_ne {c d : Nat} (h : c ≠ d) : ((⟨#[c]⟩ : Str) == ⟨#[d]⟩) = false := beq_eq_false_iff_ne.mpr fun e => h (by injection e with e; injection e with e; injection e)
theorem t_nl : t "\n" = ⟨#[10]⟩ := by decide +kernel
theorem t_sq : t "'" = ⟨#[39]⟩ := by decide +kernel
theorem t_dq : t "\"" = ⟨#[34]⟩ := by decide +kernel
abbrev inB (x y : Str) : Bool := !(Builtin.Str.occurrences x y 0 x.length 1).isEmpty
structure DigF (c : Nat) : Prop where
  ws : inB (t " \t\r\n") ⟨#[c]⟩ = false
  cm : inB (t "") ⟨#[c]⟩ = false
  es : inB (t "\\") ⟨#[c]⟩ = false
  wc : inB (t wch) ⟨#[c]⟩ = true
  qu : inB (t "'\"") ⟨#[c]⟩ = false
  nl : ((⟨#[c]⟩ : Str) == t "\n") = false
  sq : ((⟨#[c]⟩ : Str) == t "'") = false
  dq : ((⟨#[c]⟩ : Str) == t "\"") = false
theorem digF {c : Nat} (h : isDig c) : DigF c := by
  rcases h with rfl | rfl | rfl | rfl | rfl <;> exact ⟨by decide +kernel, by decide +kernel, by decide +kernel, by decide +kernel, by decide +kernel, by decide +kernel, by decide +kernel, by decide +kernel⟩
theorem rt_next {P : Params} {k v : Nat → Tok} {lex ld io iod pb fs : Nat} {buf T : Str} {r' r : List Nat} {st : MS} {tok : Str} {q : Bool} {es : Str} {te : Tok} {nc : Option Value} {ts : Tok} {lineno : Int} {lt tt : Tok} {pos : Nat} {pt : Tok} {g h : Heap} {L : Addr} {m₂ : Str → Option Value} {s : Shared} {Q : Flow → Shared → Prop} {c n tk : Nat}
    (F : Fr g L h m₂) (N : News g L h (lexObjs P k v lex ld io iod pb fs (.str st.txt ts) lineno lt tok tt buf (pos + 1) pt)) (hm : ∀ y, m₂ y = rtMap lex q es te nc y) (hrun : MRun T r' st tok r) (hdrop : buf.cps.toList.drop pos = c :: r) (hn : n = (c :: r).length)
    (htl : tok.length ≤ pos + 1) (hes : st = .es → es = t "a") (hl0 : 0 ≤ lineno) (hl1 : lineno ≤ (pos : Int) + 1 + 1) :
    WhileStep2 g L s (RtJ P k v lex ld io iod pb fs buf T r') Q n .next { s with heap := h, toks := tk } := by
  have hd : buf.cps.toList.drop (pos + 1) = r := by rw [← List.drop_drop, hdrop]; rfl
  have hp : pos + 1 ≤ buf.length := by
    have := congrArg List.length hdrop
    simp only [List.length_drop, List.length_cons, Array.length_toList] at this
    simp only [Str.length]; omega
  refine ⟨h, tk, m₂, _, r.length, rfl, F, N, ?_, st, tok, r, q, es, te, nc, ts, lineno, lt, tt, pos + 1, pt, hrun, rfl, hd, htl, hp, hes, hl0, by omega, funext hm, rfl⟩
  rw [hn, List.length_cons]; omega
local macro_rules | `(tactic| walk_at "rt_map") => `(tactic| (intro y; dsimp only [rtMap]; (by_cases h1 : y = t "nextchar"); (· subst h1; rfl); (by_cases h2 : y = t "escapedstate"); (· subst h2; rfl); (by_cases h3 : y = t "quoted"); (· subst h3; rfl); (by_cases h4 : y = t "self"); (· subst h4; rfl); (simp only [if_neg h1, if_neg h2, if_neg h3, if_neg h4])))
local macro_rules | `(tactic| walk_at "rt_end") => `(tactic| ((rename Fr _ _ _ _ => F6); (rename News _ _ _ _ => N6); (try dsimp only); (refine' rt_next F6 (st := ?st) N6 ?hm (by assumption) (by assumption) hn ?htl ?hes ?l0 ?l1)))
theorem c_read_token (w : World) (k v : Nat → Tok) (lex ld io iod pb fs : Nat) (hA : ld < lex) (hB : lex < iod) (hC : iod < io) (hD : io < pb) (hE : pb < fs) (ts : Tok) (lineno : Int) (lt tt : Tok) (buf T : Str) (r' : List Nat) (pos : Nat) (pt : Tok)
    (hl0 : 0 ≤ lineno) (hl1 : lineno ≤ (pos : Int) + 1) (hb : buf.length ≤ 1000) (hr : MRun T r' .sp (t "") (buf.cps.toList.drop pos)) (hpos : pos ≤ buf.length) :
    ConL w 8 697 [.ref lex] (lexObjs w.params k v lex ld io iod pb fs (.str (t " ") ts) lineno lt (t "") tt buf pos pt)
      (fun v' news => ∃ tk ts' lineno' lt' tt' pos' pt', v' = .str T tk ∧ buf.cps.toList.drop pos' = r' ∧ pos' ≤ buf.length ∧ T.length ≤ 1000 ∧ T.length ≠ 0 ∧ 0 ≤ lineno' ∧ lineno' ≤ (pos' : Int) + 1 ∧ news = lexObjs w.params k v lex ld io iod pb fs (.str (t " ") ts') lineno' lt' (t "") tt' buf pos' pt') := by
  dsimp only [ConL]
  k_fill
  intros
  rename_i hret
  walk_at "my_enterL"
  repeat' ((fail_if_success (with_reducible show wpAny _ _ (exec (Stmt.While _ _ _ _) _) _ _ _)); (first | (k_unfold; (try dsimp only)) | (k_end; wrow_close) | walk1 | (dsimp only; walk1) | (leave1; walk_say "STEP leave1"; try dsimp only) | fail "no step"))
  rename Fr _ _ _ _ => F5
  rename News _ _ _ _ => N5
  have F6 := fr_congr (m' := rtMap lex false (t " ") _ none) F5 (fun y => by
    dsimp only [rtMap]
    by_cases h1 : y = t "nextchar"
    · subst h1; rfl
    · rw [if_neg h1]
      split
      · rfl
      · split
        · rfl
        · exact lookup_one _ _ _)
  clear F5
  refine While_inv2 (RtJ w.params k v lex ld io iod pb fs buf T r') (n₀ := (buf.cps.toList.drop pos).length) F6 N5 ?J ?turn PassesOwn.never
  case J => exact ⟨.sp, t "", _, false, t " ", _, none, ts, lineno, lt, tt, pos, pt, hr, rfl, rfl, by show 0 ≤ pos; omega, hpos, (fun h => by cases h), hl0, hl1, rfl, rfl⟩
  clear F6 N5
  rintro n m₁ news₁ h₁ tk₁ F₁ N₁ ⟨st, tok, rest, q, es, te, nc, ts, lineno, lt, tt, pos, pt, hrun, hn, hdrop, htl, hpos, hes, hl0, hl1, rfl, rfl⟩
  obtain ⟨c, r, rfl⟩ := hrun.cons
  have hc : buf.cps.toList[pos]? = some c := by rw [← List.head?_drop, hdrop]; rfl
  repeat' ((fail_if_success (with_reducible show wpAny _ _ (call (Value.ref 540) _) _ _ _)); (first | (k_unfold; (try dsimp only)) | (k_end; wrow_close) | walk1 | (dsimp only; walk1) | (leave1; walk_say "STEP leave1"; try dsimp only) | fail "no step"))
  have hnl : ∃ b : Bool, ((⟨#[c]⟩ : Str) == t "\n") = b ∧ (b = true → c = 10) := by
    by_cases h10 : c = 10
    · exact ⟨true, by rw [h10]; decide +kernel, fun _ => h10⟩
    · exact ⟨false, by rw [t_nl]; exact sgl_ne h10, fun h => by cases h⟩
  obtain ⟨b, hnl, hb10⟩ := hnl
  rename News _ _ _ _ => N5
  k_dflt (refine' conL_use (c_read w io iod (k 19) (k 20) (k 21) (v 19) buf (v 20) pos pt _ c (Nat.ne_of_gt hC) hc hb) ?k1 ?k2 ?k3 ?k4 ?k5 ?k6 ?k7 (lex_io N5) ?_)
  walk_at "my_use"
  intro v9 h9 tk9 news9 HB9 F9 N9 P9
  obtain ⟨tkc, pt', rfl, rfl⟩ := P9
  have N10 := lex_io_back hA hB hC hD hE N5 HB9 N9
  clear N9 N5 HB9
  dsimp only
  cases b
  all_goals
    repeat' ((fail_if_success (with_reducible show wpAny _ _ (exec (Stmt.If (Expr.Compare (Expr.Attribute _ _ _) [CmpOp.Is] _ _) _ _ _) _) _ _ _)); (first | (k_unfold; (try dsimp only)) | (k_end; wrow_close) | walk1 | (dsimp only; walk1) | (leave1; walk_say "STEP leave1"; try dsimp only) | fail "no step"))
  all_goals (rename News _ _ _ _ => N5)
  · have htok : tok.length ≤ 1000000 := by omega
    cases hrun
    case stop =>
      have hbl : isBl c := by assumption
      have hT : T.length ≠ 0 := by assumption
      have hT2 : ((T.length : Int) != 0) = true := by simp only [bne_iff_ne, ne_eq]; omega
      have hT3 : (T == t "") = false := beq_eq_false_iff_ne.mpr fun e => hT (by rw [e]; rfl)
      have hw : inB (t " \t\r\n") ⟨#[c]⟩ = true := by rcases hbl with rfl | rfl | rfl <;> decide +kernel
      have hd1 : buf.cps.toList.drop (pos + 1) = r' := by rw [← List.drop_drop, hdrop]; rfl
      have hp1 : pos + 1 ≤ buf.length := by
        have := congrArg List.length hdrop
        simp only [List.length_drop, List.length_cons, Array.length_toList] at this
        simp only [Str.length]; omega
      dsimp only [MS.txt] at N5
      k_steps
      dsimp only [WhileStep2]
      k_steps
      all_goals (refine' hret _ _ _ _ (hbut2 ?G ?F) ?F2 ?N ?P; (case G => assumption); (case F => assumption); (case F2 => assumption); (case N => exact news_tail (by assumption)); (case P => exact ⟨_, _, _, _, _, pos + 1, _, rfl, hd1, hp1, by omega, hT, hl0, by omega, rfl⟩))
    case dig_sp hd hrun' =>
      obtain ⟨f1, f2, f3, f4, f5, f6, f7, f8⟩ := digF hd
      dsimp only [MS.txt] at N5
      k_steps
      rename Fr _ _ _ _ => F6
      rename News _ _ _ _ => N6
      dsimp only
      exact rt_next (st := .wd) F6 N6 (by walk_at "rt_map") hrun' hdrop hn (by show 1 ≤ pos + 1; omega) (fun h => by cases h) hl0 (by omega)
    case sq_sp hrun' =>
      dsimp only [MS.txt] at N5
      k_steps
      rename Fr _ _ _ _ => F6
      rename News _ _ _ _ => N6
      dsimp only
      exact rt_next (st := .sq) F6 N6 (by walk_at "rt_map") hrun' hdrop hn (by omega) (fun h => by cases h) hl0 (by omega)
    case dq_sp hrun' =>
      dsimp only [MS.txt] at N5
      k_steps
      rename Fr _ _ _ _ => F6
      rename News _ _ _ _ => N6
      dsimp only
      exact rt_next (st := .dq) F6 N6 (by walk_at "rt_map") hrun' hdrop hn (by omega) (fun h => by cases h) hl0 (by omega)
    case es_sp hrun' =>
      dsimp only [MS.txt] at N5
      k_steps
      rename Fr _ _ _ _ => F6
      rename News _ _ _ _ => N6
      dsimp only
      exact rt_next (st := .es) F6 N6 (by walk_at "rt_map") hrun' hdrop hn (by omega) (fun _ => rfl) hl0 (by omega)
    case dig_sq hd hrun' =>
      obtain ⟨f1, f2, f3, f4, f5, f6, f7, f8⟩ := digF hd
      dsimp only [MS.txt] at N5
      k_steps
      rename Fr _ _ _ _ => F6
      rename News _ _ _ _ => N6
      dsimp only
      exact rt_next (st := .sq) F6 N6 (by walk_at "rt_map") hrun' hdrop hn (by rw [Str.length_append]; show tok.length + 1 ≤ pos + 1; omega) (fun h => by cases h) hl0 (by omega)
    case end_sq hrun' =>
      dsimp only [MS.txt] at N5
      k_steps
      rename Fr _ _ _ _ => F6
      rename News _ _ _ _ => N6
      dsimp only
      exact rt_next (st := .wd) F6 N6 (by walk_at "rt_map") hrun' hdrop hn (by omega) (fun h => by cases h) hl0 (by omega)
    case dig_dq hd hrun' =>
      obtain ⟨f1, f2, f3, f4, f5, f6, f7, f8⟩ := digF hd
      dsimp only [MS.txt] at N5
      k_steps
      rename Fr _ _ _ _ => F6
      rename News _ _ _ _ => N6
      dsimp only
      exact rt_next (st := .dq) F6 N6 (by walk_at "rt_map") hrun' hdrop hn (by rw [Str.length_append]; show tok.length + 1 ≤ pos + 1; omega) (fun h => by cases h) hl0 (by omega)
    case end_dq hrun' =>
      dsimp only [MS.txt] at N5
      k_steps
      rename Fr _ _ _ _ => F6
      rename News _ _ _ _ => N6
      dsimp only
      exact rt_next (st := .wd) F6 N6 (by walk_at "rt_map") hrun' hdrop hn (by omega) (fun h => by cases h) hl0 (by omega)
    case dig_es hd hrun' =>
      obtain ⟨f1, f2, f3, f4, f5, f6, f7, f8⟩ := digF hd
      obtain rfl := hes rfl
      dsimp only [MS.txt] at N5
      k_steps
      rename Fr _ _ _ _ => F6
      rename News _ _ _ _ => N6
      dsimp only
      exact rt_next (st := .wd) F6 N6 (by walk_at "rt_map") hrun' hdrop hn (by rw [Str.length_append]; show tok.length + 1 ≤ pos + 1; omega) (fun h => by cases h) hl0 (by omega)
    case dig_wd hd hrun' =>
      obtain ⟨f1, f2, f3, f4, f5, f6, f7, f8⟩ := digF hd
      dsimp only [MS.txt] at N5
      k_steps
      rename Fr _ _ _ _ => F6
      rename News _ _ _ _ => N6
      dsimp only
      exact rt_next (st := .wd) F6 (news_tail N6) (by walk_at "rt_map") hrun' hdrop hn (by rw [Str.length_append]; show tok.length + 1 ≤ pos + 1; omega) (fun h => by cases h) hl0 (by omega)
    case sq_wd hrun' =>
      dsimp only [MS.txt] at N5
      k_steps
      rename Fr _ _ _ _ => F6
      rename News _ _ _ _ => N6
      dsimp only
      exact rt_next (st := .sq) F6 (news_tail N6) (by walk_at "rt_map") hrun' hdrop hn (by omega) (fun h => by cases h) hl0 (by omega)
    case dq_wd hrun' =>
      dsimp only [MS.txt] at N5
      k_steps
      rename Fr _ _ _ _ => F6
      rename News _ _ _ _ => N6
      dsimp only
      exact rt_next (st := .dq) F6 (news_tail N6) (by walk_at "rt_map") hrun' hdrop hn (by omega) (fun h => by cases h) hl0 (by omega)
    case es_wd hrun' =>
      dsimp only [MS.txt] at N5
      k_steps
      rename Fr _ _ _ _ => F6
      rename News _ _ _ _ => N6
      dsimp only
      exact rt_next (st := .es) F6 (news_tail N6) (by walk_at "rt_map") hrun' hdrop hn (by omega) (fun _ => rfl) hl0 (by omega)
  · have htok : tok.length ≤ 1000000 := by omega
    obtain rfl := hb10 rfl
    have nd : ¬ isDig 10 := by decide
    cases hrun
    case stop =>
      have hT : T.length ≠ 0 := by assumption
      have hT2 : ((T.length : Int) != 0) = true := by simp only [bne_iff_ne, ne_eq]; omega
      have hT3 : (T == t "") = false := beq_eq_false_iff_ne.mpr fun e => hT (by rw [e]; rfl)
      have hd1 : buf.cps.toList.drop (pos + 1) = r' := by rw [← List.drop_drop, hdrop]; rfl
      have hp1 : pos + 1 ≤ buf.length := by
        have := congrArg List.length hdrop
        simp only [List.length_drop, List.length_cons, Array.length_toList] at this
        simp only [Str.length]; omega
      dsimp only [MS.txt] at N5
      k_steps
      dsimp only [WhileStep2]
      k_steps
      all_goals (refine' hret _ _ _ _ (hbut2 ?G ?F) ?F2 ?N ?P; (case G => assumption); (case F => assumption); (case F2 => assumption); (case N => exact news_tail (by assumption)); (case P => exact ⟨_, _, _, _, _, pos + 1, _, rfl, hd1, hp1, by omega, hT, by omega, by omega, rfl⟩))
    all_goals exact absurd (by assumption) nd
end Mine
end
section
set_option maxRecDepth 100000
set_option maxHeartbeats 8000000
namespace Mine
local macro_rules | `(tactic| walk_at "my_enterTL") => `(tactic| (refine wpAny_call ?_; k_dflt (refine' code_defT ?k1 ?k2 ?k4 ?kX ?kT ?kD ?kA ?kF ?kK ?k6 ?k7 ?k8 ?k9 ?kB ?_ ?c2 ?c3 ?c4 ?c5; (case kA => exact rfl); (case kF => exact rfl); (case kK => assumption); (case k1 => k_asm); (case k2 => k_asm); (case kX => assumption); (case kT => assumption); (case kD => assumption); (case k4 => k_asm); (case k6 => k_is); (case k7 => k_is); (case k8 => exact room_d (by assumption)); (case k9 => first | exact BindsTo.of_eq rfl | exact binds_K (by k_in) rfl (by k_is) rfl rfl rfl); (case c5 => decide); (case kB => exact locs rfl); (case c2 => exact rfl); (case c3 => exact rfl); (case c4 => exact rfl); k_whole; intro g' L' h' FG' F' N' B' X' T' D' GS; refine wp_noexc ?_; (try dsimp only); (try k_fold))))
local macro_rules | `(tactic| k_room) => `(tactic| (simp only [depth_under_make, depth_under_kw, depth_in1, depth_deeper, depth_caller]; omega))
local macro_rules | `(tactic| walk_at "execs cons") => `(tactic| (refine wpAny_execs_cons ?_; (try dsimp only); (try (refine gen_tk (fun tk => ?_)))))
def WhileStepT (A₀ : Around) (base : Heap) (outer : List Env) (h₀ : Heap) (L : Addr) (s : Shared) (J : Nat → (Str → Option Value) → List (Addr × Obj) → Prop) (Q : Flow → Shared → Prop) (n : Nat) (f : Flow) (s₃ : Shared) : Prop :=
  match f with
  | .next | .cont => ∃ g' h' tk m₂ news₂ n', s₃ = { s with heap := h', toks := tk } ∧ KtsTurn (fsO outer) h₀ g' ∧ Below A₀ base outer g' ∧ KtsDicts (fsO outer) g' ∧ Fr g' L h' m₂ ∧ News g' L h' news₂ ∧ n' < n ∧ J n' m₂ news₂
  | .brk => Q .next s₃
  | .ret v => Q (.ret v) s₃
theorem While_T {prog : Program} {w : World} {A A₀ : Around} {base : Heap} {outer : List Env} {E : Value → Shared → Prop} {Q : Flow → Shared → Prop} {s : Shared} {env : Env} {h₀ : Heap} {L : Addr} {test : Expr} {body : List Stmt} {pos : Pos} {m : Str → Option Value} {news : List (Addr × Obj)} (J : Nat → (Str → Option Value) → List (Addr × Obj) → Prop) {n₀ : Nat}
    (B : Below A₀ base outer h₀) (D : KtsDicts (fsO outer) h₀) (F : Fr h₀ L s.heap m) (N : News h₀ L s.heap news) (hJ : J n₀ m news)
    (turn : ∀ n g m₁ news₁ h₁ tk₁, KtsTurn (fsO outer) h₀ g → Below A₀ base outer g → KtsDicts (fsO outer) g → Fr g L h₁ m₁ → News g L h₁ news₁ → J n m₁ news₁ →
      wpAny (model prog w) A (isTrue test env (eval test env)) (fun b s₂ =>
        if b = true then wpAny (model prog w) A (execs body env) (WhileStepT A₀ base outer h₀ L s J Q n) E s₂ else Q .next s₂) E { s with heap := h₁, toks := tk₁ })
    (hE : PassesOwn (model prog w) A env E := by passes_own) :
    wpAny (model prog w) A (exec (.While test body [] pos) env) Q E s := by
  refine wpAny_While (codeAny_whileLoop (fun n s' => ∃ g h₁ tk₁ m₁ news₁, s' = { s with heap := h₁, toks := tk₁ } ∧ KtsTurn (fsO outer) h₀ g ∧ Below A₀ base outer g ∧ KtsDicts (fsO outer) g ∧ Fr g L h₁ m₁ ∧ News g L h₁ news₁ ∧ J n m₁ news₁) ?_ n₀ ⟨h₀, s.heap, s.toks, m, news, rfl, KtsTurn.refl, B, D, F, N, hJ⟩)
  rintro n s' ⟨g, h₁, tk₁, m₁, news₁, rfl, T₁, B₁, D₁, F₁, N₁, J₁⟩
  refine wpAny_mono (turn n g m₁ news₁ h₁ tk₁ T₁ B₁ D₁ F₁ N₁ J₁) (fun b s₂ h₂ => ?_) hE
  cases b with
  | false =>
    simp only [Bool.false_eq_true, if_false] at h₂ ⊢
    exact wpAny_execs_nil h₂
  | true =>
    simp only [if_true] at h₂ ⊢
    refine wpAny_mono h₂ (fun f s₃ h₃ => ?_) hE
    cases f with
    | next =>
      obtain ⟨g', h', tk, m₂, news₂, n', rfl, T₂, B₂, D₂, F₂, N₂, hn, J₂⟩ := h₃
      exact ⟨n', hn, g', h', tk, m₂, news₂, rfl, T₂, B₂, D₂, F₂, N₂, J₂⟩
    | cont =>
      obtain ⟨g', h', tk, m₂, news₂, n', rfl, T₂, B₂, D₂, F₂, N₂, hn, J₂⟩ := h₃
      exact ⟨n', hn, g', h', tk, m₂, news₂, rfl, T₂, B₂, D₂, F₂, N₂, J₂⟩
    | brk => exact h₃
    | ret v => exact h₃
abbrev tupO (vs : Array Value) : Obj := { cls := .type "tuple", data := .seq vs }
/-- what unorderable_list_difference does; the first list reversed -/
def uldR : List Str → List Str → List Str × List Str
  | [], A => ([], A)
  | x :: E, A => if x ∈ A then uldR E (A.erase x) else (x :: (uldR E A).1, (uldR E A).2)
abbrev uldMap (Ea Aa M : Addr) (it : Option Value) : Str → Option Value := fun y => if y = t "item" then it else if y = t "missing" then some (.ref M) else if y = t "actual" then some (.ref Aa) else if y = t "expected" then some (.ref Ea) else none
def UldJ (Ea Aa M : Addr) (MM RR : List Str) (n : Nat) (m : Str → Option Value) (news : List (Addr × Obj)) : Prop :=
  ∃ (es as ms : List (Str × Tok)) (n1 n2 n3 : Nat) (it : Option Value), n = es.length ∧ ms.map (·.1) ++ (uldR (es.map (·.1)).reverse (as.map (·.1))).1 = MM ∧ (uldR (es.map (·.1)).reverse (as.map (·.1))).2 = RR ∧ es.length + as.length + ms.length ≤ 900 ∧
    m = uldMap Ea Aa M it ∧ news = [(M, listOf (sv ms).toArray n3), (Ea, listOf (sv es).toArray n1), (Aa, listOf (sv as).toArray n2)]
theorem lookup_two (y x x' : Str) (v v' : Value) : List.lookup y [(x, v), (x', v')] = if y = x then some v else if y = x' then some v' else none := by
  by_cases h : y = x
  · subst h; simp [List.lookup]
  · rw [if_neg h]
    show (match y == x with | true => some v | false => List.lookup y [(x', v')]) = _
    rw [beq_eq_false_iff_ne.mpr h]
    exact lookup_one _ _ _
theorem uld_start {Ea Aa M L : Addr} {g h : Heap} {f : Str → Option Value} (F : Fr g L h (fun y => if y = Str.ofString "missing" then some (.ref M) else f y)) (hf : ∀ y, f y = List.lookup y [(t "actual", .ref Aa), (t "expected", .ref Ea)]) : Fr g L h (uldMap Ea Aa M none) := fr_congr F fun y => by
  dsimp only [uldMap]
  by_cases h1 : y = t "item"
  · subst h1
    rw [hf]; rfl
  · by_cases h2 : y = t "missing"
    · subst h2; rfl
    · rw [if_neg h1, if_neg h2, if_neg (show ¬ y = Str.ofString "missing" from h2), hf]
      exact lookup_two _ _ _ _ _
theorem uld_pack {Ea Aa M : Nat} {L : Addr} {g h : Heap} {f : Str → Option Value} {oE oA : Obj} (F : Fr g L h (fun y => if y = Str.ofString "missing" then some (.ref M) else f y)) (hf : ∀ y, f y = List.lookup y [(t "actual", .ref Aa), (t "expected", .ref Ea)])
    (N : News g L h [(M, listOf #[] 0), (Ea, oE), (Aa, oA)]) (l : Ea < M ∧ Aa < M) : ∃ M5 : Nat, Fr g L h (uldMap Ea Aa M5 none) ∧ News g L h [(M5, listOf (sv []).toArray 0), (Ea, oE), (Aa, oA)] ∧ Ea < M5 ∧ Aa < M5 := ⟨M, uld_start F hf, N, l⟩
theorem lst_truthy {prog : Program} {w : World} {A : Around} {E : Value → Shared → Prop} {s : Shared} {h₀ : Heap} {L D : Addr} {news : List (Addr × Obj)} {es : List (Str × Tok)} {n : Nat} {b : Bool} {Q : Bool → Shared → Prop} (N : News h₀ L s.heap news) (hm : (D, listOf (sv es).toArray n) ∈ news) (hz : es.length ≤ 1000) (hb : decide (0 < es.length) = b) (h : ∀ tk, Q b { s with toks := tk }) :
    wpAny (model prog w) A (truthy (.ref D)) Q E s := by
  refine wpAny_truthy_list (items := (sv es).toArray) (PySem.IsL.isList (n := n) (N _ hm).1) (by rw [List.size_toArray, sv_length]; omega) ?_
  have e : (!(sv es).toArray.isEmpty) = b := by
    rw [← hb]
    cases es with
    | nil => rfl
    | cons p es => simp [sv]
  rw [e]; exact h _
local macro_rules | `(tactic| walk_at "truthy ref") => `(tactic| (k_here; k_dflt (first | (refine' lst_truthy (b := true) ?kb ?kc ?kz ?kt ?_; (case kb => k_asm); (case kc => k_mem); (case kz => (simp only [List.length_append, List.length_singleton]; omega)); (case kt => exact decide_eq_true (by simp)); intro _) | (refine' lst_truthy (es := []) (b := false) ?kb ?kc ?kz ?kt ?_; (case kb => k_asm); (case kc => k_mem); (case kz => decide); (case kt => exact rfl); intro _))))
local macro_rules | `(tactic| walk_at "call builtin:list.pop") => `(tactic| (k_here; k_dflt (refine' str_pop ?F ?N ?U ?z ?_; (case F => k_asm); (case N => k_asm); (case U => k_updF); (case z => omega); intro h' F' N'; (try dsimp only at N'); (try k_sweep))))
local macro_rules | `(tactic| walk_at "call builtin:list.remove") => `(tactic| (k_here; k_dflt (first | (refine' str_remove ?F ?N ?U ?z ?x ?_; (case F => k_asm); (case N => k_asm); (case x => assumption); (case U => k_updF); (case z => omega); intro h' es' e1' e2' F' N'; (try k_sweep)) | (refine' str_remove_no ?N ?m ?x ?hA ?_; (case N => k_asm); (case m => k_mem); (case x => assumption); (case hA => exact rfl); intro h' tk' e' X'))))
local macro_rules | `(tactic| walk_at "noteFrame ref") => `(tactic| (k_here; k_dflt (refine' caught_newT (T' := "ValueError") ?X ?F ?K ?N ?XB ?TB ?D ?ex PyProof.Rows.Boot.«ValueError» ?hn PySem.F.isExc_ValueError PySem.F.notTuple_ValueError ?hs ?_; (case X => assumption); (case F => assumption); (case K => assumption); (case N => k_asm); (case XB => assumption); (case TB => assumption); (case D => assumption); (case hs => kts_sub); (case ex => k_is); (case hn => decide); k_whole; intro h' g' T' F' N' K' X' P' D'; (try k_sweep))))
local macro_rules | `(tactic| walk_at "call builtin:list.append") => `(tactic| (k_here; k_dflt (refine' append_K ?k1 ?k2 ?k3 ?_ ?z; (case k1 => k_asm); (case k2 => k_asm); (case k3 => k_upd); (case z => (rw [List.size_toArray, sv_length, sizeLine_eq]; omega)); intro h' F' N'; (try k_sweep))))
theorem sv_push (es : List (Str × Tok)) (p : Str × Tok) : (sv es).toArray.push (.str p.1 p.2) = (sv (es ++ [p])).toArray := by rw [List.push_toArray, sv_append]; rfl
theorem uld_map {Ea Aa M : Addr} {it v : Option Value} (y : Str) : (if y = Str.ofString "item" then v else uldMap Ea Aa M it y) = uldMap Ea Aa M v y := by
  dsimp only [uldMap]
  by_cases h : y = t "item"
  · rw [if_pos h, if_pos (show y = Str.ofString "item" from h)]
  · rw [if_neg h, if_neg (show ¬ y = Str.ofString "item" from h), if_neg h]
theorem c_uld (w : World) (Ea Aa : Nat) (hEA : Ea < Aa) (es as : List (Str × Tok)) (n1 n2 : Nat) (hz : es.length + as.length ≤ 900) :
    ConT w 4 46 [.ref Ea, .ref Aa] [(Ea, listOf (sv es).toArray n1), (Aa, listOf (sv as).toArray n2)] (fun _ _ v news => ∃ T M ms rs c3 c2 c1, v = .ref T ∧ ms.map (·.1) = (uldR (es.map (·.1)).reverse (as.map (·.1))).1 ∧ rs.map (·.1) = (uldR (es.map (·.1)).reverse (as.map (·.1))).2 ∧
      news = [(T, tupO #[.ref M, .ref Aa]), (M, listOf (sv ms).toArray c3), (Ea, listOf #[] c1), (Aa, listOf (sv rs).toArray c2)]) := by
  dsimp only [ConT]
  k_fill
  intro mean mg mb dp un gd cn cs a ccd cl outer A₀ base h₀ L m s Q E B F XB TB D hk hdp hun N hret
  have X0 := XB.keeps B.stays
  have T0 := TB.keeps B.stays
  walk_at "my_enterTL"
  repeat' ((fail_if_success (with_reducible show wpAny _ _ (exec (Stmt.While _ _ _ _) _) _ _ _)); (first | (k_unfold; (try dsimp only)) | (k_end; wrow_close) | walk1 | (dsimp only; walk1) | (leave1; walk_say "STEP leave1"; try dsimp only) | fail "no step"))
  rename Fr _ _ _ _ => F5
  rename News _ _ _ _ => N5
  obtain ⟨M5, F6, N6, hM1, hM2⟩ := uld_pack (Ea := Ea) (Aa := Aa) F5 (fun y => rfl) N5 (by assumption)
  clear F5 N5
  refine While_T (UldJ Ea Aa M5 (uldR (es.map (·.1)).reverse (as.map (·.1))).1 (uldR (es.map (·.1)).reverse (as.map (·.1))).2) (n₀ := es.length) (by assumption) (by assumption) F6 N6 ?J ?turn PassesOwn.never
  case J => exact ⟨es, as, [], n1, n2, 0, none, rfl, rfl, rfl, by simpa using hz, rfl, rfl⟩
  clear F6 N6
  rintro n g m₁ news₁ h₁ tk₁ T₁ B₁ D₁ F₁ N₁ ⟨es, as, ms, n1, n2, n3, it, hn, hM, hR, hz, rfl, rfl⟩
  have X₁ := XB.keeps B₁.stays
  have P₁ := TB.keeps B₁.stays
  rcases List.eq_nil_or_concat es with rfl | ⟨es, p, rfl⟩
  · k_steps
    refine' leaveT_ (L' := ?L9) ?T ?F ?N ?_
    case T => assumption
    case F => assumption
    case N => assumption
    intro h₀'' T'' F'' N'' B'' D'' H''
    dsimp only at F'' N'' H'' ⊢
    refine hret _ _ _ _ _ T'' F'' B'' D'' (hbutT (fs := []) rfl (by assumption) H'') N'' ?_
    simp only [sv, List.map_nil, List.reverse_nil, uldR, List.append_nil] at hM hR
    exact ⟨_, M5, ms, as, _, _, _, rfl, hM, hR, rfl⟩
  · simp only [List.concat_eq_append] at hz hn hM hR N₁
    simp only [List.length_append, List.length_singleton] at hz hn
    have hrev : (List.map (·.1) (es ++ [p])).reverse = p.1 :: (es.map (·.1)).reverse := by simp
    rw [hrev] at hM hR
    by_cases hx : p.1 ∈ as.map (·.1)
    · simp only [uldR, if_pos hx] at hM hR
      k_steps
      rename (List.map _ _ = List.erase _ _) => e1
      rename Fr _ _ _ _ => F6
      rename News _ _ _ _ => N6
      rename List.length _ ≤ List.length _ => e2
      refine ⟨_, _, _, _, _, es.length, rfl, T₁, B₁, D₁, F6, N6, by omega, es, _, ms, _, _, _, _, rfl, ?_, ?_, ?_, funext (fun y => uld_map y), rfl⟩
      · rw [e1]; exact hM
      · rw [e1]; exact hR
      · omega
    · simp only [uldR, if_neg hx] at hM hR
      k_steps
      rename Fr _ _ _ _ => F6
      rename News _ _ _ _ => N6
      rename KtsTurn _ _ _ => T6
      rename Below _ _ _ _ => B6
      rename KtsDicts _ _ => D6
      rw [sv_push] at N6
      refine ⟨_, _, _, _, _, es.length, rfl, T₁.trans T6, B6, D6, F6, N6, by omega, es, as, ms ++ [p], _, _, _, _, rfl, ?_, hR, ?_, funext (fun y => uld_map y), rfl⟩
      · rw [List.map_append, List.append_assoc]; exact hM
      · rw [List.length_append, List.length_singleton]; omega
end Mine
end
section
namespace Mine
section
variable {M : Model} {A : Around} {E : Value → Shared → Prop} {env : Env} {h : Heap} {g : Array GenState} {d : Drawn} {n : Nat} {o : OsState} {k : Nat} {pos : Pos} {Q : Value → Shared → Prop}
theorem lc_int {i : Int} (H : ∀ t tk, Q (.int i t) ⟨h, g, d, tk, o⟩) : wpAny M A (eval (.Constant (.int i) k pos) env) Q E ⟨h, g, d, n, o⟩ := wpAny_Constant_int (H _ _)
theorem lc_str {x : Str} (H : ∀ t tk, Q (.str x t) ⟨h, g, d, tk, o⟩) : wpAny M A (eval (.Constant (.str x) k pos) env) Q E ⟨h, g, d, n, o⟩ := wpAny_Constant_str (H _ _)
end
def primeD : List (PyData × PyData) := [(.str (t "2"), .int 2), (.str (t "3"), .int 3), (.str (t "5"), .int 5), (.str (t "7"), .int 7), (.str (t "11"), .int 11), (.str (t "13"), .int 13)]
def valOf (x : Str) : Int := if t "2" = x then 2 else if t "3" = x then 3 else if t "5" = x then 5 else if t "7" = x then 7 else if t "11" = x then 11 else if t "13" = x then 13 else 0
theorem val_look (x : Str) : (PySem.Spec.lookup (.str x) primeD).getD (.int 0) = .int (valOf x) := by
  have e : ∀ a : Str, (PySem.Spec.same (.str a) (.str x)) = decide (a = x) := fun a => by
    show (a == x) = decide (a = x)
    by_cases h : a = x
    · subst h; simp
    · rw [decide_eq_false h]; exact beq_eq_false_iff_ne.mpr h
  simp only [primeD, PySem.Spec.lookup, e, valOf, decide_eq_true_eq]
  repeat (first | rfl | split)
theorem val_bits (x : Str) : 0 ≤ valOf x ∧ valOf x ≤ 13 := by
  unfold valOf
  repeat (first | decide | split)
def prodV (ys : List Str) : Int := ys.foldl (fun a y => a * valOf y) 1
end Mine
end
section
namespace Mine
/-- the objects of an Entry that holds the texts es -/
abbrev entL (P : Params) (k : Nat → Tok) (r d ua rl : Addr) (es : List (Str × Tok)) (c cu cd : Nat) : List (Addr × Obj) :=
  [(rl, listOf (sv es).toArray c), (ua, listOf #[] cu), (r, instObj 779 d), (d, dictOf [e P "useragents" (k 0) (.ref ua), e P "rulelines" (k 1) (.ref rl), e P "delay" (k 2) .none, e P "req_rate" (k 3) .none] cd)]
/-- an Entry r in the heap h, its rules es -/
def Ent (P : Params) (h : Heap) (r : Addr) (es : List (Str × Tok)) : Prop :=
  ∃ (k : Nat → Tok) (d ua rl : Addr) (c cu cd : Nat), ∀ p ∈ entL P k r d ua rl es c cu cd, h.get? p.1 = some p.2
theorem Ent.keeps {P : Params} {h h' : Heap} {r : Addr} {es : List (Str × Tok)} (x : Ent P h r es) (k : HExt h h') : Ent P h' r es := by
  obtain ⟨a, b, c, d, e, f, g, h1⟩ := x
  exact ⟨a, b, c, d, e, f, g, fun p hp => k _ _ (h1 p hp)⟩
/-- the same, new since h -/
def EntF (P : Params) (h h' : Heap) (r : Addr) (es : List (Str × Tok)) : Prop :=
  ∃ (k : Nat → Tok) (d ua rl : Addr) (c cu cd : Nat), ∀ p ∈ entL P k r d ua rl es c cu cd, h'.get? p.1 = some p.2 ∧ h.get? p.1 = none
def EntN (P : Params) (h₀ : Heap) (L : Addr) (h : Heap) (r : Addr) (es : List (Str × Tok)) : Prop :=
  ∃ (k : Nat → Tok) (d ua rl : Addr) (c cu cd : Nat), News h₀ L h (entL P k r d ua rl es c cu cd)
theorem EntN.ent {P : Params} {h₀ h : Heap} {L r : Addr} {es : List (Str × Tok)} (x : EntN P h₀ L h r es) : Ent P h r es := by
  obtain ⟨a, b, c, d, e, f, g, N⟩ := x
  exact ⟨a, b, c, d, e, f, g, fun p hp => (N p hp).1⟩
theorem EntF.news {P : Params} {h₀ h h' : Heap} {L r : Addr} {m : Str → Option Value} {es : List (Str × Tok)} (F : Fr h₀ L h m) (x : EntF P h h' r es) : EntN P h₀ L h' r es := by
  obtain ⟨a, b, c, d, e, f, g, N⟩ := x
  refine ⟨a, b, c, d, e, f, g, fun p hp => ⟨(N p hp).1, fun q => ?_, ?_⟩⟩
  · obtain ⟨o, _, _, ho, _⟩ := F.ns
    have := (N p hp).2
    rw [q, ho] at this; cases this
  · cases q : h₀.get? p.1 with
    | none => rfl
    | some o => have := (N p hp).2; rw [F.keep _ _ q] at this; cases this
theorem EntN.grown {P : Params} {h₀ h h' : Heap} {L r : Addr} {es : List (Str × Tok)} (x : EntN P h₀ L h r es) (k : HExt h h') : EntN P h₀ L h' r es := by
  obtain ⟨a, b, c, d, e, f, g, N⟩ := x
  exact ⟨a, b, c, d, e, f, g, N.grown k⟩
theorem EntN.turn {P : Params} {A₀ : Around} {base h₀ h₀' h h' : Heap} {outer : List Env} {L r : Addr} {es : List (Str × Tok)} (B : Below A₀ base outer h₀) (x : EntN P h₀ L h r es) (T : KtsTurn (fsO outer) h₀ h₀') (H : HBut ([] ++ L :: fsO outer) h h') : EntN P h₀' L h' r es := by
  obtain ⟨a, b, c, d, e, f, g, N⟩ := x
  exact ⟨a, b, c, d, e, f, g, news_turn B N T H (fun _ _ z => nomatch z)⟩
theorem fresh_of {h g h' : Heap} {L : Addr} {nw : List (Addr × Obj)} (G : HExt h g) (N : News g L h' nw) : ∀ p ∈ nw, h'.get? p.1 = some p.2 ∧ h.get? p.1 = none := fun p hp => ⟨(N p hp).1, by
  cases q : h.get? p.1 with
  | none => rfl
  | some o => have := (N p hp).2.2; rw [G _ _ q] at this; cases this⟩
theorem inst_ground {g h : Heap} {L x C dx : Addr} {m : Str → Option Value} {od : Obj} {sl : Array (Option Value)} (F : Fr g L h m) (h1 : g.get? x = some ⟨.ref C, some dx, .plain, sl⟩) (h2 : g.get? dx = some od) :
    InstAt h x ⟨.ref C, some dx, .plain, sl⟩ C (some od) := ⟨F.keep _ _ h1, rfl, rfl, F.keep _ _ h2⟩
theorem add_texts {prog : Program} {w : World} {A : Around} {E : Value → Shared → Prop} {s : Shared} {h₀ : Heap} {L : Addr} {m : Str → Option Value} {news : List (Addr × Obj)} {l b : Addr} {es fs : List (Str × Tok)} {n k : Nat} {Q : Value → Shared → Prop} (F : Fr h₀ L s.heap m) (N : News h₀ L s.heap news)
    (hl : s.heap.get? l = some (listOf (sv es).toArray n)) (hb : s.heap.get? b = some (listOf (sv fs).toArray k)) (hz : es.length + fs.length ≤ 1000)
    (h : ∀ (D : Nat) h', Fr h₀ L h' m → News h₀ L h' ((D, listOf (sv (es ++ fs)).toArray 0) :: news) → (∀ p ∈ news, p.1 < D) → Q (.ref D) { s with heap := h' }) :
    wpAny (model prog w) A (binaryOp .Add (.ref l) (.ref b)) Q E s := by
  refine add_arrays F N (PySem.IsL.isList (n := n) hl) (PySem.IsL.isList (n := k) hb) (fun h' F' N' => ?_) (by rw [List.size_toArray, List.size_toArray, sv_length, sv_length, sizeLine_eq]; omega)
  rw [← sv_append] at N'
  exact h _ h' F' N' fun p hp => Heap.lt_size (N p hp).1
/-- a call that leaves all as it was; news stands in the ledger -/
abbrev ConF (w : World) (d : Nat) (f : Addr) (vs : List Value) (news : List (Addr × Obj)) (Post : Heap → Heap → Value → Prop) : Prop :=
  ∀ (mean : ExcName → Option Value) (mg mb : Str → Option Value) (dp un : Nat) (gd : Option (List Code)) (cn : Str) (cs : Scope) (a : Addr) (ccd : Value) (cl : List (Str × Addr)) (outer : List Env) (A₀ : Around) (base h₀ : Heap) (L : Addr) (m : Str → Option Value) (s : Shared) (Q E : Value → Shared → Prop),
    Below A₀ base outer h₀ → Fr h₀ L s.heap m → (K w.params).In h₀ → Top qv lo mean mg mb h₀ → cs.kind = .function → dp + d < recursionLimit → un + 20 * d < cLine → News h₀ L s.heap news →
    (∀ (v : Value) (h' : Heap) (tk' : Nat), HExt s.heap h' → Post s.heap h' v → Q v { s with heap := h', toks := tk' }) →
      wpAny (model PySem.Challenge.rw_ny0363_01.row.prog w) (ktrTop dp un gd cn cs L a ccd cl outer) (call (.ref f) vs) Q E s
theorem conF_use {w : World} {d : Nat} {f : Addr} {vs : List Value} {news : List (Addr × Obj)} {Post : Heap → Heap → Value → Prop} (C : ConF w d f vs news Post)
    {mean : ExcName → Option Value} {mg mb : Str → Option Value} {dp un : Nat} {gd : Option (List Code)} {cn : Str} {cs : Scope} {a : Addr} {ccd : Value} {cl : List (Str × Addr)} {outer : List Env} {A₀ : Around} {base h₀ : Heap} {L : Addr} {m : Str → Option Value} {s : Shared} {Q E : Value → Shared → Prop}
    (B : Below A₀ base outer h₀) (F : Fr h₀ L s.heap m) (X : (K w.params).In h₀) (T : Top qv lo mean mg mb h₀) (hk : cs.kind = .function) (hd : dp + d < recursionLimit) (hu : un + 20 * d < cLine) (N : News h₀ L s.heap news)
    (k : ∀ (v : Value) (h' : Heap) (tk' : Nat), HExt s.heap h' → Post s.heap h' v → Q v { s with heap := h', toks := tk' }) :
    wpAny (model PySem.Challenge.rw_ny0363_01.row.prog w) (ktrTop dp un gd cn cs L a ccd cl outer) (call (.ref f) vs) Q E s := C mean mg mb dp un gd cn cs a ccd cl outer A₀ base h₀ L m s Q E B F X T hk hd hu N k
/-- back from a call whose one ledger object S stands as it was -/
theorem ext_one {s g h' h₀ : Heap} {L L₀ S : Addr} {o : Obj} {m : Str → Option Value} {nw : List (Addr × Obj)} (N0 : News h₀ L₀ s [(S, o)]) (G : GSub s g ([(S, o)].map (·.1))) (F : Fr g L h' m) (N : News g L h' nw) (hm : (S, o) ∈ nw) : HExt s h' := fun b ob e => by
  by_cases q : b = S
  · subst q
    have e1 := (N0 _ (.head _)).1
    have e2 := (N _ hm).1
    rw [e] at e1
    rw [e2, ← e1]
  · exact F.keep b ob (G b ob e (by simpa using q))
theorem fresh_one {s g h' : Heap} {L S : Addr} {o : Obj} {nw : List (Addr × Obj)} (G : GSub s g ([(S, o)].map (·.1))) (N : News g L h' nw) : ∀ p ∈ nw, p.1 ≠ S → h'.get? p.1 = some p.2 ∧ s.get? p.1 = none := fun p hp n => ⟨(N p hp).1, by
  cases q : s.get? p.1 with
  | none => rfl
  | some ob => have := (N p hp).2.2; rw [G _ _ q (by simpa using n)] at this; cases this⟩
end Mine
end
section
set_option maxRecDepth 100000
namespace Mine
/-- objects that stand in h, off the frames fs -/
def At (fs : List Addr) (h : Heap) (objs : List (Addr × Obj)) : Prop := ∀ p ∈ objs, h.get? p.1 = some p.2 ∧ p.1 ∉ fs
section
variable {fs : List Addr} {h h' g g' h₀ : Heap} {objs objs' : List (Addr × Obj)} {L : Addr} {A₀ : Around} {base : Heap} {outer : List Env} {m : Str → Option Value}
theorem At.but (x : At fs h objs) (k : HBut fs h h') : At fs h' objs := fun p hp => ⟨k _ _ (x p hp).1 (x p hp).2, (x p hp).2⟩
theorem At.ext (x : At fs h objs) (k : HExt h h') : At fs h' objs := fun p hp => ⟨k _ _ (x p hp).1, (x p hp).2⟩
theorem At.turn (x : At fs g objs) (k : KtsTurn fs g g') : At fs g' objs := fun p hp => ⟨k.other _ _ (x p hp).1 (x p hp).2, (x p hp).2⟩
theorem At.of_news (B : Below A₀ base outer h₀) (N : News h₀ L h objs) : At (L :: fsO outer) h objs := fun p hp => ⟨(N p hp).1, fun z => by
  rcases List.mem_cons.mp z with z | z
  · exact (N p hp).2.1 z
  · obtain ⟨_, o, ho, _⟩ := B.frames.mem z
    rw [(N p hp).2.2] at ho; cases ho⟩
theorem At.sub (x : At fs h objs) (k : ∀ p ∈ objs', p ∈ objs) : At fs h objs' := fun p hp => x p (k p hp)
/-- seen from a callee's frame -/
theorem At.inner (x : At fs g objs) (F : Fr g L h m) : At (L :: fs) h objs := fun p hp => ⟨F.keep _ _ (x p hp).1, fun z => by
  rcases List.mem_cons.mp z with z | z
  · have := Heap.lt_size (x p hp).1
    exact absurd (Nat.lt_of_lt_of_le this F.above) (by rw [z]; exact Nat.lt_irrefl _)
  · exact (x p hp).2 z⟩
theorem fs_cons {env : Env} {L : Addr} {outer : List Env} (hf : env.frame = some L) : fsO (env :: outer) = L :: fsO outer := by
  show List.filterMap _ _ = _
  rw [List.filterMap_cons, hf]
theorem At.enter {env : Env} (hf : env.frame = some L) (x : At (L :: fsO outer) h objs) (G : GSub h g (([] : List (Addr × Obj)).map (·.1))) : At (fsO (env :: outer)) g objs := by
  rw [fs_cons hf]; exact x.ext (gsub_all G)
end
def EntO (P : Params) (fs : List Addr) (h : Heap) (r : Addr) (es : List (Str × Tok)) : Prop :=
  ∃ (k : Nat → Tok) (d ua rl : Addr) (c cu cd : Nat), At fs h (entL P k r d ua rl es c cu cd)
theorem EntO.ent {P : Params} {fs : List Addr} {h : Heap} {r : Addr} {es : List (Str × Tok)} (x : EntO P fs h r es) : Ent P h r es := by
  obtain ⟨a, b, c, d, e, f, g, N⟩ := x
  exact ⟨a, b, c, d, e, f, g, fun p hp => (N p hp).1⟩
end Mine
end
section
open PySem.Spec PySem.Calls
set_option maxRecDepth 100000
namespace Mine
theorem lst_snoc (ys : List Value) (y : Value) : ({ cls := .type "list", data := .seq (ys.toArray.push y) (ys.length + 1) } : Obj) = LCg.lst (ys ++ [y]) := LCg.lst_snoc ys y
section
variable {b h h' g : Heap} {L : Addr} {m : Str → Option Value} {objs objs' : List (Addr × Obj)} {fs gs : List Addr}
theorem fr_but {own : List Addr} (F : Fr b L h m) (k : HBut own h h') (hL : L ∉ own) (hb : ∀ a ∈ own, b.get? a = none) : Fr b L h' m :=
  ⟨F.ns.at' fun o e => k L o e hL, fun x o e => k x o (F.keep x o e) fun z => (by rw [hb x z] at e; cases e), F.above⟩
theorem At.append (x : At fs h objs) (y : At fs h objs') : At fs h (objs ++ objs') := fun p hp => by
  rcases List.mem_append.mp hp with z | z
  · exact x p z
  · exact y p z
theorem At.less (x : At fs h objs) (k : ∀ a ∈ gs, a ∈ fs) : At gs h objs := fun p hp => ⟨(x p hp).1, fun z => (x p hp).2 (k _ z)⟩
theorem At.get (x : At fs h objs) {a : Addr} {o : Obj} (hm : (a, o) ∈ objs) : h.get? a = some o := (x _ hm).1
theorem hbut_trans {h1 h2 h3 : Heap} (x : HBut fs h1 h2) (y : HBut fs h2 h3) : HBut fs h1 h3 := fun a o e n => y a o (x a o e n) n
theorem hbut_more {h1 h2 : Heap} (x : HBut gs h1 h2) (k : ∀ a ∈ gs, a ∈ fs) : HBut fs h1 h2 := fun a o e n => x a o e fun z => n (k a z)
theorem hext_but {h1 h2 : Heap} (x : HExt h1 h2) : HBut fs h1 h2 := fun a o e _ => x a o e
/-- an address that was taken stays taken -/
theorem dom_keep (F : Fr b L h' m) (k : HBut [L] h h') {a : Addr} (e : h'.get? a = none) : h.get? a = none := by
  cases q : h.get? a with
  | none => rfl
  | some o =>
    by_cases z : a = L
    · obtain ⟨oL, _, _, ho, _⟩ := F.ns
      rw [z, ho] at e; cases e
    · rw [k a o q (by simpa using z)] at e; cases e
theorem ne_of_get {a c : Addr} {o : Obj} (e : h.get? a = some o) (f : h.get? c = none) : a ≠ c := fun z => by rw [z, f] at e; cases e
end
/-- what a turn of a comprehension leaves -/
def Nx (b : Heap) (L : Addr) (m : Str → Option Value) (s₀ : Shared) (J : Nat → List Value → List (Addr × Obj) → Prop) (h : Heap) (i : Nat) (ys : List Value) (nw : List (Addr × Obj)) (s' : Shared) : Prop :=
  ∃ h' tk' nw', s' = { s₀ with heap := h', toks := tk' } ∧ Fr b L h' m ∧ HBut [L] h h' ∧ (∀ p ∈ nw', h'.get? p.1 = some p.2 ∧ h.get? p.1 = none) ∧ J (i + 1) ys (nw' ++ nw)
section
variable {prog : Program} {w : World} {A : Around} {b : Heap} {L : Addr} {m : Str → Option Value} {R : Result → Shared → Prop}
theorem comp_loop {s₀ : Shared} {h00 : Heap} {elt iter : Expr} {ifs : List Expr} {x : Str} {px pos : Pos} {scope : Scope} {cenv : Env} {I D : Addr} {own fp : List Addr} {n : Nat} {P : Nat → Value → Prop} {St : Nat → Heap → Prop} {PV : Option Value → Heap → Prop}
    {J : Nat → List Value → List (Addr × Obj) → Prop} {cx : List (Addr × Obj)}
    (W : Walks prog w A I fp [I] n P St) (hsz : n ≤ sizeLine) (hD : D ∉ fp) (hown : ∀ a ∈ own, a ∉ fp) (hLf : L ∉ fp) (hID : I ≠ D) (hIo : I ∉ own) (hDo : D ∉ own) (hLI : L ≠ I) (hLD : L ≠ D) (hLo : L ∉ own)
    (hb : ∀ a ∈ I :: D :: own, b.get? a = none) (h0 : ∀ a ∈ I :: D :: own, h00.get? a = none)
    (hSI : ∀ i h, St i h → ∃ o, h.get? I = some o)
    (hPV : ∀ v h h', PV v h → (∀ a ∈ own, ∀ o, h.get? a = some o → h'.get? a = some o) → PV v h') (hdom : ∀ v h, PV v h → ∀ a ∈ own, ∃ o, h.get? a = some o)
    (hasg : ∀ v0 v h tk (Q : Unit → Shared → Prop) (E : Value → Shared → Prop), PV v0 h → (∀ h' tk', PV (some v) h' → HBut own h h' → Q () { s₀ with heap := h', toks := tk' }) → wpAny (model prog w) A (assign (.Name x px) cenv v) Q E { s₀ with heap := h, toks := tk })
    (turn : ∀ i v ys nw h tk (E : Value → Shared → Prop), i < n → P i v → J i ys nw → Fr b L h m → PV (some v) h → At (I :: D :: own ++ [L]) h (nw ++ cx) → HBut [L] h00 h →
      wpAny (model prog w) A (forIn ifs true fun c r => if r = true then do let ok ← isTrue c cenv (eval c cenv); pure (ForInStep.yield ok) else pure (ForInStep.yield r)) (fun ok s₃ =>
        if ok = true then wpAny (model prog w) A (eval elt cenv) (fun y s₄ => Nx b L m s₀ J h i (ys ++ [y]) nw s₄) E s₃ else Nx b L m s₀ J h i ys nw s₃) E { s₀ with heap := h, toks := tk })
    {h : Heap} {tk : Nat} {v0 : Option Value} (st : St 0 h) (F : Fr b L h m) (pv : PV v0 h) (hd : h.get? D = some (LCg.lst [])) (at0 : At (I :: D :: own ++ [L]) h cx) (k0 : HBut [L] h00 h) (hJ : J 0 [] [])
    (hR : ∀ h tk ys nw v0, Fr b L h m → PV v0 h → h.get? D = some (LCg.lst ys) → At (I :: D :: own ++ [L]) h (nw ++ cx) → HBut [L] h00 h → (∀ p ∈ nw, h00.get? p.1 = none) → J n ys nw → R (.ok .next) { s₀ with heap := h, toks := tk }) :
    codeAny (model prog w) A (.compLoop (.ListComp elt [⟨.Name x px, iter, ifs, 0⟩] scope pos) 0 (.ref I) (.ref D) cenv) R { s₀ with heap := h, toks := tk } := by
  have hIf : I ∈ fp := W.sub I (List.mem_singleton.mpr rfl)
  have bI := hb I (.head _)
  have bD := hb D (.tail _ (.head _))
  have bO : ∀ a ∈ own, b.get? a = none := fun a ha => hb a (.tail _ (.tail _ ha))
  have zI := h0 I (.head _)
  have zD := h0 D (.tail _ (.head _))
  have zO : ∀ a ∈ own, h00.get? a = none := fun a ha => h0 a (.tail _ (.tail _ ha))
  refine codeAny_compLoop_tests
    (fun k s' => ∃ h tk i ys nw v0, s' = { s₀ with heap := h, toks := tk } ∧ i ≤ n ∧ k = n + 1 - i ∧ ys.length ≤ i ∧ St i h ∧ Fr b L h m ∧ PV v0 h ∧ h.get? D = some (LCg.lst ys) ∧ At (I :: D :: own ++ [L]) h (nw ++ cx) ∧ HBut [L] h00 h ∧ (∀ p ∈ nw, h00.get? p.1 = none) ∧ J i ys nw) ?_ (n + 1)
    ⟨h, tk, 0, [], [], v0, rfl, Nat.zero_le _, rfl, Nat.le_refl _, st, F, pv, hd, at0, k0, fun _ z => (nomatch z), hJ⟩
  rintro k s' ⟨h, tk, i, ys, nw, v0, rfl, hi, rfl, hyl, st, F, pv, hd, at1, k1, fr1, hJ⟩
  have afterI : ∀ h₂ : Heap, (∀ a o, a ∉ [I] → h.get? a = some o → h₂.get? a = some o) → Fr b L h₂ m ∧ PV v0 h₂ ∧ h₂.get? D = some (LCg.lst ys) ∧ At (I :: D :: own ++ [L]) h₂ (nw ++ cx) ∧ HBut [L] h00 h₂ := fun h₂ hk => by
    have kk : HBut [I] h h₂ := fun a o e n => hk a o n e
    refine ⟨fr_but F kk (by simpa using hLI) (by simpa using bI), hPV _ _ _ pv fun a ha o e => kk a o e (fun z => hIo (List.mem_singleton.mp z ▸ ha)), kk D _ hd (by simpa using Ne.symm hID), ?_, fun a o e n => ?_⟩
    · exact at1.but (hbut_more kk fun a ha => by rw [List.mem_singleton.mp ha]; exact .head _)
    · exact kk a o (k1 a o e n) (fun z => by rw [List.mem_singleton.mp z, zI] at e; cases e)
  by_cases hlt : i < n
  · refine W.item i _ _ _ hlt st fun v h₂ tk₂ hP st₂ hk₂ => ?_
    obtain ⟨F₂, pv₂, hd₂, at₂, k₂⟩ := afterI h₂ hk₂
    refine hasg _ v h₂ tk₂ _ _ pv₂ fun h₃ tk₃ pv₃ hk₃ => ?_
    have F₃ := fr_but F₂ hk₃ hLo bO
    have st₃ : St (i + 1) h₃ := W.frame _ _ _ st₂ fun a ha o e => hk₃ a o e fun z => hown a z ha
    have hd₃ := hk₃ D _ hd₂ hDo
    have at₃ := at₂.but (hbut_more hk₃ fun a ha => List.mem_append_left _ (.tail _ (.tail _ ha)))
    have k₃ : HBut [L] h00 h₃ := fun a o e n => hk₃ a o (k₂ a o e n) fun z => by rw [zO a z] at e; cases e
    have next : ∀ (h₄ : Heap) (nw' : List (Addr × Obj)), Fr b L h₄ m → HBut [L] h₃ h₄ → (∀ p ∈ nw', h₄.get? p.1 = some p.2 ∧ h₃.get? p.1 = none) → h₄.get? D = some (LCg.lst ys) ∧ St (i + 1) h₄ ∧ PV (some v) h₄ ∧ At (I :: D :: own ++ [L]) h₄ ((nw' ++ nw) ++ cx) ∧ HBut [L] h00 h₄ ∧ (∀ p ∈ nw' ++ nw, h00.get? p.1 = none) := fun h₄ nw' F₄ k₄ f₄ => by
      have off : ∀ p ∈ nw', p.1 ∉ I :: D :: own ++ [L] := fun p hp z => by
        have e := (f₄ p hp).2
        rcases List.mem_append.mp z with z | z
        · rcases List.mem_cons.mp z with z | z
          · obtain ⟨o, ho⟩ := hSI _ _ st₃
            rw [z, ho] at e; cases e
          · rcases List.mem_cons.mp z with z | z
            · rw [z, hd₃] at e; cases e
            · obtain ⟨o, ho⟩ := hdom _ _ pv₃ _ z
              rw [ho] at e; cases e
        · obtain ⟨o, _, _, ho, _⟩ := F₃.ns
          rw [List.mem_singleton.mp z, ho] at e; cases e
      refine ⟨k₄ D _ hd₃ (by simpa using Ne.symm hLD), W.frame _ _ _ st₃ fun a ha o e => k₄ a o e (fun z => hLf (List.mem_singleton.mp z ▸ ha)), hPV _ _ _ pv₃ fun a ha o e => k₄ a o e (fun z => hLo (List.mem_singleton.mp z ▸ ha)), ?_, hbut_trans k₃ k₄, fun p hp => ?_⟩
      · rw [List.append_assoc]
        exact At.append (fun p hp => ⟨(f₄ p hp).1, off p hp⟩) (at₃.but (hbut_more k₄ fun a ha => List.mem_append_right _ ha))
      · rcases List.mem_append.mp hp with hp | hp
        · exact dom_keep F₃ k₃ (f₄ p hp).2
        · exact fr1 p hp
    refine wpAny_mono (turn i v ys nw h₃ tk₃ _ hlt hP hJ F₃ pv₃ at₃ k₃) (fun ok s₄ h₄ => ?_) fun _ _ e => e
    cases ok with
    | false =>
      simp only [Bool.false_eq_true, if_false] at h₄ ⊢
      obtain ⟨h', tk', nw', rfl, F', k', f', J'⟩ := h₄
      obtain ⟨x1, x2, x3, x4, x5, x6⟩ := next h' nw' F' k' f'
      exact ⟨n + 1 - (i + 1), by omega, h', tk', i + 1, ys, _, _, rfl, hlt, rfl, Nat.le_succ_of_le hyl, x2, F', x3, x1, x4, x5, x6, J'⟩
    | true =>
      simp only [if_true] at h₄ ⊢
      refine wpAny_mono h₄ (fun y s₅ h₅ => ?_) fun _ _ e => e
      obtain ⟨h', tk', nw', rfl, F', k', f', J'⟩ := h₅
      obtain ⟨x1, x2, x3, x4, x5, x6⟩ := next h' nw' F' k' f'
      refine append_at (hsz := by show ys.toArray.size ≤ sizeLine; rw [List.size_toArray]; omega) x1 fun h₆ hs₆ hD₆ => ?_
      have k₆ : HBut [D] h' h₆ := fun a o e n => hs₆.extBut a o (by simpa using n) e
      refine ⟨n + 1 - (i + 1), by omega, h₆, tk', i + 1, ys ++ [y], _, _, rfl, hlt, rfl, by rw [List.length_append, List.length_singleton]; omega, W.frame _ _ _ x2 fun a ha o e => k₆ a o e (fun z => hD (List.mem_singleton.mp z ▸ ha)), fr_but F' k₆ (by simpa using hLD) (by simpa using bD),
        hPV _ _ _ x3 fun a ha o e => k₆ a o e (fun z => hDo (List.mem_singleton.mp z ▸ ha)), hD₆.trans (congrArg some (lst_snoc ys y)), x4.but (hbut_more k₆ fun a ha => by rw [List.mem_singleton.mp ha]; exact .tail _ (.head _)), fun a o e n => k₆ a o (x5 a o e n) (fun z => by rw [List.mem_singleton.mp z, zD] at e; cases e), x6, J'⟩
  · obtain rfl : i = n := Nat.le_antisymm hi (Nat.not_lt.mp hlt)
    refine W.done _ _ _ st fun h₂ tk₂ hk₂ => ?_
    obtain ⟨F₂, pv₂, hd₂, at₂, k₂⟩ := afterI h₂ hk₂
    exact hR h₂ tk₂ ys nw v0 F₂ pv₂ hd₂ at₂ k₂ fr1 hJ
end
end Mine
end
section
open PySem.Spec PySem.Calls
set_option maxRecDepth 100000
namespace Mine
section
variable {prog : Program} {w : World} {A : Around} {b h00 : Heap} {L : Addr} {m : Str → Option Value} {E : Value → Shared → Prop} {s₂ : Shared} {elt iter : Expr} {ifs : List Expr} {x : Str} {px pos : Pos} {scope : Scope} {env : Env} {cl : List (Str × Addr)} {I : Addr} {fp : List Addr} {n : Nat} {P : Nat → Value → Prop} {St : Nat → Heap → Prop}
    {J : Nat → List Value → List (Addr × Obj) → Prop} {cx : List (Addr × Obj)} {RR : Value → Addr → Result → Shared → Prop}
theorem block_A (W : Walks prog w A I fp [I] n P St) (hsz : n ≤ sizeLine) (hfp : ∀ a ∈ fp, a < s₂.heap.objs.size) (hSI : ∀ i h, St i h → ∃ o, h.get? I = some o) (hst : St 0 s₂.heap)
    (hcell : ∀ y ∈ scope.names, y.2 ≠ .cell) (hkind : scope.kind = .function) (hx : scope.names.lookup x = some .local)
    (F : Fr b L s₂.heap m) (hI0 : h00.get? I = none) (bI : b.get? I = none) (hLf : L ∉ fp) (k0 : HBut [L] h00 s₂.heap) (at0 : At (I :: [L]) s₂.heap cx) (hJ : J 0 [] [])
    (turn : ∀ C i v ys nw h tk m₂ (E : Value → Shared → Prop), i < n → P i v → J i ys nw → Fr b L h m → h.Ns C m₂ → m₂ x = some v → At [L] h (nw ++ cx) → HBut [L] h00 h →
      wpAny (model prog w) A (forIn ifs true fun c r => if r = true then do let ok ← isTrue c (compEnvC scope cl C env) (eval c (compEnvC scope cl C env)); pure (ForInStep.yield ok) else pure (ForInStep.yield r)) (fun ok s₃ =>
        if ok = true then wpAny (model prog w) A (eval elt (compEnvC scope cl C env)) (fun y s₄ => Nx b L m s₂ J h i (ys ++ [y]) nw s₄) E s₃ else Nx b L m s₂ J h i ys nw s₃) E { s₂ with heap := h, toks := tk })
    (hRR : ∀ D C h tk ys nw m', Fr b L h m → h.Ns C m' → C ≠ L → b.get? C = none → h00.get? C = none → At [C, L] h ((D, LCg.lst ys) :: nw ++ cx) → HBut [L] h00 h → (∀ p ∈ (D, LCg.lst ys) :: nw, h00.get? p.1 = none) → J n ys nw → RR (.ref D) C (.ok .next) { s₂ with heap := h, toks := tk }) :
    wpAny (model prog w) A (newList []) (fun acc s₃ => wpAny (model prog w) A (newFunctionEnv scope env.globals cl [] env.qual none .none (some env)) (fun cenv s₄ =>
      codeAny (model prog w) A (.compStart (.ListComp elt [⟨.Name x px, iter, ifs, 0⟩] scope pos) 0 (.ref I) acc { cenv with scope := relabel scope env }) (RR acc cenv.locals) s₄) E s₃) E s₂ := by
  refine wpAny_newObj_type (wpAny_newFunctionEnv hcell (by intro y hy; simp at hy) (fun h₁ hns₁ hsb₁ => ?_) hkind)
  dsimp only at hns₁ hsb₁ ⊢
  generalize hH2 : s₂.heap.push { cls := .type "list", dict := none, data := .seq ([] : List Value).toArray } = H2 at hns₁ hsb₁ ⊢
  have hC : H2.objs.size = s₂.heap.objs.size + 1 := by rw [← hH2, Heap.size_push]
  generalize hCC : H2.objs.size = C at hns₁ hsb₁ hC ⊢
  have old : HExt s₂.heap h₁ := fun a o e => hsb₁.extBut a o (by rw [hC]; exact Nat.ne_of_lt (Nat.lt_succ_of_lt (Heap.lt_size e))) (Heap.get?_push_of_some _ (hH2 ▸ Heap.get?_push_of_some _ e))
  have hDC : s₂.heap.objs.size ≠ C := by rw [hC]; exact Nat.ne_of_lt (Nat.lt_succ_self _)
  have hacc : h₁.get? s₂.heap.objs.size = some (LCg.lst []) := hsb₁.extBut _ _ hDC (Heap.get?_push_of_some _ (hH2 ▸ Heap.get?_push_size _ rfl))
  have fresh : ∀ a, s₂.heap.objs.size ≤ a → s₂.heap.get? a = none := fun a ha => Heap.get?_none_of_le ha
  have hD2 := fresh _ (Nat.le_refl _)
  have hC2 : s₂.heap.get? C = none := fresh _ (by rw [hC]; exact Nat.le_succ _)
  have low : ∀ a, s₂.heap.get? a = none → b.get? a = none := fun a e => by
    cases q : b.get? a with
    | none => rfl
    | some o => rw [F.keep _ _ q] at e; cases e
  have low0 : ∀ a, s₂.heap.get? a = none → h00.get? a = none := fun a e => dom_keep F k0 e
  have hIlt : I < s₂.heap.objs.size := hfp I (W.sub I (List.mem_singleton.mpr rfl))
  have hLlt : L < s₂.heap.objs.size := F.ns.lt
  generalize hDD : s₂.heap.objs.size = D at *
  have hLI : L ≠ I := fun z => hLf (z ▸ W.sub I (List.mem_singleton.mpr rfl))
  have nC : ∀ a, a < D → a ≠ C := fun a ha => by rw [hC]; exact Nat.ne_of_lt (Nat.lt_succ_of_lt ha)
  have at1 : At (I :: D :: [C] ++ [L]) h₁ cx := fun p hp => ⟨old _ _ (at0 p hp).1, fun z => by
    have hlt := Heap.lt_size (at0 p hp).1
    rw [hDD] at hlt
    rcases List.mem_cons.mp z with z | z
    · exact (at0 p hp).2 (z ▸ .head _)
    rcases List.mem_cons.mp z with z | z
    · exact Nat.ne_of_lt hlt z
    rcases List.mem_cons.mp z with z | z
    · exact nC _ hlt z
    · exact (at0 p hp).2 (.tail _ z)⟩
  have loop : codeAny (model prog w) A (.compLoop (.ListComp elt [⟨.Name x px, iter, ifs, 0⟩] scope pos) 0 (.ref I) (.ref D) (compEnvC scope cl C env)) (RR (.ref D) C) { s₂ with heap := h₁, toks := s₂.toks + ([] : List (Str × Value)).length } := by
    refine comp_loop (own := [C]) (J := J) (cx := cx) (h00 := h00) (PV := fun v h => ∃ m₂, h.Ns C m₂ ∧ m₂ x = v) W hsz (fun z => Nat.lt_irrefl _ (hfp _ z)) (fun a ha z => nC a (hfp _ z) (List.mem_singleton.mp ha)) hLf (Nat.ne_of_lt hIlt) (by simpa using nC _ hIlt) (by simpa using hDC) hLI (Nat.ne_of_lt hLlt) (by simpa using nC _ hLlt)
      ?_ ?_ hSI ?_ ?_ ?_ ?_ (v0 := none) (W.frame _ _ _ hst fun a _ o e => old a o e) (F.keeps old) ⟨_, hns₁, rfl⟩ hacc at1 (fun a o e n => old a o (k0 a o e n)) hJ ?_
    · intro a ha
      rcases List.mem_cons.mp ha with rfl | ha
      · exact bI
      rcases List.mem_cons.mp ha with rfl | ha
      · exact low _ hD2
      · rw [List.mem_singleton.mp ha]; exact low _ hC2
    · intro a ha
      rcases List.mem_cons.mp ha with rfl | ha
      · exact hI0
      rcases List.mem_cons.mp ha with rfl | ha
      · exact low0 _ hD2
      · rw [List.mem_singleton.mp ha]; exact low0 _ hC2
    · rintro v h h' ⟨m₂, hn, hv⟩ hk
      exact ⟨m₂, hn.at' fun o e => hk C (.head _) o e, hv⟩
    · rintro v h ⟨m₂, hn, hv⟩ a ha
      obtain ⟨o, _, _, ho, _⟩ := hn
      rw [List.mem_singleton.mp ha]; exact ⟨o, ho⟩
    · rintro v0 v h tk Q E ⟨m₂, hn, hv⟩ hQ
      refine wpAny_assign_Name (wpAny_storeName_local (lookup_relabel_local hx) hn (fun h₃ hn₃ hs₃ => ?_) (by simp [compEnvC, relabel, hkind]))
      exact hQ h₃ _ ⟨_, hn₃, by simp⟩ fun a o e n => hs₃.extBut a o (fun z => n (List.mem_singleton.mpr z)) e
    · rintro i v ys nw h tk E hi hP hJ F' ⟨m₂, hn, hv⟩ at' k'
      exact turn C i v ys nw h tk m₂ E hi hP hJ F' hn hv (at'.less fun a ha => List.mem_append_right _ ha) k'
    · rintro h tk ys nw v0 F' ⟨m₂, hn, hv⟩ hd' at' k' fr' hJ'
      refine hRR D C h tk ys nw m₂ F' hn (Ne.symm (nC _ hLlt)) (low _ hC2) (low0 _ hC2) ?_ k' ?_ hJ'
      · intro p hp
        rcases List.mem_cons.mp hp with rfl | hp
        · refine ⟨hd', fun z => ?_⟩
          rcases List.mem_cons.mp z with z | z
          · exact hDC z
          · exact Nat.ne_of_gt hLlt (List.mem_singleton.mp z)
        · exact (at'.less (gs := [C, L]) (fun a ha => .tail _ (.tail _ ha))) p hp
      · intro p hp
        rcases List.mem_cons.mp hp with rfl | hp
        · exact low0 _ hD2
        · exact fr' p hp
  exact codeAny_compStart_list loop (W.self 0 _ _ _ (W.frame _ _ _ hst fun a _ o e => old a o e) loop)
theorem compA_core {s : Shared} {ax : Addr} {ol : Obj} {its : Array Value} {k : Nat} {use : Option (Value → Sem Unit)} {Qv : Value → Shared → Prop} {pp : Pos} (hh : A.handled = none) (hclos : closureFor scope env = pure cl)
    (hcell : ∀ y ∈ scope.names, y.2 ≠ .cell) (hkind : scope.kind = .function) (hnames : ∀ y ∈ scope.names, y.2 = .local → scope.names.lookup y.1 = some .local) (hx : scope.names.lookup x = some .local)
    (F : Fr b L s.heap m) (at0 : At [L] s.heap cx) (hm : (ax, ol) ∈ cx) (hc : ol.cls = .type "list") (hd : ol.data = .seq its k) (hsz : its.size ≤ sizeLine)
    (hev : ∀ Q' : Value → Shared → Prop, Q' (.ref ax) s → wpAny (model prog w) A (eval iter env) Q' E s) (hJ : J 0 [] [])
    (turn : ∀ C i v ys nw h tk m₂ (E : Value → Shared → Prop), its[i]? = some v → J i ys nw → Fr b L h m → h.Ns C m₂ → m₂ x = some v → At [L] h (nw ++ cx) → HBut [L] s.heap h →
      wpAny (model prog w) A (forIn ifs true fun c r => if r = true then do let ok ← isTrue c (compEnvC scope cl C env) (eval c (compEnvC scope cl C env)); pure (ForInStep.yield ok) else pure (ForInStep.yield r)) (fun ok s₃ =>
        if ok = true then wpAny (model prog w) A (eval elt (compEnvC scope cl C env)) (fun y s₄ => Nx b L m s J h i (ys ++ [y]) nw s₄) E s₃ else Nx b L m s J h i ys nw s₃) E { s with heap := h, toks := tk })
    (hP : ∀ D C h tk ys nw m', Fr b L h m → h.Ns C m' → C ≠ L → b.get? C = none → s.heap.get? C = none → At [C, L] h ((D, LCg.lst ys) :: nw ++ cx) → HBut [L] s.heap h → (∀ p ∈ (D, LCg.lst ys) :: nw, s.heap.get? p.1 = none) → J its.size ys nw →
      compPost (model prog w) A E use Qv (.ref D) C (.ok .next) { s with heap := h, toks := tk })
    (hs : ∀ x, foldedSetIterable iter env x = pure x := by intro _; rfl) :
    wpAny (model prog w) A (comprehension (.ListComp elt [⟨.Name x px, iter, ifs, 0⟩] scope pos) scope env pp (newList []) false (eval iter env) use) Qv E s := by
  refine wpAny_comprehension_free rfl hs hclos hkind hnames (hev _ ?_)
  have hl : s.heap.IsList ax its := ⟨ol, (at0 _ hm).1, hc, k, hd⟩
  have hlt : ax < s.heap.objs.size := Heap.lt_size (at0 _ hm).1
  refine wpAny_pyIter_list hl ?_
  have up : HExt s.heap (s.heap.push { cls := .type "list_iterator", data := .fields #[.ref ax, .int 0 0] }) := fun b o e => Heap.get?_push_of_some _ e
  have hI0 : s.heap.get? s.heap.objs.size = none := Heap.get?_none_of_le (Nat.le_refl _)
  refine block_A (J := J) (cx := cx) (h00 := s.heap) (m := m) (b := b) (L := L) (Walks.list hh s.heap.objs.size ax (Nat.ne_of_lt hlt) its) hsz (fun a ha => ?_) (fun i h st => by obtain ⟨o, e, _⟩ := st.1; exact ⟨o, e⟩) ⟨⟨_, Heap.get?_push_size _ rfl, rfl, rfl⟩, hl.push _⟩ hcell hkind hx
    (F.keeps up) hI0 (next_is_new F) (fun z => ?_) (hext_but up) (fun p hp => ⟨up _ _ (at0 p hp).1, fun z => ?_⟩) hJ (fun C i v ys nw h tk m₂ E hi hP' => turn C i v ys nw h tk m₂ E hP') hP
  · show a < (s.heap.push _).objs.size
    rw [Heap.size_push]
    rcases List.mem_cons.mp ha with rfl | ha
    · exact Nat.lt_succ_self _
    · rw [List.mem_singleton.mp ha]; exact Nat.lt_succ_of_lt hlt
  · rcases List.mem_cons.mp z with z | z
    · exact Nat.ne_of_lt F.ns.lt z
    · exact (at0 _ hm).2 (List.mem_singleton.mp z ▸ .head _)
  · rcases List.mem_cons.mp z with z | z
    · exact Nat.ne_of_lt (Heap.lt_size (at0 p hp).1) z
    · exact (at0 p hp).2 z
theorem letgo_C {s : Shared} {C D : Addr} {h h' : Heap} {ys : List Value} {nw : List (Addr × Obj)} (F : Fr b L h m) (hs : Heap.SameBut C h h') (hCL : C ≠ L) (bC : b.get? C = none) (C0 : s.heap.get? C = none) (a : At [C, L] h ((D, LCg.lst ys) :: nw ++ cx)) (k : HBut [L] s.heap h) :
    Fr b L h' m ∧ At [L] h' ((D, LCg.lst ys) :: nw ++ cx) ∧ HBut [L] s.heap h' := by
  have kk : HBut [C] h h' := fun a o e n => hs.extBut a o (by simpa using n) e
  exact ⟨fr_but F kk (by simpa using Ne.symm hCL) (by simpa using bC), (a.but (hbut_more kk fun a ha => by rw [List.mem_singleton.mp ha]; exact .head _)).less fun a ha => .tail _ ha, fun a o e n => kk a o (k a o e n) fun z => by rw [List.mem_singleton.mp z, C0] at e; cases e⟩
theorem compA_expr {s : Shared} {ax : Addr} {ol : Obj} {its : Array Value} {k : Nat} {Q : Value → Shared → Prop} (hh : A.handled = none) (hclos : closureFor scope env = pure cl)
    (hcell : ∀ y ∈ scope.names, y.2 ≠ .cell) (hkind : scope.kind = .function) (hnames : ∀ y ∈ scope.names, y.2 = .local → scope.names.lookup y.1 = some .local) (hx : scope.names.lookup x = some .local)
    (F : Fr b L s.heap m) (at0 : At [L] s.heap cx) (hm : (ax, ol) ∈ cx) (hc : ol.cls = .type "list") (hd : ol.data = .seq its k) (hsz : its.size ≤ sizeLine)
    (hev : ∀ Q' : Value → Shared → Prop, Q' (.ref ax) s → wpAny (model prog w) A (eval iter env) Q' E s) (hJ : J 0 [] [])
    (turn : ∀ C i v ys nw h tk m₂ (E : Value → Shared → Prop), its[i]? = some v → J i ys nw → Fr b L h m → h.Ns C m₂ → m₂ x = some v → At [L] h (nw ++ cx) → HBut [L] s.heap h →
      wpAny (model prog w) A (forIn ifs true fun c r => if r = true then do let ok ← isTrue c (compEnvC scope cl C env) (eval c (compEnvC scope cl C env)); pure (ForInStep.yield ok) else pure (ForInStep.yield r)) (fun ok s₃ =>
        if ok = true then wpAny (model prog w) A (eval elt (compEnvC scope cl C env)) (fun y s₄ => Nx b L m s J h i (ys ++ [y]) nw s₄) E s₃ else Nx b L m s J h i ys nw s₃) E { s with heap := h, toks := tk })
    (hQ : ∀ D h tk ys nw, Fr b L h m → At [L] h ((D, LCg.lst ys) :: nw ++ cx) → HBut [L] s.heap h → (∀ p ∈ (D, LCg.lst ys) :: nw, s.heap.get? p.1 = none) → J its.size ys nw → Q (.ref D) { s with heap := h, toks := tk })
    (hs : ∀ x, foldedSetIterable iter env x = pure x := by intro _; rfl) :
    wpAny (model prog w) A (eval (.ListComp elt [⟨.Name x px, iter, ifs, 0⟩] scope pos) env) Q E s := by
  rw [eval_ListComp]
  refine compA_core (use := none) hh hclos hcell hkind hnames hx F at0 hm hc hd hsz hev hJ turn (fun D C h tk ys nw m' F' hn hCL bC C0 a k fr hJ' => ?_) hs
  refine ⟨m', hn, fun h'' hs'' => ?_⟩
  obtain ⟨F'', a'', k''⟩ := letgo_C F' hs'' hCL bC C0 a k
  exact hQ D h'' tk ys nw F'' a'' k'' fr hJ'
theorem compA_assign {s : Shared} {ax : Addr} {ol : Obj} {its : Array Value} {k : Nat} {Q : Flow → Shared → Prop} {y : Str} {py spos : Pos} (hh : A.handled = none) (hL : env.locals = L)
    (hsw : swapsWith (.ListComp elt [⟨.Name x px, iter, ifs, 0⟩] scope pos) (some (.Name y py)) spos.line env = pure true) (hclos : closureFor scope env = pure cl)
    (hcell : ∀ y ∈ scope.names, y.2 ≠ .cell) (hkind : scope.kind = .function) (hnames : ∀ y ∈ scope.names, y.2 = .local → scope.names.lookup y.1 = some .local) (hx : scope.names.lookup x = some .local)
    (hy : env.kindOf y = some .local) (hp : (env.scope.kind == .class || (env.scope.kind == .module && env.locals != env.globals)) = false)
    (F : Fr b L s.heap m) (at0 : At [L] s.heap cx) (hm : (ax, ol) ∈ cx) (hc : ol.cls = .type "list") (hd : ol.data = .seq its k) (hsz : its.size ≤ sizeLine)
    (hev : ∀ Q' : Value → Shared → Prop, Q' (.ref ax) s → wpAny (model prog w) A (eval iter env) Q' E s) (hJ : J 0 [] [])
    (turn : ∀ C i v ys nw h tk m₂ (E : Value → Shared → Prop), its[i]? = some v → J i ys nw → Fr b L h m → h.Ns C m₂ → m₂ x = some v → At [L] h (nw ++ cx) → HBut [L] s.heap h →
      wpAny (model prog w) A (forIn ifs true fun c r => if r = true then do let ok ← isTrue c (compEnvC scope cl C env) (eval c (compEnvC scope cl C env)); pure (ForInStep.yield ok) else pure (ForInStep.yield r)) (fun ok s₃ =>
        if ok = true then wpAny (model prog w) A (eval elt (compEnvC scope cl C env)) (fun y s₄ => Nx b L m s J h i (ys ++ [y]) nw s₄) E s₃ else Nx b L m s J h i ys nw s₃) E { s with heap := h, toks := tk })
    (hQ : ∀ D h tk ys nw, Fr b L h (fun z => if z = y then some (.ref D) else m z) → At [L] h ((D, LCg.lst ys) :: nw ++ cx) → J its.size ys nw → Q .next { s with heap := h, toks := tk })
    (hs : ∀ x, foldedSetIterable iter env x = pure x := by intro _; rfl) :
    wpAny (model prog w) A (exec (.Assign [.Name y py] (.ListComp elt [⟨.Name x px, iter, ifs, 0⟩] scope pos) spos) env) Q E s := by
  subst hL
  rw [exec_Assign_Name_used _ _ _ _ hsw]
  refine wpAny_bind (wpAny_standAt (wpAny_bind ?_))
  show wpAny _ A (do let _ ← comprehension (.ListComp elt [⟨.Name x px, iter, ifs, 0⟩] scope pos) scope env _ (newList []) false (eval iter env) (some (assign (.Name y py) env))) _ _ s
  refine wpAny_bind (wpAny_mono (compA_core (use := some (assign (.Name y py) env)) (Qv := fun _ s' => Q .next s') hh hclos hcell hkind hnames hx F at0 hm hc hd hsz hev hJ turn (fun D C h tk ys nw m' F' hn hCL bC C0 a k fr hJ' => ?_) hs) (fun _ s' hq => wpAny_pure (wpAny_pure hq)) fun _ _ e => e)
  show wpAny _ A (assign (.Name y py) env (.ref D)) _ _ _
  refine wpAny_assign_Name (wpAny_storeName_local hy F'.ns (fun h₂ hn₂ hs₂ => ?_) hp)
  have kk : HBut [env.locals] h h₂ := fun a o e n => hs₂.extBut a o (fun z => n (List.mem_singleton.mpr z)) e
  refine ⟨m', hn.sameBut hs₂ hCL, fun h'' hs'' => ?_⟩
  obtain ⟨F'', a'', k''⟩ := letgo_C (F'.set hn₂ hs₂) hs'' hCL bC C0 (a.but (hbut_more kk fun a ha => .tail _ ha)) (hbut_trans k kk)
  exact hQ D h'' _ ys nw F'' a'' hJ'
end
end Mine
end
section
open PySem.Spec PySem.Calls
set_option maxRecDepth 100000
namespace Mine
abbrev cellO (v : Option Value) : Obj := { cls := .type "cell", data := .cell v }
theorem newEnv_cells {M : Model} {A : Around} {E : Value → Shared → Prop} {s : Shared} {scope : Scope} {globals : Addr} {cl : List (Str × Addr)} {qual : Str} {env : Env} {Q : Env → Shared → Prop}
    (h : Q { scope := scope, locals := s.heap.objs.size, globals := globals, cells := cellsFrom (s.heap.objs.size + 1) scope.names cl, qual := qual, func := none, code := env.code, frame := env.frame, builtins := env.builtins }
      { s with heap := pushCells (s.heap.push { cls := .type "dict", data := .dict #[] }) scope.names }) :
    wpAny M A (newFunctionEnv scope globals cl [] qual none .none (some env)) Q E s := by
  simp only [newFunctionEnv, Option.isSome_some, if_true]
  refine wpAny_bind (wpAny_alloc ?_)
  refine wpAny_bind (wpAny_layCells _ (fun name kind cells => by cases hkc : kind == NameKind.cell <;> simp [hkc]) _ _ _ _ ?_)
  rw [show ({ s with heap := s.heap.push { cls := .type "dict", data := .dict #[] } } : Shared).heap.objs.size = s.heap.objs.size + 1 from Heap.size_push ..]
  exact wpAny_bind (wpAny_pure (wpAny_pure h))
section
variable {prog : Program} {w : World} {A : Around} {b h00 : Heap} {L : Addr} {m : Str → Option Value} {E : Value → Shared → Prop} {s₂ : Shared} {elt iter : Expr} {x : Str} {px pos : Pos} {scope : Scope} {env : Env} {cl : List (Str × Addr)} {I : Addr} {fp : List Addr} {n : Nat} {P : Nat → Value → Prop} {St : Nat → Heap → Prop}
    {J : Nat → List Value → List (Addr × Obj) → Prop} {cx : List (Addr × Obj)} {RR : Value → Addr → Result → Shared → Prop}
theorem block_B (W : Walks prog w A I fp [I] n P St) (hsz : n ≤ sizeLine) (hfp : ∀ a ∈ fp, a < s₂.heap.objs.size) (hSI : ∀ i h, St i h → ∃ o, h.get? I = some o) (hst : St 0 s₂.heap)
    (hpc : ∀ h, pushCells h scope.names = h.push (cellO none)) (hcf : ∀ n, cellsFrom n scope.names cl = (x, n) :: cl) (hkind : scope.kind = .function) (hx : (relabel scope env).names.lookup x = some .cell)
    (F : Fr b L s₂.heap m) (hI0 : h00.get? I = none) (bI : b.get? I = none) (hLf : L ∉ fp) (k0 : HBut [L] h00 s₂.heap) (at0 : At (I :: [L]) s₂.heap cx) (hJ : J 0 [] [])
    (turn : ∀ C c i v ys nw h tk (E : Value → Shared → Prop), i < n → P i v → J i ys nw → Fr b L h m → h.IsCell c (some v) → c ≠ L → At [L] h (nw ++ cx) → HBut [L] h00 h →
      wpAny (model prog w) A (eval elt (compEnvC scope ((x, c) :: cl) C env)) (fun y s₄ => Nx b L m s₂ J h i (ys ++ [y]) nw s₄) E { s₂ with heap := h, toks := tk })
    (hRR : ∀ D C h tk ys nw m', Fr b L h m → h.Ns C m' → C ≠ L → b.get? C = none → h00.get? C = none → At [C, L] h ((D, LCg.lst ys) :: nw ++ cx) → HBut [L] h00 h → (∀ p ∈ (D, LCg.lst ys) :: nw, h00.get? p.1 = none) → J n ys nw → RR (.ref D) C (.ok .next) { s₂ with heap := h, toks := tk }) :
    wpAny (model prog w) A (newList []) (fun acc s₃ => wpAny (model prog w) A (newFunctionEnv scope env.globals cl [] env.qual none .none (some env)) (fun cenv s₄ =>
      codeAny (model prog w) A (.compStart (.ListComp elt [⟨.Name x px, iter, [], 0⟩] scope pos) 0 (.ref I) acc { cenv with scope := relabel scope env }) (RR acc cenv.locals) s₄) E s₃) E s₂ := by
  refine wpAny_newObj_type (newEnv_cells ?_)
  dsimp only
  rw [hpc, hcf]
  generalize hH2 : s₂.heap.push { cls := .type "list", dict := none, data := .seq ([] : List Value).toArray } = H2
  have hC : H2.objs.size = s₂.heap.objs.size + 1 := by rw [← hH2, Heap.size_push]
  generalize hH3 : H2.push { cls := .type "dict", data := .dict #[] } = H3
  have hc3 : H3.objs.size = H2.objs.size + 1 := by rw [← hH3, Heap.size_push]
  generalize hh1 : H3.push (cellO none) = h₁
  have up12 : HExt H2 H3 := fun a o e => hH3 ▸ Heap.get?_push_of_some _ e
  have up23 : HExt H3 h₁ := fun a o e => hh1 ▸ Heap.get?_push_of_some _ e
  have up02 : HExt s₂.heap H2 := fun a o e => hH2 ▸ Heap.get?_push_of_some _ e
  have old : HExt s₂.heap h₁ := fun a o e => up23 _ _ (up12 _ _ (up02 _ _ e))
  have hacc : h₁.get? s₂.heap.objs.size = some (LCg.lst []) := up23 _ _ (up12 _ _ (hH2 ▸ Heap.get?_push_size _ rfl))
  have hns₁ : h₁.Ns H2.objs.size (fun _ => none) := (hH3 ▸ Heap.Ns.new H2 (.type "dict") : H3.Ns H2.objs.size (fun _ => none)).keeps up23
  have hcl₁ : h₁.IsCell H3.objs.size none := ⟨_, hh1 ▸ Heap.get?_push_size _ rfl, rfl⟩
  rw [show H2.objs.size + 1 = H3.objs.size from hc3.symm]
  generalize hcc : H3.objs.size = c at *
  generalize hCC : H2.objs.size = C at *
  have fresh : ∀ a, s₂.heap.objs.size ≤ a → s₂.heap.get? a = none := fun a ha => Heap.get?_none_of_le ha
  have hD2 := fresh _ (Nat.le_refl _)
  have hC2 : s₂.heap.get? C = none := fresh _ (by omega)
  have hcc2 : s₂.heap.get? c = none := fresh _ (by omega)
  have low : ∀ a, s₂.heap.get? a = none → b.get? a = none := fun a e => by
    cases q : b.get? a with
    | none => rfl
    | some o => rw [F.keep _ _ q] at e; cases e
  have low0 : ∀ a, s₂.heap.get? a = none → h00.get? a = none := fun a e => dom_keep F k0 e
  have hIlt : I < s₂.heap.objs.size := hfp I (W.sub I (List.mem_singleton.mpr rfl))
  have hLlt : L < s₂.heap.objs.size := F.ns.lt
  generalize hDD : s₂.heap.objs.size = D at *
  have hLI : L ≠ I := fun z => hLf (z ▸ W.sub I (List.mem_singleton.mpr rfl))
  have nO : ∀ a, a ≤ D → a ∉ [C, c] := fun a ha z => by
    rcases List.mem_cons.mp z with z | z
    · have z' : a = C := z
      omega
    · have z' : a = c := List.mem_singleton.mp z
      omega
  have at1 : At (I :: D :: [C, c] ++ [L]) h₁ cx := fun p hp => ⟨old _ _ (at0 p hp).1, fun z => by
    have hlt := Heap.lt_size (at0 p hp).1
    rw [hDD] at hlt
    rcases List.mem_cons.mp z with z | z
    · exact (at0 p hp).2 (z ▸ .head _)
    rcases List.mem_cons.mp z with z | z
    · exact Nat.ne_of_lt hlt z
    rcases List.mem_append.mp z with z | z
    · exact nO _ (Nat.le_of_lt hlt) z
    · exact (at0 p hp).2 (.tail _ z)⟩
  have loop : codeAny (model prog w) A (.compLoop (.ListComp elt [⟨.Name x px, iter, [], 0⟩] scope pos) 0 (.ref I) (.ref D) (compEnvC scope ((x, c) :: cl) C env)) (RR (.ref D) C) { s₂ with heap := h₁, toks := s₂.toks } := by
    refine comp_loop (own := [C, c]) (J := J) (cx := cx) (h00 := h00) (PV := fun v h => h.IsCell c v ∧ ∃ m₂, h.Ns C m₂) W hsz (fun z => Nat.lt_irrefl _ (hfp _ z)) (fun a ha z => nO a (Nat.le_of_lt (hfp _ z)) ha) hLf (Nat.ne_of_lt hIlt) (nO _ (Nat.le_of_lt hIlt)) (nO _ (Nat.le_refl _)) hLI (Nat.ne_of_lt hLlt) (nO _ (Nat.le_of_lt hLlt))
      ?_ ?_ hSI ?_ ?_ ?_ ?_ (v0 := none) (W.frame _ _ _ hst fun a _ o e => old a o e) (F.keeps old) ⟨hcl₁, _, hns₁⟩ hacc at1 (fun a o e n => old a o (k0 a o e n)) hJ ?_
    · intro a ha
      rcases List.mem_cons.mp ha with rfl | ha
      · exact bI
      rcases List.mem_cons.mp ha with rfl | ha
      · exact low _ hD2
      rcases List.mem_cons.mp ha with rfl | ha
      · exact low _ hC2
      · rw [List.mem_singleton.mp ha]; exact low _ hcc2
    · intro a ha
      rcases List.mem_cons.mp ha with rfl | ha
      · exact hI0
      rcases List.mem_cons.mp ha with rfl | ha
      · exact low0 _ hD2
      rcases List.mem_cons.mp ha with rfl | ha
      · exact low0 _ hC2
      · rw [List.mem_singleton.mp ha]; exact low0 _ hcc2
    · rintro v h h' ⟨⟨o, ho, hd⟩, m₂, hn⟩ hk
      exact ⟨⟨o, hk c (.tail _ (.head _)) o ho, hd⟩, m₂, hn.at' fun o e => hk C (.head _) o e⟩
    · rintro v h ⟨⟨o, ho, hd⟩, m₂, hn⟩ a ha
      rcases List.mem_cons.mp ha with rfl | ha
      · obtain ⟨o, _, _, ho, _⟩ := hn
        exact ⟨o, ho⟩
      · rw [List.mem_singleton.mp ha]; exact ⟨o, ho⟩
    · rintro v0 v h tk Q E ⟨hc, m₂, hn⟩ hQ
      refine wpAny_assign_Name (wpAny_storeName_cell (env := compEnvC scope ((x, c) :: cl) C env) (c := c) hkind hx (by simp [compEnvC]) hc fun h₃ hc₃ hs₃ => ?_)
      exact hQ h₃ _ ⟨hc₃, m₂, hn.sameBut hs₃ (by have : C ≠ c := by omega
                                                 exact this)⟩ fun a o e n => hs₃.extBut a o (fun z => n (by rw [z]; exact .tail _ (.head _))) e
    · rintro i v ys nw h tk E hi hP hJ F' ⟨hc, m₂, hn⟩ at' k'
      refine wpAny_tests_nil ?_
      simp only [if_true]
      exact turn C c i v ys nw h tk E hi hP hJ F' hc (fun z => nO _ (Nat.le_of_lt hLlt) (z ▸ .tail _ (.head _))) (at'.less fun a ha => List.mem_append_right _ ha) k'
    · rintro h tk ys nw v0 F' ⟨hc, m₂, hn⟩ hd' at' k' fr' hJ'
      refine hRR D C h tk ys nw m₂ F' hn (fun z => nO _ (Nat.le_of_lt hLlt) (z ▸ .head _)) (low _ hC2) (low0 _ hC2) ?_ k' ?_ hJ'
      · intro p hp
        rcases List.mem_cons.mp hp with rfl | hp
        · refine ⟨hd', fun z => ?_⟩
          rcases List.mem_cons.mp z with z | z
          · exact nO _ (Nat.le_refl _) (z ▸ .head _)
          · exact Nat.ne_of_gt hLlt (List.mem_singleton.mp z)
        · exact (at'.less (gs := [C, L]) (fun a ha => by
            rcases List.mem_cons.mp ha with rfl | ha
            · exact .tail _ (.tail _ (.head _))
            · exact .tail _ (.tail _ (.tail _ (.tail _ ha))))) p hp
      · intro p hp
        rcases List.mem_cons.mp hp with rfl | hp
        · exact low0 _ hD2
        · exact fr' p hp
  exact codeAny_compStart_list loop (W.self 0 _ _ _ (W.frame _ _ _ hst fun a _ o e => old a o e) loop)
theorem compB_assign {s : Shared} {N : Nat} {Q : Flow → Shared → Prop} {y : Str} {py spos : Pos} (hh : A.handled = none) (hL : env.locals = L)
    (hsw : swapsWith (.ListComp elt [⟨.Name x px, iter, [], 0⟩] scope pos) (some (.Name y py)) spos.line env = pure true) (hclos : closureFor scope env = pure cl)
    (hpc : ∀ h, pushCells h scope.names = h.push (cellO none)) (hcf : ∀ n, cellsFrom n scope.names cl = (x, n) :: cl) (hkind : scope.kind = .function) (hnames : ∀ y ∈ scope.names, y.2 = .local → scope.names.lookup y.1 = some .local) (hx : (relabel scope env).names.lookup x = some .cell)
    (hy : env.kindOf y = some .local) (hp : (env.scope.kind == .class || (env.scope.kind == .module && env.locals != env.globals)) = false)
    (at0 : At [L] s.heap cx) (hsz : N ≤ sizeLine) (hsm : Builtin.Range.small 0 (N : Int) 1 = true) (hn : Builtin.Range.rangeSize 0 (N : Int) 1 = ((N : Nat) : Int))
    (hev : wpAny (model prog w) A (eval iter env) (fun v s₁ => ∃ r h₁ tk₁ t u v', v = .ref r ∧ s₁ = { s with heap := h₁, toks := tk₁ } ∧ HExt s.heap h₁ ∧ Fr b L h₁ m ∧ IsRange h₁ r 0 (N : Int) 1 t u v') E s) (hJ : J 0 [] [])
    (turn : ∀ C c i t ys nw h tk (E : Value → Shared → Prop), i < N → J i ys nw → Fr b L h m → h.IsCell c (some (.int (i : Int) t)) → c ≠ L → At [L] h (nw ++ cx) → HBut [L] s.heap h →
      wpAny (model prog w) A (eval elt (compEnvC scope ((x, c) :: cl) C env)) (fun y s₄ => Nx b L m s J h i (ys ++ [y]) nw s₄) E { s with heap := h, toks := tk })
    (hQ : ∀ D h tk ys nw, Fr b L h (fun z => if z = y then some (.ref D) else m z) → At [L] h ((D, LCg.lst ys) :: nw ++ cx) → J N ys nw → Q .next { s with heap := h, toks := tk })
    (hs : ∀ x, foldedSetIterable iter env x = pure x := by intro _; rfl) :
    wpAny (model prog w) A (exec (.Assign [.Name y py] (.ListComp elt [⟨.Name x px, iter, [], 0⟩] scope pos) spos) env) Q E s := by
  subst hL
  rw [exec_Assign_Name_used _ _ _ _ hsw]
  refine wpAny_bind (wpAny_standAt (wpAny_bind ?_))
  show wpAny _ A (do let _ ← comprehension (.ListComp elt [⟨.Name x px, iter, [], 0⟩] scope pos) scope env _ (newList []) false (eval iter env) (some (assign (.Name y py) env))) _ _ s
  refine wpAny_bind (wpAny_mono (wpAny_comprehension_free (use := some (assign (.Name y py) env)) (Q := fun _ s' => Q .next s') rfl hs hclos hkind hnames
    (wpAny_mono hev (fun xv s₁ h₁ => ?_) fun _ _ e => e)) (fun _ s' hq => wpAny_pure (wpAny_pure hq)) fun _ _ e => e)
  obtain ⟨r, h₁, tk₁, t, u, v', rfl, rfl, up1, F₁, hr⟩ := h₁
  refine wpAny_pyIter_range hr hsm ?_
  dsimp only
  have hI0 : h₁.get? h₁.objs.size = none := Heap.get?_none_of_le (Nat.le_refl _)
  refine block_B (J := J) (cx := cx) (h00 := s.heap) (m := m) (b := b) (LCg.range_walks hh 0 N) hsz (fun a ha => ?_) (fun i h st => ⟨_, st⟩) (by show IsRangeIter _ _ _ _ _; rw [hn]; simpa using Heap.get?_push_size _ rfl) hpc hcf hkind hx
    (F₁.keeps fun _ _ e => Heap.get?_push_of_some _ e) ?_ (next_is_new F₁) (by simpa using Nat.ne_of_lt F₁.ns.lt) (fun a o e _ => Heap.get?_push_of_some _ (up1 _ _ e)) (fun p hp => ⟨Heap.get?_push_of_some _ (up1 _ _ (at0 p hp).1), fun z => ?_⟩) hJ ?_ ?_
  · rw [List.mem_singleton.mp ha]
    show h₁.objs.size < (h₁.push _).objs.size
    rw [Heap.size_push]; exact Nat.lt_succ_self _
  · cases q : s.heap.get? h₁.objs.size with
    | none => rfl
    | some o => rw [up1 _ _ q] at hI0; cases hI0
  · rcases List.mem_cons.mp z with z | z
    · exact Nat.ne_of_lt (Heap.lt_size (up1 _ _ (at0 p hp).1)) z
    · exact (at0 p hp).2 z
  · rintro C c i v ys nw h tk E hi ⟨t, rfl⟩ hJ F' hc hcL at' k'
    rw [Int.zero_add] at hc
    exact turn C c i t ys nw h tk E hi hJ F' hc hcL at' k'
  · intro D C h tk ys nw m' F' hn hCL bC C0 a k fr hJ'
    show wpAny _ A (assign (.Name y py) env (.ref D)) _ _ _
    refine wpAny_assign_Name (wpAny_storeName_local hy F'.ns (fun h₂ hn₂ hs₂ => ?_) hp)
    have kk : HBut [env.locals] h h₂ := fun a o e n => hs₂.extBut a o (fun z => n (List.mem_singleton.mpr z)) e
    refine ⟨m', hn.sameBut hs₂ hCL, fun h'' hs'' => ?_⟩
    obtain ⟨F'', a'', k''⟩ := letgo_C (F'.set hn₂ hs₂) hs'' hCL bC C0 (a.but (hbut_more kk fun a ha => .tail _ ha)) (hbut_trans k kk)
    exact hQ D h'' _ ys nw F'' a'' hJ'
end
end Mine
end
section
open PySem.Spec PySem.Calls
set_option maxRecDepth 100000
namespace Mine
/-- what stands around the law's frame -/
structure Cx (w : World) (b : Heap) (A₀ : Around) (mean : ExcName → Option Value) (mg mb : Str → Option Value) (dp un : Nat) (cs : Scope) : Prop where
  B : Below A₀ b [] b
  X : (K w.params).In b
  T : Top qv lo mean mg mb b
  hk : cs.kind = .function
  hd : dp + 30 < recursionLimit
  hu : un + 600 < cLine
theorem fr_back {b b' h : Heap} {L : Addr} {m : Str → Option Value} (T : KtsTurn [] b b') (F : Fr b' L h m) : Fr b L h m := ⟨F.ns, fun x o e => F.keep x o (T.other x o e (fun z => nomatch z)), T.size ▸ F.above⟩
theorem news_back {b b' h : Heap} {L : Addr} {nw : List (Addr × Obj)} (T : KtsTurn [] b b') (N : News b' L h nw) : News b L h nw := fun p hp => ⟨(N p hp).1, (N p hp).2.1, by
  cases q : b.get? p.1 with
  | none => rfl
  | some o => have := (N p hp).2.2; rw [T.other _ _ q (fun z => nomatch z)] at this; cases this⟩
section
variable {w : World} {b : Heap} {A₀ : Around} {mean : ExcName → Option Value} {mg mb : Str → Option Value} {dp un : Nat} {gd : Option (List Code)} {cn : Str} {cs : Scope} {a : Addr} {ccd : Value} {cl : List (Str × Addr)} {L : Addr} {m : Str → Option Value} {s : Shared} {Q E : Value → Shared → Prop} {d : Nat} {f : Addr} {vs : List Value}
theorem law_con (cx : Cx w b A₀ mean mg mb dp un cs) {Pre : Heap → Prop} {Post : Heap → Heap → Value → Prop} (C : Con w d f vs Pre Post) (hd : d ≤ 30) (F : Fr b L s.heap m) (hp : Pre s.heap)
    (k : ∀ (v : Value) (h' : Heap) (tk' : Nat), HExt s.heap h' → Fr b L h' m → Post s.heap h' v → Q v { s with heap := h', toks := tk' }) :
    wpAny (model PySem.Challenge.rw_ny0363_01.row.prog w) (ktrTop dp un gd cn cs L a ccd cl []) (call (.ref f) vs) Q E s :=
  con_use C cx.B F cx.X cx.T cx.hk (Nat.lt_of_le_of_lt (by omega) cx.hd) (Nat.lt_of_le_of_lt (by omega) cx.hu) hp fun v h' tk' X P => k v h' tk' X (F.keeps X) P
theorem law_tp (cx : Cx w b A₀ mean mg mb dp un cs) {Pre : List Addr → Heap → Prop} {Post : Value → List (Addr × Obj) → Prop} (C : ConTP w d f vs Pre Post) (hd : d ≤ 30) (F : Fr b L s.heap m) (hp : Pre [L] s.heap)
    (k : ∀ (v : Value) (h' : Heap) (tk' : Nat) (nw : List (Addr × Obj)), HBut [L] s.heap h' → Fr b L h' m → News b L h' nw → (∀ p ∈ nw, h'.get? p.1 = some p.2 ∧ s.heap.get? p.1 = none) → Post v nw → Q v { s with heap := h', toks := tk' }) :
    wpAny (model PySem.Challenge.rw_ny0363_01.row.prog w) (ktrTop dp un gd cn cs L a ccd cl []) (call (.ref f) vs) Q E s :=
  conTP_use C cx.B F cx.X cx.T ktsDicts_nil cx.hk (Nat.lt_of_le_of_lt (by omega) cx.hd) (Nat.lt_of_le_of_lt (by omega) cx.hu) hp fun v h' tk' h₀' nw T F' B' D' H N fr P => k v h' tk' nw H (fr_back T F') (news_back T N) (fun p hp => ⟨(N p hp).1, fr p hp⟩) P
theorem law_f (cx : Cx w b A₀ mean mg mb dp un cs) {news : List (Addr × Obj)} {Post : Heap → Heap → Value → Prop} (C : ConF w d f vs news Post) (hd : d ≤ 30) (F : Fr b L s.heap m) (N : News b L s.heap news)
    (k : ∀ (v : Value) (h' : Heap) (tk' : Nat), HExt s.heap h' → Fr b L h' m → Post s.heap h' v → Q v { s with heap := h', toks := tk' }) :
    wpAny (model PySem.Challenge.rw_ny0363_01.row.prog w) (ktrTop dp un gd cn cs L a ccd cl []) (call (.ref f) vs) Q E s :=
  conF_use C cx.B F cx.X cx.T cx.hk (Nat.lt_of_le_of_lt (by omega) cx.hd) (Nat.lt_of_le_of_lt (by omega) cx.hu) N fun v h' tk' X P => k v h' tk' X (F.keeps X) P
end
section
variable {M : Model} {A : Around} {E : Value → Shared → Prop} {s : Shared} {env : Env} {pos p1 : Pos} {f : Str} {fa : Addr} {Q : Value → Shared → Prop} {KF : Frag} {b : Heap} {e1 e2 : Expr}
/-- a call of a def of the text's upon one argument -/
theorem ev_call1 (X : KF.In b) (hk : keepIn KF (.ref fa) = true) (hf : ∀ Q' : Value → Shared → Prop, Q' (.ref fa) s → wpAny M A (eval (.Name f p1) env) Q' E s)
    (h : wpAny M A (eval e1 env) (fun v s₁ => HExt b s₁.heap ∧ wpAny M A (call (.ref fa) [v]) Q E s₁) E s) (he : starEach [e1] env = [(false, eval e1 env)] := by rfl) :
    wpAny M A (eval (.Call (.Name f p1) [e1] [] pos) env) Q E s :=
  Call_ (hf _ (callWith_K (K := KF) (h₀ := b) X hk (spliced_more (wpAny_mono h (fun v s₁ z => spliced_none ⟨X.keeps z.1, z.2⟩) fun _ _ z => z) he) he))
theorem ev_call2 (X : KF.In b) (hk : keepIn KF (.ref fa) = true) (hf : ∀ Q' : Value → Shared → Prop, Q' (.ref fa) s → wpAny M A (eval (.Name f p1) env) Q' E s)
    (h : wpAny M A (eval e1 env) (fun v s₁ => wpAny M A (eval e2 env) (fun v' s₂ => HExt b s₂.heap ∧ wpAny M A (call (.ref fa) [v, v']) Q E s₂) E s₁) E s) (he : starEach [e1, e2] env = [(false, eval e1 env), (false, eval e2 env)] := by rfl) (he2 : starEach [e2] env = [(false, eval e2 env)] := by rfl) :
    wpAny M A (eval (.Call (.Name f p1) [e1, e2] [] pos) env) Q E s :=
  Call_ (hf _ (callWith_K (K := KF) (h₀ := b) X hk (spliced_more (wpAny_mono h (fun v s₁ z => spliced_more (wpAny_mono z (fun v' s₂ z => spliced_none ⟨X.keeps z.1, z.2⟩) fun _ _ z => z) he2) fun _ _ z => z) (he.trans (congrArg _ he2.symm))) (he.trans (congrArg _ he2.symm)) (by rw [he2]; rfl)))
end
end Mine
end
section
set_option maxRecDepth 100000
set_option maxHeartbeats 8000000
namespace Mine
local macro_rules | `(tactic| walk_at "my_enter") => `(tactic| (refine wpAny_call ?_; k_dflt (refine' code_defG ?k1 ?k2 ?k3 (News.nil) ?k5 ?kA ?kF ?kK ?k6 ?k7 ?k8 ?k9 ?kB ?_ ?c2 ?c3 ?c4 ?c5; (case kA => exact rfl); (case kF => exact rfl); (case kK => assumption); (case k1 => k_asm); (case k2 => k_asm); (case k3 => k_asm); (case k5 => k_asm); (case k6 => k_is); (case k7 => k_is); (case k8 => exact room_d (by assumption)); (case k9 => exact BindsTo.of_eq rfl); (case c5 => decide); (case kB => exact locs rfl); (case c2 => exact rfl); (case c3 => exact rfl); (case c4 => exact rfl); k_whole; intro g' L' h' FG' F' N' B' X' T' GS; replace GS := gsub_all GS; (try dsimp only); (try k_fold))))
local macro_rules | `(tactic| walk_at "binaryOp Pow int int") => `(tactic| ((with_reducible refine pow_int_small ?kb1 ?kb2 ?kb3 ?_); (case kb1 => first | decide | omega); (case kb2 => first | decide | omega); (case kb3 => decide)))
local macro_rules | `(tactic| walk_at "binaryOp FloorDiv int int") => `(tactic| ((with_reducible refine floordiv_int ?kbe ?_ (Or.inl (PyProof.noPylong_of_log2 ?kbp))); (case kbe => decide); (case kbp => decide +kernel)))
def primeT (x : Int) : Str := [t "2", t "3", t "5", t "7", t "11", t "13"].getD (x.fmod 6).toNat Str.empty
theorem c_prime (w : World) (x : Int) (t1 : Tok) : Con w 2 797 [.int x t1] (fun _ => True) (fun _ _ v => ∃ tk, v = .str (primeT x) tk) := by
  dsimp only [Con]
  k_fill
  intros
  rename_i hret
  walk_at "my_enter"
  k_with "table" => skip
  k_steps
  refine' hret _ _ _ (ext2 ?G ?F) ?P; (case G => assumption); (case F => assumption); (case P => exact ⟨_, rfl⟩)
def stands (x p : Int) : Bool := (((x.fdiv 6).fmod 7 + 1).fdiv (2 ^ p.toNat)).fmod 2 == 1
theorem c_stands (w : World) (x : Int) (t1 : Tok) (p : Int) (t2 : Tok) (hp : 0 ≤ p ∧ p < 3) : Con w 2 804 [.int x t1, .int p t2] (fun _ => True) (fun _ _ v => v = .bool (stands x p)) := by
  dsimp only [Con]
  k_fill
  intros
  rename_i hret
  obtain rfl | rfl | rfl : p = 0 ∨ p = 1 ∨ p = 2 := by omega
  all_goals
    walk_at "my_enter"
    k_steps
    refine' hret _ _ _ (ext2 ?G ?F) ?P; (case G => assumption); (case F => assumption); (case P => exact rfl)
theorem prime_cases (x : Int) : primeT x = t "2" ∨ primeT x = t "3" ∨ primeT x = t "5" ∨ primeT x = t "7" ∨ primeT x = t "11" ∨ primeT x = t "13" := by
  unfold primeT
  have h0 : 0 ≤ x.fmod 6 := Int.fmod_nonneg_of_pos x (by decide)
  have h1 : x.fmod 6 < 6 := Int.fmod_lt_of_pos x (by decide)
  have h2 : (x.fmod 6).toNat < 6 := by omega
  generalize (x.fmod 6).toNat = n at h2
  have : n = 0 ∨ n = 1 ∨ n = 2 ∨ n = 3 ∨ n = 4 ∨ n = 5 := by omega
  rcases this with rfl | rfl | rfl | rfl | rfl | rfl <;> simp
local macro_rules | `(tactic| walk_at "my_use") => `(tactic| ((case k1 => k_asm); (case k2 => k_asm); (case k3 => k_asm); (case k4 => k_asm); (case k5 => exact rfl); (case k6 => (simp only [depth_under_make, depth_under_kw, depth_in1, depth_deeper, depth_caller]; omega)); (case k7 => (simp only [units_in1, units_deeper, Around.mark_units, units_caller]; omega))))
local macro_rules | `(tactic| walk_at "execs cons") => `(tactic| (refine wpAny_execs_cons ?_; (try dsimp only)))
end Mine
end
section
set_option maxRecDepth 100000
set_option maxHeartbeats 8000000
namespace Mine
local macro_rules | `(tactic| walk_at "my_enter") => `(tactic| (refine wpAny_call ?_; k_dflt (refine' code_defG ?k1 ?k2 ?k3 (News.nil) ?k5 ?kA ?kF ?kK ?k6 ?k7 ?k8 ?k9 ?kB ?_ ?c2 ?c3 ?c4 ?c5; (case kA => exact rfl); (case kF => exact rfl); (case kK => assumption); (case k1 => k_asm); (case k2 => k_asm); (case k3 => k_asm); (case k5 => k_asm); (case k6 => k_is); (case k7 => k_is); (case k8 => exact room_d (by assumption)); (case k9 => exact BindsTo.of_eq rfl); (case c5 => decide); (case kB => exact locs rfl); (case c2 => exact rfl); (case c3 => exact rfl); (case c4 => exact rfl); k_whole; intro g' L' h' FG' F' N' B' X' T' GS; replace GS := gsub_all GS; (try dsimp only); (try k_fold))))
local macro_rules | `(tactic| walk_at "binaryOp Pow int int") => `(tactic| ((with_reducible refine pow_int_small ?kb1 ?kb2 ?kb3 ?_); (case kb1 => first | decide | omega); (case kb2 => first | decide | omega); (case kb3 => decide)))
local macro_rules | `(tactic| walk_at "binaryOp FloorDiv int int") => `(tactic| ((with_reducible refine floordiv_int ?kbe ?_ (Or.inl (PyProof.noPylong_of_log2 ?kbp))); (case kbe => decide); (case kbp => decide +kernel)))
local macro_rules | `(tactic| walk_at "my_use") => `(tactic| ((case k1 => k_asm); (case k2 => k_asm); (case k3 => k_asm); (case k4 => k_asm); (case k5 => exact rfl); (case k6 => (simp only [depth_under_make, depth_under_kw, depth_in1, depth_deeper, depth_caller]; omega)); (case k7 => (simp only [units_in1, units_deeper, Around.mark_units, units_caller]; omega))))
local macro_rules | `(tactic| walk_at "execs cons") => `(tactic| (refine wpAny_execs_cons ?_; (try dsimp only)))
def wrapT (c : Str) (n : Int) : Str := [c, t "'" ++ c ++ t "'", t "\"" ++ c ++ t "\"", t "\\" ++ c].getD (n.fmod 4).toNat Str.empty
def dressT (f : Str) (d : Int) : Str := (match f.cps.toList with | [a] => t "" ++ wrapT ⟨#[a]⟩ (d.fdiv 1) | [a, b] => t "" ++ wrapT ⟨#[a]⟩ (d.fdiv 1) ++ wrapT ⟨#[b]⟩ (d.fdiv 4) | _ => t "") ++ Txt.item (t " \t\n") ((d.fdiv 16).fmod 3)
theorem prime_shape (x : Int) : (∃ a, primeT x = ⟨#[a]⟩) ∨ ∃ a b, primeT x = ⟨#[a, b]⟩ := by
  rcases prime_cases x with e | e | e | e | e | e <;> rw [e]
  · exact Or.inl ⟨50, by decide +kernel⟩
  · exact Or.inl ⟨51, by decide +kernel⟩
  · exact Or.inl ⟨53, by decide +kernel⟩
  · exact Or.inl ⟨55, by decide +kernel⟩
  · exact Or.inr ⟨49, 49, by decide +kernel⟩
  · exact Or.inr ⟨49, 51, by decide +kernel⟩
theorem item_at {prog : Program} {w : World} {A : Around} {E : Value → Shared → Prop} {s : Shared} {value slice : Expr} {x : Str} {t u : Tok} {Q : Value → Shared → Prop} {i : Int} {n cp : Nat} (hi : i = (n : Int)) (hn : n < 9) (hx : x.cps.toList[n]? = some cp) (h : ∀ t' k, Q (.str ⟨#[cp]⟩ t') { s with toks := k })
    (hs : subscripted slice false (.str x t) (.int i u) = operate [.str x t, .int i u] (getItem (.str x t) (.int i u)) := by with_unfolding_all rfl)
    (ht : ∀ r, letTemporaryGo value (.str x t) r = pure () := by intro _; with_unfolding_all rfl) :
    wpAny (model prog w) A (subscriptTail value slice (.str x t) (.int i u)) Q E s := by
  subst hi
  have hl : n < x.cps.toList.length := (List.getElem?_eq_some_iff.mp hx).1
  have hl' : n < x.length := by simpa [Str.length] using hl
  refine item_str (fitsSsize_of (N := 9223372036854775808) (by omega) (by omega) (Int.le_refl _)) (by omega) (by omega) (fun _ => ?_) hs ht
  have e : Txt.item x (n : Int) = ⟨#[cp]⟩ := by
    have h2 : x.cps[n]? = some cp := by rw [← hx, Array.getElem?_toList]
    have h3 : seqIndex? (n : Int) x.length = some n := seqIndex_of (by omega) (by omega)
    unfold Txt.item
    simp only [Txt.charAt, h3, Option.bind_some, h2, Option.getD_some]
  rw [e]
  exact h _ _
theorem item_wrap {prog : Program} {w : World} {A : Around} {E : Value → Shared → Prop} {s : Shared} {value slice : Expr} {l : Addr} {c : Str} {t1 t2 t3 t4 u : Tok} {n : Int} {Q : Value → Shared → Prop} (hc : c.length = 1)
    (hl : s.heap.IsList l [.str c t1, .str (t "'" ++ c ++ t "'") t2, .str (t "\"" ++ c ++ t "\"") t3, .str (t "\\" ++ c) t4].toArray) (h : ∀ y t', y = wrapT c n → y.length ≤ 3 → Q (.str y t') s)
    (hs : subscripted slice false (.ref l) (.int (n.fmod 4) u) = operate [.ref l, .int (n.fmod 4) u] (getItem (.ref l) (.int (n.fmod 4) u)) := by with_unfolding_all rfl) :
    wpAny (model prog w) A (subscriptTail value slice (.ref l) (.int (n.fmod 4) u)) Q E s := by
  have h0 : 0 ≤ n.fmod 4 := Int.fmod_nonneg_of_pos n (by decide)
  have h1 : n.fmod 4 < 4 := Int.fmod_lt_of_pos n (by decide)
  refine KTb.item_list hl (ws := [c, t "'" ++ c ++ t "'", t "\"" ++ c ++ t "\"", t "\\" ++ c]) (by repeat constructor) h0 h1 (by omega) (fun t' _ => h _ t' rfl ?_) hs
  apply KOpn.len_getD
  have e1 : (t "'").length = 1 := rfl
  have e2 : (t "\"").length = 1 := rfl
  have e3 : (t "\\").length = 1 := rfl
  have e4 : Str.empty.length = 0 := rfl
  simp only [List.all_cons, List.all_nil, Str.length_append, hc, e1, e2, e3, e4]
  decide
local macro_rules | `(tactic| walk_at "subscriptTail Name Name str int") => `(tactic| (k_dflt (first | (refine item_at (n := 0) rfl (by decide) rfl ?_; intro _ _) | (refine item_at (n := 1) rfl (by decide) rfl ?_; intro _ _))))
local macro_rules | `(tactic| walk_at "subscriptTail") => `(tactic| (k_here; (with_reducible show wpAny _ _ (subscriptTail _ _ (Value.ref _) (Value.int _ _)) _ _ _); k_dflt (refine' item_wrap ?kc ?ktbl ?_; (case ktbl => exact News.isList (by k_asm) (by k_mem)); (case kc => exact rfl); intro _ _ _ _)))
local macro_rules | `(tactic| walk_at "call builtin:len") => `(tactic| (k_here; k_dflt (refine len_writK 2 rfl (by decide) ?_)))
local macro_rules | `(tactic| walk_at "call builtin:len") => `(tactic| (k_here; k_dflt (refine len_writK 1 rfl (by decide) ?_)))
theorem add_any {prog : Program} {w : World} {A : Around} {E : Value → Shared → Prop} {s : Shared} {x y : Str} {t u : Tok} {Q : Value → Shared → Prop} (hsz : x.length + y.length ≤ 1000000) (h : ∀ t' k, Q (.str (x ++ y) t') { s with toks := k }) : wpAny (model prog w) A (binaryOp .Add (.str x t) (.str y u)) Q E s :=
  KXadd.add (K := x.length) (L := y.length) (Nat.le_refl _) (Nat.le_refl _) (by omega) (fun t' k _ => h t' k)
theorem len_of1 (c : Nat) : Str.length ⟨#[c]⟩ = 1 := rfl
theorem l0 : (Str.ofString "").length = 0 := rfl
theorem l1 : (Str.ofString "'").length = 1 := rfl
theorem l2 : (Str.ofString "\"").length = 1 := rfl
theorem l3 : (Str.ofString "\\").length = 1 := rfl
theorem len_itm (x : Str) (i : Int) : (Txt.item x i).length = 1 := rfl
local macro_rules | `(tactic| walk_at "binaryOp Add str str") => `(tactic| (k_here; k_dflt (refine add_any ?hsz ?_; (case hsz => ((simp only [Str.length_append, len_of1, len_itm, l0, l1, l2, l3]); (try omega))); intro _ _)))
theorem c_dressed (w : World) (x : Int) (t1 : Tok) : Con w 4 811 [.int x t1] (fun _ => True) (fun _ _ v => ∃ tk, v = .str (dressT (primeT x) (x.fdiv 42)) tk) := by
  dsimp only [Con]
  k_fill
  intros
  rename_i hret
  walk_at "my_enter"
  refine wp_noexc ?_
  k_with "table" => skip
  k_steps
  k_dflt (refine' con_use (c_prime _ _ _) ?k1 ?k2 ?k3 ?k4 ?k5 ?k6 ?k7 ?k8 ?_)
  walk_at "my_use"
  (case k8 => trivial)
  intro v9 h9 tk9 X9 P9; obtain ⟨t9, rfl⟩ := P9; dsimp only at X9 ⊢; (have F9 := Fr.keeps (by assumption) X9); (have N9 := News.grown (by assumption) X9); k_sweep
  rcases prime_shape x with ⟨a, e⟩ | ⟨a, b, e⟩ <;> (have ee := congrArg (dressT · (x.fdiv 42)) e) <;> rw [e]
  all_goals
    k_steps
    refine' hret _ _ _ (ext2 ?G ?F) ?P; (case G => assumption); (case F => assumption); (case P => (subst_vars; exact ⟨_, congrArg (Value.str · _) ee.symm⟩))
end Mine
end
section
open PySem.Spec PySem.Calls
set_option maxRecDepth 100000
namespace Mine
theorem truthy_bool {M : Model} {A : Around} {E : Value → Shared → Prop} {s : Shared} {x : Bool} {Q : Bool → Shared → Prop} (h : Q x s) : wpAny M A (truthy (.bool x)) Q E s := wpAny_pure h
theorem ints_at {vs : List Value} {ns : List Int} (h : IntsAre vs ns) : ∀ (i : Nat) (v : Value), vs[i]? = some v → ∃ x t, v = .int x t ∧ ns[i]? = some x := by
  induction h with
  | nil => intro i v e; simp at e
  | cons x t _ ih =>
    intro i v e
    cases i with
    | zero => exact ⟨x, t, by simpa using e.symm, rfl⟩
    | succ i => exact ih i v (by simpa using e)
section
variable {w : World} {b : Heap} {A₀ : Around} {mean : ExcName → Option Value} {mg mb : Str → Option Value} {dp un : Nat} {gd : Option (List Code)} {cn : Str} {cs : Scope} {a : Addr} {ccd : Value} {cl : List (Str × Addr)} {L : Addr} {m : Str → Option Value} {s : Shared} {E : Value → Shared → Prop}
theorem inner {Q : Value → Shared → Prop} (cx : Cx w b A₀ mean mg mb dp un cs) {f : Str} {fa : Addr} {g : Int → Str} (hcon : ∀ x t, Con w 4 fa [.int x t] (fun _ => True) (fun _ _ v => ∃ tk, v = .str (g x) tk)) (hfa : nsIn (K w.params) mainGlobals f = some (some (.ref fa))) (hka : keepIn (K w.params) (.ref fa) = true) (hfd : (f == ("__debug__" : Str)) = false)
    (hsa : nsIn (K w.params) mainGlobals (t "_law_stands") = some (some (.ref 804))) (hks : keepIn (K w.params) (.ref 804) = true)
    {oenv : Env} {iscope : Scope} {c c2 Nl : Addr} {p1 p2 p3 p4 p5 p6 p7 p8 p9 p10 : Pos} (hclos : closureFor iscope oenv = pure [(t "place", c2)]) (hcell : ∀ y ∈ iscope.names, y.2 ≠ .cell) (hkind : iscope.kind = .function) (hnames : ∀ y ∈ iscope.names, y.2 = .local → iscope.names.lookup y.1 = some .local) (hx : iscope.names.lookup (t "x") = some .local)
    (r1 : (relabel iscope oenv).names.lookup (t "x") = some .local) (r2 : (relabel iscope oenv).names.lookup f = some .globalImplicit) (r3 : (relabel iscope oenv).names.lookup (t "_law_stands") = some .globalImplicit) (r4 : (relabel iscope oenv).names.lookup (t "place") = some .cell) (hg : oenv.globals = mainGlobals)
    (kf : oenv.scope.kind = .function) (kn : oenv.kindOf (t "numbers") = some .cell) (hcn : oenv.cells.lookup (t "numbers") = some c)
    (F : Fr b L s.heap m) {ns : List Int} {vs : List Value} (hvs : IntsAre vs ns) {oc oc2 ol : Obj} {p : Int} {tp : Tok} {k : Nat} (at0 : At [L] s.heap [(Nl, ol), (c, oc), (c2, oc2)]) (hoc : oc.data = .cell (some (.ref Nl))) (hoc2 : oc2.data = .cell (some (.int p tp))) (hp : 0 ≤ p ∧ p < 3) (hlc : ol.cls = .type "list") (hld : ol.data = .seq vs.toArray k) (hz : vs.length ≤ 1000)
    (hQ : ∀ D h tk es, Fr b L h m → HBut [L] s.heap h → h.get? D = some (LCg.lst (sv es)) → s.heap.get? D = none → es.map (·.1) = (ns.filter (stands · p)).map g → Q (.ref D) { s with heap := h, toks := tk })
    (hs : ∀ x, foldedSetIterable (.Name (t "numbers") p5) oenv x = pure x) :
    wpAny (model PySem.Challenge.rw_ny0363_01.row.prog w) (ktrTop dp un gd cn cs L a ccd cl []) (eval (.ListComp (.Call (.Name f p1) [.Name (t "x") p2] [] p3) [⟨.Name (t "x") p4, .Name (t "numbers") p5, [.Call (.Name (t "_law_stands") p6) [.Name (t "x") p7, .Name (t "place") p8] [] p9], 0⟩] iscope p10) oenv) Q E s := by
  refine compA_expr (J := fun i ys nw => nw = [] ∧ ∃ es, ys = sv es ∧ es.map (·.1) = ((ns.take i).filter (stands · p)).map g) (cx := [(Nl, ol), (c, oc), (c2, oc2)]) rfl hclos hcell hkind hnames hx F at0 (.head _) hlc hld (by rw [List.size_toArray, sizeLine_eq]; omega) ?ev ⟨rfl, [], rfl, rfl⟩ ?turn ?fin hs
  case ev =>
    intro Q' hQ'
    exact wpAny_Name (wpAny_loadName_cell kf kn hcn ⟨oc, (at0 _ (.tail _ (.head _))).1, hoc⟩ hQ') (by decide)
  case fin =>
    rintro D h tk ys nw F' at' k' fr ⟨rfl, es, rfl, he⟩
    refine hQ D h tk es F' k' (at' _ (.head _)).1 (fr _ (.head _)) ?_
    rw [he, List.size_toArray, hvs.length, List.take_length]
  case turn =>
    rintro C i v ys nw h tk m₂ E hi ⟨rfl, es, rfl, he⟩ F' hn hv at' k'
    obtain ⟨x, tx, rfl, hxi⟩ := ints_at hvs i v (by simpa using hi)
    have ht : ns.take (i + 1) = ns.take i ++ [x] := by rw [List.take_add_one, hxi]; rfl
    refine wpAny_tests_one (wpAny_isTrue_value ?_)
    refine ev_call2 (KF := K w.params) cx.X hks (fun Q' hQ' => LCgL.ld_global F' cx.X cx.T hsa hQ' hg hkind r3 (by decide)) ?_
    refine ldVarK (s := { s with heap := h, toks := tk }) hn hv ?_ hkind r1 (by decide)
    refine wpAny_Name (wpAny_loadName_cell (c := c2) hkind r4 rfl ⟨oc2, (at' _ (.tail _ (.tail _ (.head _)))).1, hoc2⟩ ⟨F'.keep, ?_⟩) (by decide)
    refine law_con cx (c_stands w x tx p tp hp) (by decide) F' trivial fun v1 h1 tk1 X1 F1 P1 => ?_
    subst P1
    refine truthy_bool ?_
    cases hst : stands x p with
    | false =>
      simp only [Bool.false_eq_true, if_false]
      exact ⟨h1, tk1, [], rfl, F1, hext_but X1, (fun _ z => nomatch z), rfl, es, rfl, by rw [he, ht, List.filter_append]; simp [hst]⟩
    | true =>
      simp only [if_true]
      refine ev_call1 (KF := K w.params) cx.X hka (fun Q' hQ' => LCgL.ld_global F1 cx.X cx.T hfa hQ' hg hkind r2 hfd) ?_
      refine ldVarK (s := { s with heap := h1, toks := tk1 }) (hn.keeps X1) hv ⟨F1.keep, ?_⟩ hkind r1 (by decide)
      refine law_con cx (hcon x tx) (by decide) F1 trivial fun v2 h2 tk2 X2 F2 P2 => ?_
      obtain ⟨t2, rfl⟩ := P2
      refine ⟨h2, tk2, [], rfl, F2, hext_but fun a o e => X2 _ _ (X1 _ _ e), (fun _ z => nomatch z), rfl, es ++ [(g x, t2)], by rw [sv_append]; rfl, by rw [List.map_append, he, ht, List.filter_append]; simp [hst]⟩
end
end Mine
end
section
open PySem.Spec PySem.Calls
set_option maxRecDepth 100000
namespace Mine
def fnBody : Stmt → List Stmt
  | .FunctionDef _ _ body _ _ _ _ _ _ _ => body
  | _ => []
def fnScope : Stmt → Scope
  | .FunctionDef _ _ _ _ _ _ scope _ _ _ => scope
  | _ => default
abbrev lawB : List Stmt := fnBody (st 36)
abbrev lawS : Scope := fnScope (st 36)
abbrev lw (i : Nat) : Stmt := nth lawB i
theorem con_mono {w : World} {d d' : Nat} (hd : d ≤ d') {f : Addr} {vs : List Value} {Pre : Heap → Prop} {Post : Heap → Heap → Value → Prop} (C : Con w d f vs Pre Post) : Con w d' f vs Pre Post :=
  fun mean mg mb dp un gd cn cs a ccd cl outer A₀ base h₀ L m s Q E B F X T hk h1 h2 => C mean mg mb dp un gd cn cs a ccd cl outer A₀ base h₀ L m s Q E B F X T hk (by omega) (by omega)
section
variable {w : World} {b : Heap} {A₀ : Around} {mean : ExcName → Option Value} {mg mb : Str → Option Value} {dp un : Nat} {gd : Option (List Code)} {cn : Str} {a : Addr} {ccd : Value} {L : Addr} {m : Str → Option Value} {s : Shared} {E : Value → Shared → Prop}
/-- range(n) -/
theorem ev_range {cs : Scope} {env : Env} {p1 p2 p3 : Pos} {k : Nat} {n : Int} {A : Around} {Q : Value → Shared → Prop} (cx : Cx w b A₀ mean mg mb dp un cs) (F : Fr b L s.heap m) (hg : env.globals = mainGlobals) (hb : env.builtins = builtinsNs) (hk : env.scope.kind = .function) (hx : env.kindOf (t "range") = some .globalImplicit) (hr : nsIn (K w.params) mainGlobals (t "range") = some none)
    (h : ∀ r h₁ tk₁ t u v', HExt s.heap h₁ → Fr b L h₁ m → IsRange h₁ r 0 n 1 t u v' → Q (.ref r) { s with heap := h₁, toks := tk₁ }) :
    wpAny (model PySem.Challenge.rw_ny0363_01.row.prog w) A (eval (.Call (.Name (t "range") p1) [.Constant (.int n) k p2] [] p3) env) Q E s := by
  refine Call_ (Name_function_global hk hx (loadGlobal_builtin (env := env) (show s.heap.Ns env.globals mg from hg ▸ (cx.T.keeps F.keep).g) (mg_none_of cx.X cx.T.g hr) (show s.heap.Ns env.builtins mb from hb ▸ (cx.T.keeps F.keep).b) ((cx.T.builtins _ (by decide)).trans PyProof.Rows.Boot.range) ?_) (by decide))
  refine PyProof.Rows.callWith_type1 (spliced_more (wpAny_Constant_int (spliced_none (call_range_1 ?_))))
  exact h _ _ _ _ _ _ (fun b o e => Heap.get?_push_of_some _ e) (F.push _) (IsRange.new _ _ _ _ _ _ _)
abbrev strL (q : Addr × List (Str × Tok)) : Addr × Obj := (q.1, LCg.lst (sv q.2))
/-- the texts of the numbers that stand in line j -/
def rowT (g : Int → Str) (ns : List Int) (j : Nat) : List Str := (ns.filter (stands · (j : Int))).map g
set_option maxHeartbeats 1000000 in
theorem s_rows (cx : Cx w b A₀ mean mg mb dp un lawS) {c Nl : Addr} (F : Fr b L s.heap m) {ns : List Int} {vs : List Value} (hvs : IntsAre vs ns) {oc ol : Obj} {k : Nat} (at0 : At [L] s.heap [(Nl, ol), (c, oc)]) (hoc : oc.data = .cell (some (.ref Nl))) (hlc : ol.cls = .type "list") (hld : ol.data = .seq vs.toArray k) (hz : vs.length ≤ 1000) {Q : Flow → Shared → Prop}
    (hQ : ∀ D h tk q0 q1 q2, Fr b L h (fun z => if z = t "rows" then some (.ref D) else m z) → At [L] h [(D, LCg.lst [.ref q0.1, .ref q1.1, .ref q2.1]), strL q2, strL q1, strL q0, (Nl, ol), (c, oc)] → q0.2.map (·.1) = rowT primeT ns 0 → q1.2.map (·.1) = rowT primeT ns 1 → q2.2.map (·.1) = rowT primeT ns 2 → Q .next { s with heap := h, toks := tk }) :
    wpAny (model PySem.Challenge.rw_ny0363_01.row.prog w) (ktrTop dp un gd cn lawS L a ccd [(t "numbers", c)] []) (exec (lw 1) (envX cn lawS L a ccd [(t "numbers", c)])) Q E s := by
  with_unfolding_all refine compB_assign (N := 3) (J := fun i ys nw => ∃ R : List (Addr × List (Str × Tok)), R.length = i ∧ ys = R.map (fun q => .ref q.1) ∧ nw = (R.map strL).reverse ∧ ∀ (j : Nat) q, R[j]? = some q → q.2.map (·.1) = rowT primeT ns j) (cx := [(Nl, ol), (c, oc)]) (m := m) (b := b) (cl := [(t "numbers", c)]) rfl rfl rfl rfl (fun _ => rfl) (fun _ => rfl) rfl (by decide) rfl rfl rfl at0 (by decide) (by decide) (by decide) ?ev ⟨[], rfl, rfl, rfl, fun j q e => by simp at e⟩ ?turn ?fin
  case ev =>
    refine ev_range cx F rfl rfl rfl rfl (by kernel_rfl) ?_
    intro r h₁ tk₁ t u v' X1 F1 hr
    exact ⟨r, h₁, tk₁, t, u, v', rfl, rfl, X1, F1, hr⟩
  case turn =>
    rintro C c2 i tt ys nw h tk E hi ⟨R, hR, rfl, rfl, hr⟩ F' ⟨oc2, ho2, hd2⟩ hcL at' k'
    have at2 : At [L] h [(Nl, ol), (c, oc), (c2, oc2)] := fun p hp => by
      rcases List.mem_cons.mp hp with rfl | hp
      · exact at' _ (List.mem_append_right _ (.head _))
      rcases List.mem_cons.mp hp with rfl | hp
      · exact at' _ (List.mem_append_right _ (.tail _ (.head _)))
      · rw [List.mem_singleton.mp hp]; exact ⟨ho2, by simpa using hcL⟩
    refine inner (s := { s with heap := h, toks := tk }) (c := c) (c2 := c2) cx (g := primeT) (fun x t1 => ?_) (fa := 797) (by kernel_rfl) (by kernel_rfl) (by decide) (by kernel_rfl) (by kernel_rfl) rfl (by decide) rfl (by decide) rfl rfl rfl rfl rfl rfl rfl rfl rfl F' hvs at2 hoc hd2 (by omega) hlc hld hz ?_ (fun _ => rfl)
    · exact con_mono (by decide) (c_prime w x t1)
    · intro D h' tk' es F'' k'' hD hf he
      refine ⟨h', tk', [strL (D, es)], rfl, F'', k'', fun p hp => by rw [List.mem_singleton.mp hp]; exact ⟨hD, hf⟩, R ++ [(D, es)], by simp [hR], by simp, by simp, fun j q e => ?_⟩
      rw [List.getElem?_append] at e
      split at e
      · exact hr j q e
      · rename_i hj
        have : j - R.length = 0 := by
          by_cases z : j - R.length = 0
          · exact z
          · rw [List.getElem?_eq_none (by simp; omega)] at e; cases e
        rw [this] at e
        cases e
        have : j = i := by omega
        rw [this]; exact he
  case fin =>
    rintro D h tk ys nw F' at' ⟨R, hR, rfl, rfl, hr⟩
    match R, hR with
    | [q0, q1, q2], _ => exact hQ D h tk q0 q1 q2 F' at' (hr 0 q0 rfl) (hr 1 q1 rfl) (hr 2 q2 rfl)
def dressX (x : Int) : Str := dressT (primeT x) (x.fdiv 42)
theorem wrap_len (k : Nat) (n : Int) : (wrapT ⟨#[k]⟩ n).length ≤ 3 := by
  unfold wrapT
  apply KOpn.len_getD
  rfl
theorem dress_len (x : Int) : (dressX x).length ≤ 7 := by
  unfold dressX
  have e0 : (t "").length = 0 := rfl
  rcases prime_shape x with ⟨p, e⟩ | ⟨p, q, e⟩ <;> rw [e]
  · show (t "" ++ wrapT ⟨#[p]⟩ _ ++ Txt.item _ _).length ≤ 7
    have := wrap_len p ((x.fdiv 42).fdiv 1)
    simp only [Str.length_append, len_itm, e0]
    omega
  · show (t "" ++ wrapT ⟨#[p]⟩ _ ++ wrapT ⟨#[q]⟩ _ ++ Txt.item _ _).length ≤ 7
    have h1 := wrap_len p ((x.fdiv 42).fdiv 1)
    have h2 := wrap_len q ((x.fdiv 42).fdiv 4)
    simp only [Str.length_append, len_itm, e0]
    omega
theorem sum_le {l : List Str} {k : Nat} (h : ∀ y ∈ l, y.length ≤ k) : (l.map (·.length)).sum ≤ k * l.length := by
  induction l with
  | nil => simp
  | cons y l ih =>
    have h1 := h y (.head _)
    have h2 := ih fun z hz => h z (.tail _ hz)
    simp only [List.map_cons, List.sum_cons, List.length_cons, Nat.mul_succ]
    omega
theorem row_len (g : Int → Str) (ns : List Int) (j : Nat) : (rowT g ns j).length ≤ ns.length := by
  unfold rowT; rw [List.length_map]; exact List.length_filter_le _ _
theorem row_dress (ns : List Int) (j : Nat) : ((rowT dressX ns j).map (·.length)).sum ≤ 7 * ns.length := by
  refine Nat.le_trans (sum_le (k := 7) fun y hy => ?_) (Nat.mul_le_mul_left _ (row_len _ _ _))
  obtain ⟨x, _, rfl⟩ := List.mem_map.mp hy
  exact dress_len x
def lineT (ns : List Int) (j : Nat) : Str := Txt.join (t "") (rowT dressX ns j)
set_option maxHeartbeats 1000000 in
theorem s_lines (cx : Cx w b A₀ mean mg mb dp un lawS) {c Nl : Addr} (F : Fr b L s.heap m) {ns : List Int} {vs : List Value} (hvs : IntsAre vs ns) {oc ol : Obj} {k : Nat} {ctx : List (Addr × Obj)} (at0 : At [L] s.heap ((Nl, ol) :: (c, oc) :: ctx)) (hoc : oc.data = .cell (some (.ref Nl))) (hlc : ol.cls = .type "list") (hld : ol.data = .seq vs.toArray k) (hz : vs.length ≤ 100) {Q : Flow → Shared → Prop}
    (hQ : ∀ D h tk l0 l1 l2, Fr b L h (fun z => if z = t "lines" then some (.ref D) else m z) → At [L] h ((D, LCg.lst (sv [l0, l1, l2])) :: (Nl, ol) :: (c, oc) :: ctx) → l0.1 = lineT ns 0 → l1.1 = lineT ns 1 → l2.1 = lineT ns 2 → Q .next { s with heap := h, toks := tk }) :
    wpAny (model PySem.Challenge.rw_ny0363_01.row.prog w) (ktrTop dp un gd cn lawS L a ccd [(t "numbers", c)] []) (exec (lw 2) (envX cn lawS L a ccd [(t "numbers", c)])) Q E s := by
  with_unfolding_all refine compB_assign (N := 3) (J := fun i ys nw => nw = [] ∧ ∃ T : List (Str × Tok), T.length = i ∧ ys = sv T ∧ ∀ (j : Nat) q, T[j]? = some q → q.1 = lineT ns j) (cx := (Nl, ol) :: (c, oc) :: ctx) (m := m) (b := b) (cl := [(t "numbers", c)]) rfl rfl rfl rfl (fun _ => rfl) (fun _ => rfl) rfl (by decide) rfl rfl rfl at0 (by decide) (by decide) (by decide) ?ev ⟨rfl, [], rfl, rfl, fun j q e => by simp at e⟩ ?turn ?fin
  case ev =>
    refine ev_range cx F rfl rfl rfl rfl (by kernel_rfl) ?_
    intro r h₁ tk₁ t u v' X1 F1 hr
    exact ⟨r, h₁, tk₁, t, u, v', rfl, rfl, X1, F1, hr⟩
  case turn =>
    rintro C c2 i tt ys nw h tk E hi ⟨rfl, R, hR, rfl, hr⟩ F' ⟨oc2, ho2, hd2⟩ hcL at' k'
    have at2 : At [L] h [(Nl, ol), (c, oc), (c2, oc2)] := fun p hp => by
      rcases List.mem_cons.mp hp with rfl | hp
      · exact at' _ (.head _)
      rcases List.mem_cons.mp hp with rfl | hp
      · exact at' _ (.tail _ (.head _))
      · rw [List.mem_singleton.mp hp]; exact ⟨ho2, by simpa using hcL⟩
    refine MethodCall_ (wpAny_Constant_str (GM.join (callWith_method1 (spliced_more ?_))))
    refine inner (s := { s with heap := h, toks := tk + 1 }) (c := c) (c2 := c2) cx (g := dressX) (fun x t1 => c_dressed w x t1) (fa := 811) (by kernel_rfl) (by kernel_rfl) (by decide) (by kernel_rfl) (by kernel_rfl) rfl (by decide) rfl (by decide) rfl rfl rfl rfl rfl rfl rfl rfl rfl F' hvs at2 hoc hd2 (by omega) hlc hld (by omega) ?_ (fun _ => rfl)
    intro D h' tk' es F'' k'' hD hf he
    refine spliced_none ?_
    have hy : es.map (·.1) = rowT dressX ns i := he
    refine join_listW (ys := rowT dressX ns i) ⟨_, hD, rfl, _, rfl⟩ (by rw [← hy]; exact of_sv es) (by decide) ?_ ?_
    · have h1 := row_dress ns i
      have h2 := row_len dressX ns i
      have h3 := hvs.length
      omega
    · intro t' k1
      refine ⟨h', k1, [], rfl, F'', k'', (fun _ z => nomatch z), rfl, R ++ [(lineT ns i, t')], by simp [hR], by rw [sv_append]; rfl, fun j q e => ?_⟩
      rw [List.getElem?_append] at e
      split at e
      · exact hr j q e
      · rename_i hj
        have : j - R.length = 0 := by
          by_cases z : j - R.length = 0
          · exact z
          · rw [List.getElem?_eq_none (by simp; omega)] at e; cases e
        rw [this] at e
        cases e
        have : j = i := by omega
        rw [this]
  case fin =>
    rintro D h tk ys nw F' at' ⟨rfl, R, hR, rfl, hr⟩
    match R, hR with
    | [q0, q1, q2], _ => exact hQ D h tk q0 q1 q2 F' at' (hr 0 q0 rfl) (hr 1 q1 rfl) (hr 2 q2 rfl)
end
end Mine
end
section
open PySem.Calls
set_option maxRecDepth 100000
set_option maxHeartbeats 8000000
namespace Mine
abbrev M (w : World) : Model := model PySem.Challenge.rw_ny0363_01.row.prog w
theorem sio_made {w : World} {h : Heap} (X : (K w.params).In h) : Looks (M w) h (Bind.madeBy (.ref 594)) none := Looks.of_peek X (by kernel_rfl)
theorem sio_here {w : World} {h : Heap} (X : (K w.params).In h) : Looks (M w) h (Bind.madeHere "object.__new__" (.ref 594)) () := Looks.of_peek X (by kernel_rfl)
theorem sio_self {w : World} {h : Heap} (X : (K w.params).In h) : Looks (M w) h (isSubtype (.ref 594) (.ref 594)) true := Looks.of_peek X (by kernel_rfl)
theorem sio_call {w : World} {h : Heap} (X : (K w.params).In h) : Looks (M w) h (specialOf (.ref 594) "__call__") (some (.builtin "type.__call__")) := Looks.of_peek X (by kernel_rfl)
theorem sio_typ {w : World} {h : Heap} (X : (K w.params).In h) : Looks (M w) h (isInstance (.ref 594) (.type "type")) true := Looks.of_peek X (by kernel_rfl)
theorem sio_init {w : World} {h : Heap} (X : (K w.params).In h) : Looks (M w) h (typeLookup (.ref 594) "__init__") (some (.ref 364)) := Looks.of_peek X (by kernel_rfl)
theorem sio_bind {w : World} {h : Heap} (X : (K w.params).In h) (self : Value) : Looks (M w) h (bindSpecial (.ref 364) self) (.ref 364, [self]) := bind_fn X self (by kernel_rfl)
theorem sio_obj (P : Params) : ∃ cd sl, (K P).lookup 594 = some ⟨.type "type", none, .cls cd, sl⟩ ∧ cd.abstract = false ∧ cd.hasDel = false ∧ cd.mro = [.ref 594, .ref 117, .ref 90, .type "object"] := ⟨_, _, rfl, rfl, rfl, rfl⟩
section
variable {w : World} {A : Around} {R : Result → Shared → Prop} {E : Value → Shared → Prop} {s : Shared} {h₀ : Heap} {L : Addr} {m : Str → Option Value} {news : List (Addr × Obj)}
/-- object.__new__(StringIO) -/
theorem sio_objnew (F : Fr h₀ L s.heap m) (X₀ : (K w.params).In h₀) (N : News h₀ L s.heap news)
    (hq : ∀ x dx h', Fr h₀ L h' m → News h₀ L h' ((x, instObj 594 dx) :: (dx, dictOf [] 0) :: news) → (∀ p ∈ news, p.1 < dx) → dx < x → R (.ok (.ret (.ref x))) { s with heap := h' }) :
    codeAny (M w) A (.call (.builtin "object.__new__") ⟨[.ref 594], []⟩) R s := by
  obtain ⟨h, g, d, t, os⟩ := s
  dsimp only at F N hq
  have X := X₀.keeps F.keep
  obtain ⟨cd, sl, hC, e1, e2, e4⟩ := sio_obj w.params
  replace hC := X _ _ hC
  have here := sio_here X
  have typ := sio_typ X
  have ist : Looks (M w) h (isType (.ref 594)) true := Looks.of_peek X (by kernel_rfl)
  have chk : Looks (M w) h (checkBuiltinCall "object.__new__" ⟨[.ref 594], []⟩) () := Looks.of_peek X (by kernel_rfl)
  have Fo := PySem.F.objNew
  refine codeAny_call_builtin_code (Code.quiet_builtin _ Fo.quiet) (chk.here ?_)
  refine codeAny_builtin Fo.entry ?_
  unfold Builtin.«object.__new__»
  have N' := (N.push F emptyDict).push (F.push _) (instObj 594 h.objs.size)
  rw [Heap.size_push] at N'
  have q := hq _ h.objs.size _ ((F.push _).push _) N' (fun p hp => Heap.lt_size (N p hp).1) (Nat.lt_succ_self _)
  have fin : ∀ A', wpAny (M w) A' (do
      let d ← if typeHasDict (.ref 594) then some <$> alloc { cls := .type "dict", data := .dict #[] } else pure none
      ret (← newObj (.ref 594) .plain d)) (fun fin s' => match fin with | .done f => R (.ok f) s' | .again c' => c'.quiet = true ∧ codeAny (M w) A c' R s') (fun e s' => R (.error e) s') ⟨h, g, d, t, os⟩ := by
    intro A'
    show wpAny _ _ ((alloc emptyDict >>= fun x => pure (some x)) >>= _) _ _ _
    refine wpAny_bind (wpAny_bind (wpAny_alloc (wpAny_pure (wpAny_bind ?_))))
    show wpAny _ _ (newObjAsIs _ _ _) _ _ _
    unfold newObjAsIs classHasDel
    refine wpAny_bind (wpAny_alloc (wpAny_bind (wpAny_bind (wpAny_load (Heap.get?_push_of_some _ (Heap.get?_push_of_some _ hC)) (wpAny_pure ?_)))))
    rw [e2]
    refine wpAny_pure (wpAny_pure ?_)
    show R _ _
    rw [Heap.size_push]
    exact q
  repeat (first | simp only [e1, Bool.false_eq_true, if_false] | exact fin _ | lk)
theorem sio_make {x : Str} {tx : Tok} (F : Fr h₀ L s.heap m) (X₀ : (K w.params).In h₀)
    (hq : wpAny (M w) (A.under (.builtin "type.__call__" ⟨[.ref 594, .str x tx], []⟩)) (call (.ref 87) [.ref 594, .str x tx])
      (fun v s' => ∃ io dx, v = .ref io ∧ HExt h₀ s'.heap ∧ s'.heap.get? io = some (instObj 594 dx) ∧ codeAny (M w) (A.under (.builtin "type.__call__" ⟨[.ref 594, .str x tx], []⟩)) (.call (.ref 364) ⟨[.ref io, .str x tx], []⟩) (InitBack io R) s')
      (fun e s' => R (.error e) s') { s with toks := s.toks + 1 }) :
    codeAny (M w) A (.call (.ref 594) ⟨[.str x tx], []⟩) R s := by
  obtain ⟨h, g, d, t, os⟩ := s
  dsimp only at F hq
  have X := X₀.keeps F.keep
  obtain ⟨cd, sl, hC, e1, e2, e4⟩ := sio_obj w.params
  replace hC := X _ _ hC
  have call' := sio_call X
  have typ := sio_typ X
  have made := sio_made X
  refine codeAny_of_tree ?_
  show wpAny _ _ (callAny (.ref 594) _) _ _ _
  refine nd_load hC ?_
  show wpAny _ _ (callAny.viaDunder (.ref 594) _) _ _ _
  unfold callAny.viaDunder
  refine wpAny_bind (call'.at ?_)
  dsimp only
  rw [tc_bind]
  refine wpAny_bind (wpAny_pure (wpAny_bind (wpAny_pure ?_)))
  refine wpAny_pure (a := Fin.again (.call (.builtin "type.__call__") ⟨[.ref 594, .str x tx], []⟩)) (And.intro rfl ?_)
  refine codeAny_call_builtin_at (Code.quiet_builtin _ (by decide +kernel)) entry_typeCall (check_slot tc_kind tc_split typ (tc_args _ _ _) ?_)
  unfold Builtin.«type.__call__»
  have hm : Looks (M w) h (mroOf (.ref 594)) cd.mro := ((Looks.ld (part := none) hC).andThen .now).andThen .now
  rw [e4] at hm
  have ga : ∀ (A' : Around) (Q : Value → Shared → Prop) (E' : Value → Shared → Prop), Q (.ref 87) ⟨h, g, d, t + 1, os⟩ → wpAny (M w) A' (getAttr (.ref 594) "__new__") Q E' ⟨h, g, d, t, os⟩ := fun A' Q E' q =>
    cls_sm (K := K w.params) (C := 594) (mc := .type "type") (p := 91) (f := .ref 87) (rest := []) (s := ⟨h, g, d, t, os⟩) F X₀ (by kernel_rfl) (by kernel_rfl) (by kernel_rfl) (by kernel_rfl) (by kernel_rfl) q
  repeat (first | simp only [List.isEmpty_cons, Bool.false_eq_true, if_false] | (refine ga _ _ _ ?_) | ((with_reducible refine wpAny_mono hq (fun v s' z => ?_) fun _ _ z => z); (obtain ⟨io, dx, rfl, hk, hio, hz⟩ := z); (have X' := X₀.keeps hk); (have t1 : Looks (M w) s'.heap (typeOf (.ref io)) (.ref 594) := (Looks.ld hio).andThen .now); (have s1 := sio_self X'); (have i1 := sio_init X'); (have b1 := sio_bind X' (.ref io)); unfold isInstance callSpecial? specialOf) | (with_reducible refine wpAny_call (f := .ref 364) ?_) | lk)
  refine codeAny_mono hz fun r s'' z => ?_
  rcases r with e | (v | _ | _ | _) <;> first | exact z | exact z.elim | skip
  obtain ⟨rfl, z⟩ := z
  exact wpAny_pure (wpAny_pure z)
end
end Mine
end
section
set_option maxRecDepth 100000
set_option maxHeartbeats 8000000
namespace Mine
local macro_rules | `(tactic| walk_at "my_enterL") => `(tactic| (refine wpAny_call ?_; k_dflt (refine' code_defG ?k1 ?k2 ?k3 ?k4 ?k5 ?kA ?kF ?kK ?k6 ?k7 ?k8 ?k9 ?kB ?_ ?c2 ?c3 ?c4 ?c5; (case kA => exact rfl); (case kF => exact rfl); (case kK => assumption); (case k1 => k_asm); (case k2 => k_asm); (case k3 => k_asm); (case k4 => k_asm); (case k5 => k_asm); (case k6 => k_is); (case k7 => k_is); (case k8 => exact room_d (by assumption)); (case k9 => first | exact BindsTo.of_eq rfl | exact binds_K (by k_in) rfl (by k_is) rfl rfl rfl); (case c5 => decide); (case kB => exact locs rfl); (case c2 => exact rfl); (case c3 => exact rfl); (case c4 => exact rfl); k_whole; intro g' L' h' FG' F' N' B' X' T' GS; refine wp_noexc ?_; (try dsimp only); (try k_fold))))
local macro_rules | `(tactic| k_room) => `(tactic| (simp only [depth_under_make, depth_under_kw, depth_in1, depth_deeper, depth_caller]; omega))
local macro_rules | `(tactic| walk_at "execs cons") => `(tactic| (refine wpAny_execs_cons ?_; (try dsimp only); (try (refine gen_tk (fun tk => ?_)))))
local macro_rules | `(tactic| walk_at "compareOp In str str") => `(tactic| k_dflt (first | (refine in_str_b (b := true) (by first | assumption | decide +kernel) ?_) | (refine in_str_b (b := false) (by first | assumption | decide +kernel) ?_)))
local macro_rules | `(tactic| walk_at "compareOp Eq str str") => `(tactic| k_dflt (first | (refine eq_str_b (b := true) (by first | assumption | decide +kernel) ?_) | (refine eq_str_b (b := false) (by first | assumption | decide +kernel) ?_)))
local macro_rules | `(tactic| walk_at "truthy str") => `(tactic| k_dflt (first | (refine truthy_str_b (b := true) (by first | assumption | exact Nat.le_of_ble_eq_true rfl) (by first | assumption | exact rfl) ?_) | (refine truthy_str_b (b := false) (by first | assumption | exact Nat.le_of_ble_eq_true rfl) (by first | assumption | exact rfl) ?_)))
local macro_rules | `(tactic| walk_at "my_use") => `(tactic| ((case k1 => k_asm); (case k2 => k_asm); (case k3 => k_asm); (case k4 => k_asm); (case k5 => exact rfl); (case k6 => (simp only [depth_under_make, depth_under_kw, depth_in1, depth_deeper, depth_caller]; omega)); (case k7 => (simp only [units_in1, units_deeper, Around.mark_units, units_caller]; omega))))
theorem c_read_token_end (w : World) (k v : Nat → Tok) (lex ld io iod pb fs : Nat) (hA : ld < lex) (hB : lex < iod) (hC : iod < io) (hD : io < pb) (hE : pb < fs) (ts : Tok) (lineno : Int) (lt tt : Tok) (buf : Str) (pos : Nat) (pt : Tok)
    (hb : buf.length ≤ 1000) (hpos : pos = buf.length) :
    ConL w 8 697 [.ref lex] (lexObjs w.params k v lex ld io iod pb fs (.str (t " ") ts) lineno lt (t "") tt buf pos pt)
      (fun v' news => ∃ tt', v' = .none ∧ news = lexObjs w.params k v lex ld io iod pb fs .none lineno lt (t "") tt' buf pos pt) := by
  dsimp only [ConL]
  k_fill
  intros
  rename_i hret
  walk_at "my_enterL"
  repeat' ((fail_if_success (with_reducible show wpAny _ _ (exec (Stmt.While _ _ _ _) _) _ _ _)); (first | (k_unfold; (try dsimp only)) | (k_end; wrow_close) | walk1 | (dsimp only; walk1) | (leave1; walk_say "STEP leave1"; try dsimp only) | fail "no step"))
  rename Fr _ _ _ _ => F5
  rename News _ _ _ _ => N5
  refine While_inv2 (fun n m₁ news₁ => n = 0 ∧ m₁ = _ ∧ news₁ = _) (n₀ := 0) F5 N5 ⟨rfl, rfl, rfl⟩ ?turn PassesOwn.never
  clear F5 N5
  rintro n m₁ news₁ h₁ tk₁ F₁ N₁ ⟨hn, rfl, rfl⟩
  repeat' ((fail_if_success (with_reducible show wpAny _ _ (call (Value.ref 540) _) _ _ _)); (first | (k_unfold; (try dsimp only)) | (k_end; wrow_close) | walk1 | (dsimp only; walk1) | (leave1; walk_say "STEP leave1"; try dsimp only) | fail "no step"))
  rename News _ _ _ _ => N5
  k_dflt (refine' conL_use (c_read_end w io iod (k 19) (k 20) (k 21) (v 19) buf (v 20) pos pt _ (Nat.ne_of_gt hC) hpos hb) ?k1 ?k2 ?k3 ?k4 ?k5 ?k6 ?k7 (lex_io N5) ?_)
  walk_at "my_use"
  intro v9 h9 tk9 news9 HB9 F9 N9 P9
  obtain ⟨tkc, rfl, rfl⟩ := P9
  have N10 := lex_io_back hA hB hC hD hE N5 HB9 N9
  clear N9 N5 HB9
  dsimp only
  k_steps
  dsimp only [WhileStep2]
  k_steps
  all_goals (refine' hret _ _ _ _ (hbut2 ?G ?F) ?F2 ?N ?P; (case G => assumption); (case F => assumption); (case F2 => assumption); (case N => assumption); (case P => exact ⟨_, rfl, rfl⟩))
end Mine
end
section
set_option maxRecDepth 1000000
set_option maxHeartbeats 8000000
namespace Mine
theorem noBool_deque : typeLookup (.type "collections.deque") "__bool__" = pure none := by rw [typeLookup_type, builtinLookup_eq_fast]; kernel_rfl
theorem slot_deque_len : Slot "collections.deque" "__len__" "collections.deque.__len__" :=
  .of (owner := "collections.deque") (n := "__len__") (by rw [typeLookup_type, builtinLookup_eq_fast]; kernel_rfl) (by decide +kernel) (by decide +kernel) (by decide +kernel)
    (by first | exact .inl (by decide +kernel) | exact .inr (by decide +kernel)) (by rw [isSubtype_type]; kernel_rfl)
theorem entry_deque_len : entryFor table "collections.deque.__len__" = some Builtin.«collections.deque.__len__» := entryFor_of_tree (by kernel_rfl)
theorem dq_len_args (a : Value) : argsOk "collections.deque.__len__" ⟨[a], []⟩ := by unfold argsOk; kernel_rfl
theorem dq_len_run (a : Addr) : Builtin.«collections.deque.__len__» ⟨[.ref a], []⟩ = (Builtin.Deque.size (.ref a) >>= fun n => retInt (n : Int)) := by kernel_rfl
section
variable {prog : Program} {w : World} {A : Around} {E : Value → Shared → Prop} {s : Shared}
theorem dq_len_body {l : Addr} {Q : Value → Shared → Prop} (hl : s.heap.get? l = some dqObj)
    (h : Q (.int 0 (s.toks + 1)) { s with toks := s.toks + 1 + 1 }) : wpAny (model prog w) A (Builtin.«len» ⟨[.ref l], []⟩) (fun fin s' => ∃ r, fin = .done (.ret r) ∧ Q r s') E s := by
  have hT : s.TypeIs (.ref l) "collections.deque" := ⟨_, hl, rfl⟩
  unfold Builtin.«len»
  refine wpAny_bind (m := oneArg "len" _) (wpAny_pure ?_)
  refine wpAny_bind (m := callSpecial? (.ref l) (Str.ofString "__len__")) (wpAny_callSpecial?_slot (name := Str.ofString "__len__") hT slot_deque_len
    (wpAny_call_entry slot_deque_len hT entry_deque_len ?_ (dq_len_args _)))
  · rw [dq_len_run]
    unfold Builtin.Deque.size fieldsOf
    refine wpAny_bind (wpAny_bind (wpAny_bind (wpAny_load hl ?_)))
    refine wpAny_pure (wpAny_pure ?_)
    refine (wpAny_bind (wpAny_mkInt (wpAny_pure ⟨_, rfl, ?_⟩)))
    refine wpAny_bind (wpAny_holding (wpAny_pure ?_))
    refine wpAny_bind (wpAny_letGo ?_)
    exact wpAny_bind (wpAny_mkInt (wpAny_pure ⟨_, rfl, h⟩))
theorem dq_truthy {l : Addr} {Q : Bool → Shared → Prop} (hl : s.heap.get? l = some dqObj) (h : ∀ tk, Q false { s with toks := tk }) : wpAny (model prog w) A (truthy (.ref l)) Q E s := by
  have hT : s.TypeIs (.ref l) "collections.deque" := ⟨_, hl, rfl⟩
  have key : wpAny (model prog w) A (runValue (.builtin "len" ⟨[.ref l], []⟩)) (fun r s' => r = .int 0 (s.toks + 1) ∧ Q false s') E s := by
    refine wpAny_runValue (codeAny_builtin entry_len ?_)
    rw [Around.under_plainId plain_len _]
    exact wpAny_mono (dq_len_body (Q := fun r s' => r = .int 0 (s.toks + 1) ∧ Q false s') hl ⟨rfl, h _⟩)
      (fun fin s' h' => by obtain ⟨r, rfl, hq⟩ := h'; exact hq) fun _ _ e => e
  unfold truthy
  first
    | refine wpAny_bind (wpAny_callSpecial?_none (name := Str.ofString "__bool__") hT noBool_deque ?_)
    | refine wpAny_bind (wpAny_pure (wpAny_bind (wpAny_callSpecial?_none (name := Str.ofString "__bool__") hT noBool_deque ?_)))
  first
    | refine wpAny_bind (wpAny_specialOf (name := Str.ofString "__len__") hT slot_deque_len.lookup ?_)
    | refine wpAny_bind (wpAny_pure (wpAny_bind (wpAny_specialOf (name := Str.ofString "__len__") hT slot_deque_len.lookup ?_)))
  first
    | exact wpAny_bind (wpAny_mono key (fun r s' h' => by obtain ⟨rfl, hq⟩ := h'; exact wpAny_pure hq) fun _ _ e => e)
    | exact wpAny_bind (wpAny_pure (wpAny_bind (wpAny_mono key (fun r s' h' => by obtain ⟨rfl, hq⟩ := h'; exact wpAny_pure hq) fun _ _ e => e)))
end
end Mine
end
section
set_option maxRecDepth 100000
set_option maxHeartbeats 8000000
namespace Mine
local macro_rules | `(tactic| walk_at "my_enterL") => `(tactic| (refine wpAny_call ?_; k_dflt (refine' code_defG ?k1 ?k2 ?k3 ?k4 ?k5 ?kA ?kF ?kK ?k6 ?k7 ?k8 ?k9 ?kB ?_ ?c2 ?c3 ?c4 ?c5; (case kA => exact rfl); (case kF => exact rfl); (case kK => assumption); (case k1 => k_asm); (case k2 => k_asm); (case k3 => k_asm); (case k4 => k_asm); (case k5 => k_asm); (case k6 => k_is); (case k7 => k_is); (case k8 => exact room_d (by assumption)); (case k9 => first | exact BindsTo.of_eq rfl | exact binds_K (by k_in) rfl (by k_is) rfl rfl rfl); (case c5 => decide); (case kB => exact locs rfl); (case c2 => exact rfl); (case c3 => exact rfl); (case c4 => exact rfl); k_whole; intro g' L' h' FG' F' N' B' X' T' GS; refine wp_noexc ?_; (try dsimp only); (try k_fold))))
local macro_rules | `(tactic| k_room) => `(tactic| (simp only [depth_under_make, depth_under_kw, depth_in1, depth_deeper, depth_caller]; omega))
local macro_rules | `(tactic| walk_at "execs cons") => `(tactic| (refine wpAny_execs_cons ?_; (try dsimp only); (try (refine gen_tk (fun tk => ?_)))))
local macro_rules | `(tactic| walk_at "compareOp In str str") => `(tactic| k_dflt (first | (refine in_str_b (b := true) (by first | assumption | decide +kernel) ?_) | (refine in_str_b (b := false) (by first | assumption | decide +kernel) ?_)))
local macro_rules | `(tactic| walk_at "compareOp Eq str str") => `(tactic| k_dflt (first | (refine eq_str_b (b := true) (by first | assumption | decide +kernel) ?_) | (refine eq_str_b (b := false) (by first | assumption | decide +kernel) ?_)))
local macro_rules | `(tactic| walk_at "truthy str") => `(tactic| k_dflt (first | (refine truthy_str_b (b := true) (by first | assumption | exact Nat.le_of_ble_eq_true rfl) (by first | assumption | exact rfl) ?_) | (refine truthy_str_b (b := false) (by first | assumption | exact Nat.le_of_ble_eq_true rfl) (by first | assumption | exact rfl) ?_)))
local macro_rules | `(tactic| walk_at "my_use") => `(tactic| ((case k1 => k_asm); (case k2 => k_asm); (case k3 => k_asm); (case k4 => k_asm); (case k5 => exact rfl); (case k6 => (simp only [depth_under_make, depth_under_kw, depth_in1, depth_deeper, depth_caller]; omega)); (case k7 => (simp only [units_in1, units_deeper, Around.mark_units, units_caller]; omega))))
local macro_rules | `(tactic| walk_at "truthy ref") => `(tactic| (k_here; k_dflt (refine' dq_truthy (News.get ?kb ?kc) ?_; (case kb => k_asm); (case kc => k_mem); intro _)))
theorem c_get_token (w : World) (k v : Nat → Tok) (lex ld io iod pb fs : Nat) (hA : ld < lex) (hB : lex < iod) (hC : iod < io) (hD : io < pb) (hE : pb < fs) (ts : Tok) (lineno : Int) (lt tt : Tok) (buf T : Str) (r' : List Nat) (pos : Nat) (pt : Tok)
    (hl0 : 0 ≤ lineno) (hl1 : lineno ≤ (pos : Int) + 1) (hb : buf.length ≤ 1000) (hr : MRun T r' .sp (t "") (buf.cps.toList.drop pos)) (hpos : pos ≤ buf.length) :
    ConL w 11 690 [.ref lex] (lexObjs w.params k v lex ld io iod pb fs (.str (t " ") ts) lineno lt (t "") tt buf pos pt)
      (fun v' news => ∃ tk ts' lineno' lt' tt' pos' pt', v' = .str T tk ∧ buf.cps.toList.drop pos' = r' ∧ pos' ≤ buf.length ∧ T.length ≤ 1000 ∧ T.length ≠ 0 ∧ 0 ≤ lineno' ∧ lineno' ≤ (pos' : Int) + 1 ∧ news = lexObjs w.params k v lex ld io iod pb fs (.str (t " ") ts') lineno' lt' (t "") tt' buf pos' pt') := by
  dsimp only [ConL]
  k_fill
  intros
  rename_i hret
  walk_at "my_enterL"
  repeat' ((fail_if_success (with_reducible show wpAny _ _ (call (Value.ref 697) _) _ _ _)); (first | (k_unfold; (try dsimp only)) | (k_end; wrow_close) | walk1 | (dsimp only; walk1) | (leave1; walk_say "STEP leave1"; try dsimp only) | fail "no step"))
  rename News _ _ _ _ => N5
  k_dflt (refine' conL_use (c_read_token w k v lex ld io iod pb fs hA hB hC hD hE ts lineno lt tt buf T r' pos pt hl0 hl1 hb hr hpos) ?k1 ?k2 ?k3 ?k4 ?k5 ?k6 ?k7 N5 ?_)
  walk_at "my_use"
  intro v9 h9 tk9 news9 HB9 F9 N9 P9
  obtain ⟨tkc, ts', lineno', lt', tt', pos', pt', rfl, hd', hp', hT1, hT2, hl0', hl1', rfl⟩ := P9
  clear N5
  dsimp only at HB9 F9 N9 ⊢
  repeat' ((fail_if_success (with_reducible show wpAny _ _ (exec (Stmt.While _ _ _ _) _) _ _ _)); (first | (k_unfold; (try dsimp only)) | (k_end; wrow_close) | walk1 | (dsimp only; walk1) | (leave1; walk_say "STEP leave1"; try dsimp only) | fail "no step"))
  rename Fr _ _ _ _ => F5
  rename News _ _ _ _ => N5
  refine While_inv2 (fun n m₁ news₁ => n = 0 ∧ m₁ = _ ∧ news₁ = _) (n₀ := 0) F5 N5 ⟨rfl, rfl, rfl⟩ ?turn PassesOwn.never
  clear F5 N5
  rintro n m₁ news₁ h₁ tk₁ F₁ N₁ ⟨hn, rfl, rfl⟩
  k_steps
  all_goals (try dsimp only [WhileStep2])
  all_goals k_steps
  all_goals (refine' hret _ _ _ _ (hbut2 ?G ?F) ?F2 ?N ?P; (case G => assumption); (case F => assumption); (case F2 => assumption); (case N => assumption); (case P => exact ⟨_, _, _, _, _, _, _, rfl, hd', hp', hT1, hT2, hl0', hl1', rfl⟩))
theorem c_get_token_end (w : World) (k v : Nat → Tok) (lex ld io iod pb fs : Nat) (hA : ld < lex) (hB : lex < iod) (hC : iod < io) (hD : io < pb) (hE : pb < fs) (ts : Tok) (lineno : Int) (lt tt : Tok) (buf : Str) (pos : Nat) (pt : Tok)
    (hb : buf.length ≤ 1000) (hpos : pos = buf.length) :
    ConL w 11 690 [.ref lex] (lexObjs w.params k v lex ld io iod pb fs (.str (t " ") ts) lineno lt (t "") tt buf pos pt)
      (fun v' news => ∃ tt', v' = .none ∧ news = lexObjs w.params k v lex ld io iod pb fs .none lineno lt (t "") tt' buf pos pt) := by
  dsimp only [ConL]
  k_fill
  intros
  rename_i hret
  walk_at "my_enterL"
  repeat' ((fail_if_success (with_reducible show wpAny _ _ (call (Value.ref 697) _) _ _ _)); (first | (k_unfold; (try dsimp only)) | (k_end; wrow_close) | walk1 | (dsimp only; walk1) | (leave1; walk_say "STEP leave1"; try dsimp only) | fail "no step"))
  rename News _ _ _ _ => N5
  k_dflt (refine' conL_use (c_read_token_end w k v lex ld io iod pb fs hA hB hC hD hE ts lineno lt tt buf pos pt hb hpos) ?k1 ?k2 ?k3 ?k4 ?k5 ?k6 ?k7 N5 ?_)
  walk_at "my_use"
  intro v9 h9 tk9 news9 HB9 F9 N9 P9
  obtain ⟨tt', rfl, rfl⟩ := P9
  clear N5
  dsimp only at HB9 F9 N9 ⊢
  repeat' ((fail_if_success (with_reducible show wpAny _ _ (exec (Stmt.While _ _ _ _) _) _ _ _)); (first | (k_unfold; (try dsimp only)) | (k_end; wrow_close) | walk1 | (dsimp only; walk1) | (leave1; walk_say "STEP leave1"; try dsimp only) | fail "no step"))
  rename Fr _ _ _ _ => F5
  rename News _ _ _ _ => N5
  refine While_inv2 (fun n m₁ news₁ => n = 0 ∧ m₁ = _ ∧ news₁ = _) (n₀ := 0) F5 N5 ⟨rfl, rfl, rfl⟩ ?turn PassesOwn.never
  clear F5 N5
  rintro n m₁ news₁ h₁ tk₁ F₁ N₁ ⟨hn, rfl, rfl⟩
  k_steps
  all_goals (try dsimp only [WhileStep2])
  all_goals k_steps
  all_goals (refine' hret _ _ _ _ (hbut2 ?G ?F) ?F2 ?N ?P; (case G => assumption); (case F => assumption); (case F2 => assumption); (case N => assumption); (case P => exact ⟨_, rfl, rfl⟩))
end Mine
end
section
set_option maxRecDepth 100000
set_option maxHeartbeats 8000000
namespace Mine
local macro_rules | `(tactic| walk_at "my_enterL") => `(tactic| (refine wpAny_call ?_; k_dflt (refine' code_defG ?k1 ?k2 ?k3 ?k4 ?k5 ?kA ?kF ?kK ?k6 ?k7 ?k8 ?k9 ?kB ?_ ?c2 ?c3 ?c4 ?c5; (case kA => exact rfl); (case kF => exact rfl); (case kK => assumption); (case k1 => k_asm); (case k2 => k_asm); (case k3 => k_asm); (case k4 => k_asm); (case k5 => k_asm); (case k6 => k_is); (case k7 => k_is); (case k8 => exact room_d (by assumption)); (case k9 => first | exact BindsTo.of_eq rfl | exact binds_K (by k_in) rfl (by k_is) rfl rfl rfl); (case c5 => decide); (case kB => exact locs rfl); (case c2 => exact rfl); (case c3 => exact rfl); (case c4 => exact rfl); k_whole; intro g' L' h' FG' F' N' B' X' T' GS; refine wp_noexc ?_; (try dsimp only); (try k_fold))))
local macro_rules | `(tactic| k_room) => `(tactic| (simp only [depth_under_make, depth_under_kw, depth_in1, depth_deeper, depth_caller]; omega))
local macro_rules | `(tactic| walk_at "execs cons") => `(tactic| (refine wpAny_execs_cons ?_; (try dsimp only); (try (refine gen_tk (fun tk => ?_)))))
local macro_rules | `(tactic| walk_at "compareOp In str str") => `(tactic| k_dflt (first | (refine in_str_b (b := true) (by first | assumption | decide +kernel) ?_) | (refine in_str_b (b := false) (by first | assumption | decide +kernel) ?_)))
local macro_rules | `(tactic| walk_at "compareOp Eq str str") => `(tactic| k_dflt (first | (refine eq_str_b (b := true) (by first | assumption | decide +kernel) ?_) | (refine eq_str_b (b := false) (by first | assumption | decide +kernel) ?_)))
local macro_rules | `(tactic| walk_at "truthy str") => `(tactic| k_dflt (first | (refine truthy_str_b (b := true) (by first | assumption | exact Nat.le_of_ble_eq_true rfl) (by first | assumption | exact rfl) ?_) | (refine truthy_str_b (b := false) (by first | assumption | exact Nat.le_of_ble_eq_true rfl) (by first | assumption | exact rfl) ?_)))
local macro_rules | `(tactic| walk_at "my_use") => `(tactic| ((case k1 => k_asm); (case k2 => k_asm); (case k3 => k_asm); (case k4 => k_asm); (case k5 => exact rfl); (case k6 => (simp only [depth_under_make, depth_under_kw, depth_in1, depth_deeper, depth_caller]; omega)); (case k7 => (simp only [units_in1, units_deeper, Around.mark_units, units_caller]; omega))))
local macro_rules | `(tactic| walk_at "truthy ref") => `(tactic| (k_here; k_dflt (refine' dq_truthy (News.get ?kb ?kc) ?_; (case kb => k_asm); (case kc => k_mem); intro _)))
theorem c_next (w : World) (k v : Nat → Tok) (lex ld io iod pb fs : Nat) (hA : ld < lex) (hB : lex < iod) (hC : iod < io) (hD : io < pb) (hE : pb < fs) (ts : Tok) (lineno : Int) (lt tt : Tok) (buf T : Str) (r' : List Nat) (pos : Nat) (pt : Tok)
    (hl0 : 0 ≤ lineno) (hl1 : lineno ≤ (pos : Int) + 1) (hb : buf.length ≤ 1000) (hr : MRun T r' .sp (t "") (buf.cps.toList.drop pos)) (hpos : pos ≤ buf.length) :
    ConL w 14 726 [.ref lex] (lexObjs w.params k v lex ld io iod pb fs (.str (t " ") ts) lineno lt (t "") tt buf pos pt)
      (fun v' news => ∃ tk ts' lineno' lt' tt' pos' pt', v' = .str T tk ∧ buf.cps.toList.drop pos' = r' ∧ pos' ≤ buf.length ∧ T.length ≤ 1000 ∧ T.length ≠ 0 ∧ 0 ≤ lineno' ∧ lineno' ≤ (pos' : Int) + 1 ∧ news = lexObjs w.params k v lex ld io iod pb fs (.str (t " ") ts') lineno' lt' (t "") tt' buf pos' pt') := by
  dsimp only [ConL]
  k_fill
  intros
  rename_i hret
  walk_at "my_enterL"
  repeat' ((fail_if_success (with_reducible show wpAny _ _ (call (Value.ref 690) _) _ _ _)); (first | (k_unfold; (try dsimp only)) | (k_end; wrow_close) | walk1 | (dsimp only; walk1) | (leave1; walk_say "STEP leave1"; try dsimp only) | fail "no step"))
  rename News _ _ _ _ => N5
  k_dflt (refine' conL_use (c_get_token w k v lex ld io iod pb fs hA hB hC hD hE ts lineno lt tt buf T r' pos pt hl0 hl1 hb hr hpos) ?k1 ?k2 ?k3 ?k4 ?k5 ?k6 ?k7 N5 ?_)
  walk_at "my_use"
  intro v9 h9 tk9 news9 HB9 F9 N9 P9
  obtain ⟨tkc, ts', lineno', lt', tt', pos', pt', rfl, hd', hp', hT1, hT2, hl0', hl1', rfl⟩ := P9
  clear N5
  dsimp only at HB9 F9 N9 ⊢
  k_steps
  all_goals (refine' hret _ _ _ _ (hbut2 ?G ?F) ?F2 ?N ?P; (case G => assumption); (case F => assumption); (case F2 => assumption); (case N => assumption); (case P => exact ⟨_, _, _, _, _, _, _, rfl, hd', hp', hT1, hT2, hl0', hl1', rfl⟩))
local macro_rules | `(tactic| walk_at "my_enterE") => `(tactic| (refine wpAny_call ?_; k_dflt (refine' code_defG ?k1 ?k2 ?k3 ?k4 ?k5 ?kA ?kF ?kK ?k6 ?k7 ?k8 ?k9 ?kB ?_ ?c2 ?c3 ?c4 ?c5; (case kA => exact rfl); (case kF => exact rfl); (case kK => assumption); (case k1 => k_asm); (case k2 => k_asm); (case k3 => k_asm); (case k4 => k_asm); (case k5 => k_asm); (case k6 => k_is); (case k7 => k_is); (case k8 => exact room_d (by assumption)); (case k9 => first | exact BindsTo.of_eq rfl | exact binds_K (by k_in) rfl (by k_is) rfl rfl rfl); (case c5 => decide); (case kB => exact locs rfl); (case c2 => exact rfl); (case c3 => exact rfl); (case c4 => exact rfl); k_whole; intro g' L' h' FG' F' N' B' X' T' GS; (try dsimp only); (try k_fold))))
theorem stop_turn {M : Model} {A A₀ : Around} {E : Value → Shared → Prop} {s : Shared} {base h₀ G : Heap} {outer : List Env} {L a e t : Addr} {m : Str → Option Value} {name : Str} {scope : Scope} {cd : Value} {vs : List Value} {news : List (Addr × Obj)} {X : String} {Q : Option Value → Shared → Prop}
    (B : Below A₀ base outer h₀) (F : Fr h₀ L G m) (R : RaisedS base G (envOf name scope L a cd :: outer) e (.type X) t vs news s.heap) (U : G.UpToSlots s.heap) (D : KtsDicts (fsO outer) h₀) (hsub : isSubtype (.type X) (.type "StopIteration") = pure true)
    (k : ∀ h₀', KtsTurn (fsO outer) h₀ h₀' → Fr h₀' L s.heap m → Below A₀ base outer h₀' → KtsDicts (fsO outer) h₀' → (∀ b o, G.get? b = some o → b ∉ L :: fsO outer → s.heap.get? b = some o) → Q none s) : OwitStop M A Q E (.ref e) s := by
  obtain ⟨⟨BB, hB, hBG, hl, hfl, hnew⟩, htup⟩ := R
  obtain ⟨ob, hob, hobc⟩ := hfl.there
  have hT : s.TypeIs (.ref e) X := (show ∃ o, s.heap.get? e = some o ∧ o.cls = .type X from ⟨ob, hob, hobc⟩)
  obtain ⟨g', T', F', B'⟩ := kts_ground B F hBG hfl.1 U
  unfold OwitStop
  refine wpAny_isInstance hT hsub ?_
  show (if true = true then Q none s else E (.ref e) s)
  rw [if_pos rfl]
  exact k g' T' F' B' (D.turn T') fun b o q n => hfl.1 b o (hBG b o q fun z => n (by
    rcases kts_mem z with z | z
    · exact z ▸ .head _
    · exact .tail _ z))
theorem next_end (w : World) (k v : Nat → Tok) (lex ld io iod pb fs : Nat) (hA : ld < lex) (hB : lex < iod) (hC : iod < io) (hD : io < pb) (hE : pb < fs) (ts : Tok) (lineno : Int) (lt tt : Tok) (buf : Str) (pos : Nat) (pt : Tok) (hb : buf.length ≤ 1000) (hpos : pos = buf.length) :
  ∀ (mean : ExcName → Option Value) (mg mb : Str → Option Value) (dp un : Nat) (gd : Option (List Code)) (cn : Str) (cs : Scope) (a : Addr) (ccd : Value) (outer : List Env) (A₀ : Around) (base h₀ : Heap) (L : Addr) (m : Str → Option Value) (s : Shared) (Q : Option Value → Shared → Prop) (E : Value → Shared → Prop),
    Below A₀ base outer h₀ → Fr h₀ L s.heap m → (K w.params).In h₀ → Top qv lo mean mg mb h₀ → KtsDicts (fsO outer) h₀ → cs.kind = .function → dp + 14 < recursionLimit → un + 20 * 14 < cLine → News h₀ L s.heap (lexObjs w.params k v lex ld io iod pb fs (.str (t " ") ts) lineno lt (t "") tt buf pos pt) →
    (∀ (h' : Heap) (tk' : Nat) (h₀' : Heap), KtsTurn (fsO outer) h₀ h₀' → Fr h₀' L h' m → Below A₀ base outer h₀' → KtsDicts (fsO outer) h₀' → HBut ([fs, pb, io, iod, lex, ld] ++ L :: fsO outer) s.heap h' → Q none { s with heap := h', toks := tk' }) →
      wpAny (model PySem.Challenge.rw_ny0363_01.row.prog w) (ktrTop dp un gd cn cs L a ccd [] outer) (pyNext (.ref lex)) Q E s := by
  k_fill
  intros
  rename_i hret
  k_dflt (refine' owit_next ?F ?X ?I ?hs ?hf ?_; (case F => k_asm); (case X => k_asm); (case I => k_inst); (case hs => k_is); (case hf => k_is))
  walk_at "my_enterE"
  repeat' ((fail_if_success (with_reducible show wpAny _ _ (call (Value.ref 690) _) _ _ _)); (first | (k_unfold; (try dsimp only)) | (k_end; wrow_close) | walk1 | (dsimp only; walk1) | (leave1; walk_say "STEP leave1"; try dsimp only) | fail "no step"))
  rename News _ _ _ _ => N5
  k_dflt (refine' conL_use (c_get_token_end w k v lex ld io iod pb fs hA hB hC hD hE ts lineno lt tt buf pos pt hb hpos) ?k1 ?k2 ?k3 ?k4 ?k5 ?k6 ?k7 N5 ?_)
  walk_at "my_use"
  intro v9 h9 tk9 news9 HB9 F9 N9 P9
  obtain ⟨tt', rfl, rfl⟩ := P9
  clear N5
  dsimp only at HB9 F9 N9 ⊢
  k_steps
  clear HB9
  rename RaisedS _ _ _ _ _ _ _ _ _ => R9
  rename Heap.UpToSlots _ _ => U9
  rename GSub _ _ _ => G9
  refine stop_turn (by assumption) (by assumption) R9 U9 (by assumption) (by rw [isSubtype_type]; kernel_rfl) ?_
  intro h₀' T' F' B' D' H'
  exact hret _ _ _ T' F' B' D' (fun b o q n => H' b o (G9 b o q fun z => n (List.mem_append_left _ z)) fun z => n (List.mem_append_right _ z))
end Mine
end
section
set_option maxRecDepth 100000
set_option maxHeartbeats 8000000
namespace Mine
local macro_rules | `(tactic| walk_at "my_enterL") => `(tactic| (refine wpAny_call ?_; k_dflt (refine' code_defG ?k1 ?k2 ?k3 ?k4 ?k5 ?kA ?kF ?kK ?k6 ?k7 ?k8 ?k9 ?kB ?_ ?c2 ?c3 ?c4 ?c5; (case kA => exact rfl); (case kF => exact rfl); (case kK => assumption); (case k1 => k_asm); (case k2 => k_asm); (case k3 => k_asm); (case k4 => k_asm); (case k5 => k_asm); (case k6 => k_is); (case k7 => k_is); (case k8 => exact room_d (by assumption)); (case k9 => first | exact BindsTo.of_eq rfl | exact binds_K (by k_in) rfl (by k_is) rfl rfl rfl); (case c5 => decide); (case kB => exact locs rfl); (case c2 => exact rfl); (case c3 => exact rfl); (case c4 => exact rfl); k_whole; intro g' L' h' FG' F' N' B' X' T' GS; refine wp_noexc ?_; (try dsimp only); (try k_fold))))
local macro_rules | `(tactic| k_room) => `(tactic| (simp only [depth_under_make, depth_under_kw, depth_in1, depth_deeper, depth_caller]; omega))
local macro_rules | `(tactic| walk_at "execs cons") => `(tactic| (refine wpAny_execs_cons ?_; (try dsimp only); (try (refine gen_tk (fun tk => ?_)))))
local macro_rules | `(tactic| walk_at "compareOp In str str") => `(tactic| k_dflt (first | (refine in_str_b (b := true) (by first | assumption | decide +kernel) ?_) | (refine in_str_b (b := false) (by first | assumption | decide +kernel) ?_)))
local macro_rules | `(tactic| walk_at "compareOp Eq str str") => `(tactic| k_dflt (first | (refine eq_str_b (b := true) (by first | assumption | decide +kernel) ?_) | (refine eq_str_b (b := false) (by first | assumption | decide +kernel) ?_)))
local macro_rules | `(tactic| walk_at "truthy str") => `(tactic| k_dflt (first | (refine truthy_str_b (b := true) (by first | assumption | exact Nat.le_of_ble_eq_true rfl) (by first | assumption | exact rfl) ?_) | (refine truthy_str_b (b := false) (by first | assumption | exact Nat.le_of_ble_eq_true rfl) (by first | assumption | exact rfl) ?_)))
local macro_rules | `(tactic| walk_at "my_use") => `(tactic| ((case k1 => k_asm); (case k2 => k_asm); (case k3 => k_asm); (case k4 => k_asm); (case k5 => exact rfl); (case k6 => (simp only [depth_under_make, depth_under_kw, depth_in1, depth_deeper, depth_caller]; omega)); (case k7 => (simp only [units_in1, units_deeper, Around.mark_units, units_caller]; omega))))
local macro_rules | `(tactic| walk_at "truthy ref") => `(tactic| (k_here; k_dflt (refine' dq_truthy (News.get ?kb ?kc) ?_; (case kb => k_asm); (case kc => k_mem); intro _)))
/-- the words of a line -/
inductive MWords : List Str → List Nat → Prop
  | nil : MWords [] []
  | cons {T Ts l r'} : MRun T r' .sp (t "") l → MWords Ts r' → MWords (T :: Ts) l
local macro_rules | `(tactic| walk_at "my_enter") => `(tactic| (refine wpAny_call ?_; k_dflt (refine' code_defG ?k1 ?k2 ?k3 (News.nil) ?k5 ?kA ?kF ?kK ?k6 ?k7 ?k8 ?k9 ?kB ?_ ?c2 ?c3 ?c4 ?c5; (case kA => exact rfl); (case kF => exact rfl); (case kK => assumption); (case k1 => k_asm); (case k2 => k_asm); (case k3 => k_asm); (case k5 => k_asm); (case k6 => k_is); (case k7 => k_is); (case k8 => exact room_d (by assumption)); (case k9 => exact BindsTo.of_eq rfl); (case c5 => decide); (case kB => exact locs rfl); (case c2 => exact rfl); (case c3 => exact rfl); (case c4 => exact rfl); k_whole; intro g' L' h' FG' F' N' B' X' T' GS; replace GS := gsub_all GS; (try dsimp only); (try k_fold))))
theorem c_iter (w : World) (lex : Addr) : Con w 2 719 [.ref lex] (fun _ => True) (fun _ _ v => v = .ref lex) := by
  dsimp only [Con]
  k_fill
  intros
  rename_i hret
  walk_at "my_enter"
  k_steps
  refine' hret _ _ _ (ext2 ?G ?F) ?P; (case G => assumption); (case F => assumption); (case P => exact rfl)
abbrev lstObj (vs : Array Value) (c : Nat) : Obj := { cls := .type "list", dict := none, data := .seq vs c, slots := #[] }
theorem fr_upd {h₀ h : Heap} {L S : Addr} {m : Str → Option Value} {f : Obj → Obj} (F : Fr h₀ L h m) (hS : h₀.get? S = none) (hL : S ≠ L) : Fr h₀ L (h.update S f) m :=
  ⟨F.ns.sameBut (Heap.SameBut.update ..) (Ne.symm hL), fun b o e => (Heap.get?_update_other _ _ (fun z => by rw [← z, hS] at e; cases e)).trans (F.keep b o e), F.above⟩
theorem news_upd {h₀ h : Heap} {L S : Addr} {f : Obj → Obj} {nw : List (Addr × Obj)} (N : News h₀ L h nw) (hS : ∀ p ∈ nw, p.1 ≠ S) : News h₀ L (h.update S f) nw := fun p hp =>
  ⟨(Heap.get?_update_other _ _ (Ne.symm (hS p hp))).trans (N p hp).1, (N p hp).2⟩
abbrev lexAdr (lex ld io iod pb fs : Addr) : List Addr := [fs, pb, io, iod, lex, ld]
theorem strs_push {vs : Array Value} {ys : List Str} {T : Str} {tk : Tok} (h : StrsAre vs.toList ys) : StrsAre (vs.push (.str T tk)).toList (ys ++ [T]) := by
  rw [Array.toList_push]
  exact h.append' (.cons _ _ .nil)
theorem lex_loop (w : World) (k v : Nat → Tok) (lex ld io iod pb fs : Nat) (hA : ld < lex) (hB : lex < iod) (hC : iod < io) (hD : io < pb) (hE : pb < fs) (buf : Str) (hb : buf.length ≤ 1000) (S : Addr) (hSa : S ∉ lexAdr lex ld io iod pb fs)
    (mean : ExcName → Option Value) (mg mb : Str → Option Value) (dp un : Nat) (gd : Option (List Code)) (cn : Str) (cs : Scope) (a : Addr) (ccd : Value) (outer : List Env) (A₀ : Around) (base h₀ : Heap) (L : Addr) (m : Str → Option Value) (R : Result → Shared → Prop) (h00 : Heap)
    (B : Below A₀ base outer h₀) (X : (K w.params).In h₀) (T : Top qv lo mean mg mb h₀) (D : KtsDicts (fsO outer) h₀) (hk : cs.kind = .function) (hdp : dp + 14 < recursionLimit) (hun : un + 1 + 20 * 14 < cLine) (hS0 : h₀.get? S = none) (hSL : S ≠ L) :
    ∀ (ws : List Str) (s : Shared) (done : List Str) (acc : Array Value) (c : Nat) (ts : Tok) (lineno : Int) (lt tt : Tok) (pos : Nat) (pt : Tok), 0 ≤ lineno → lineno ≤ (pos : Int) + 1 → pos ≤ buf.length → MWords ws (buf.cps.toList.drop pos) → acc.size + ws.length ≤ 1000 → StrsAre acc.toList done →
      Fr h₀ L s.heap m → News h₀ L s.heap (lexObjs w.params k v lex ld io iod pb fs (.str (t " ") ts) lineno lt (t "") tt buf pos pt) → s.heap.get? S = some (lstObj acc c) → HBut (S :: lexAdr lex ld io iod pb fs ++ L :: fsO outer) h00 s.heap →
      (∀ (h' : Heap) (tk' : Nat) (h₀' : Heap) (acc' : Array Value) (c' : Nat), KtsTurn (fsO outer) h₀ h₀' → Fr h₀' L h' m → Below A₀ base outer h₀' → KtsDicts (fsO outer) h₀' → HBut (S :: lexAdr lex ld io iod pb fs ++ L :: fsO outer) h00 h' → h'.get? S = some (lstObj acc' c') → StrsAre acc'.toList (done ++ ws) → R (.ok (.ret .none)) { s with heap := h', toks := tk' }) →
      codeAny (model PySem.Challenge.rw_ny0363_01.row.prog w) (ktrTop dp un gd cn cs L a ccd [] outer) (.builtin "list.extend.loop" ⟨[.ref S, .ref lex, .none], []⟩) R s := by
  intro ws
  induction ws with
  | nil =>
    intro s done acc c ts lineno lt tt pos pt hl0 hl1 hpos hw hsz hacc F N hS H hR
    have hpe : pos = buf.length := by
      generalize hl : buf.cps.toList.drop pos = l at hw
      cases hw
      have := congrArg List.length hl
      simp only [List.length_drop, Array.length_toList, List.length_nil] at this
      simp only [Str.length] at hpos ⊢
      omega
    refine codeAny_builtin PySem.F.entry_extend_loop ?_
    rw [Around.under_plainId PySem.F.plain_extend_loop _]
    show wpAny _ (ktrTop dp (un + 1) gd cn cs L a ccd [] outer) (pyNext (.ref lex) >>= _) _ _ s
    refine wpAny_bind (next_end w k v lex ld io iod pb fs hA hB hC hD hE ts lineno lt tt buf pos pt hb hpe mean mg mb dp (un + 1) gd cn cs a ccd outer A₀ base h₀ L m s _ _ B F X T D hk hdp hun N ?_)
    intro h' tk' h₀' T' F' B' D' H'
    refine wpAny_pure ?_
    rw [List.append_nil] at hR
    have hSn : S ∉ lexAdr lex ld io iod pb fs ++ L :: fsO outer := fun z => by
      rcases List.mem_append.mp z with z | z
      · exact hSa z
      · rcases List.mem_cons.mp z with z | z
        · exact hSL z
        · obtain ⟨_, o, ho, _⟩ := B.frames.mem z
          rw [hS0] at ho; cases ho
    exact hR h' tk' h₀' acc c T' F' B' D' (fun b o e n => H' b o (H b o e n) (fun z => n (.tail _ z))) (H' S _ hS hSn) hacc
  | cons T0 Ts ih =>
    intro s done acc c ts lineno lt tt pos pt hl0 hl1 hpos hw hsz hacc F N hS H hR
    generalize hl : buf.cps.toList.drop pos = l at hw
    cases hw with
    | cons hrun hrest =>
    rename_i r'
    subst hl
    refine codeAny_builtin PySem.F.entry_extend_loop ?_
    rw [Around.under_plainId PySem.F.plain_extend_loop _]
    show wpAny _ (ktrTop dp (un + 1) gd cn cs L a ccd [] outer) (pyNext (.ref lex) >>= _) _ _ s
    refine wpAny_bind (owit_next (K := K w.params) (x := lex) (C := 729) (f := 726) F X (InstAt.of_news N (.tail _ (.tail _ (.tail _ (.tail _ (.head _))))) (.tail _ (.tail _ (.tail _ (.tail _ (.tail _ (.head _))))))) (by kernel_rfl) (by kernel_rfl) ?_)
    refine conL_use (c_next w k v lex ld io iod pb fs hA hB hC hD hE ts lineno lt tt buf T0 r' pos pt hl0 hl1 hb hrun hpos) B F X T hk hdp hun N ?_
    rintro v' h' tk' news' H' F' N' ⟨tk, ts', lineno', lt', tt', pos', pt', rfl, hdr, hpos', hT1, hT2, hl0', hl1', rfl⟩
    have hS' : h'.get? S = some (lstObj acc c) := H' S _ hS hSa
    have hne : ∀ p ∈ lexObjs w.params k v lex ld io iod pb fs (.str (t " ") ts') lineno' lt' (t "") tt' buf pos' pt', p.1 ≠ S := fun p hp z => hSa (z ▸ List.mem_map_of_mem (f := Prod.fst) hp)
    show wpAny _ (ktrTop dp (un + 1) gd cn cs L a ccd [] outer) (updateSeq S (·.push (.str T0 tk)) >>= _) _ _ _
    refine wpAny_bind ?_
    simp only [List.length_cons] at hsz
    refine wpAny_updateSeq hS' rfl (wpAny_pure ⟨plainId_quiet PySem.F.plain_extend_loop _, ?_⟩) (by simp only [sizeLine_eq]; omega) (by show (acc.push _).size ≤ sizeLine + 1; rw [Array.size_push, sizeLine_eq]; omega)
    refine ih _ (done ++ [T0]) (acc.push (.str T0 tk)) _ ts' lineno' lt' tt' pos' pt' hl0' hl1' hpos' (hdr.symm ▸ hrest) (by rw [Array.size_push]; omega) (strs_push hacc) (fr_upd F' hS0 hSL) (news_upd N' hne) (Heap.get?_update_self _ hS' rfl) ?_ ?_
    · intro b o e n
      exact (Heap.get?_update_other _ _ (fun z => n (by rw [← z]; exact .head _))).trans (H' b o (H b o e n) (fun z => n (.tail _ (List.mem_append_left _ z))))
    · intro h'' tk'' h₀' acc' c' T'' F'' B'' D'' H'' hS'' hacc'
      exact hR h'' tk'' h₀' acc' c' T'' F'' B'' D'' H'' hS'' (by rw [List.append_assoc] at hacc'; exact hacc')
end Mine
end
section
set_option maxRecDepth 100000
set_option maxHeartbeats 8000000
namespace Mine
theorem find_len (P : Params) : findIn (K P) (.ref 729) "__len__" = some none := by kernel_rfl
theorem find_hint (P : Params) : findIn (K P) (.ref 729) "__length_hint__" = some none := by kernel_rfl
theorem find_iter (P : Params) : findIn (K P) (.ref 729) "__iter__" = some (some (.ref 719)) := by kernel_rfl
theorem find_next (P : Params) : findIn (K P) (.ref 729) "__next__" = some (some (.ref 726)) := by kernel_rfl
theorem fn_iter (P : Params) : isFn (K P) (.ref 719) = true := by kernel_rfl
theorem call_list_lex (w : World) (k v : Nat → Tok) (lex ld io iod pb fs : Nat) (hA : ld < lex) (hB : lex < iod) (hC : iod < io) (hD : io < pb) (hE : pb < fs) (buf : Str) (hb : buf.length ≤ 1000)
    (mean : ExcName → Option Value) (mg mb : Str → Option Value) (dp un : Nat) (gd : Option (List Code)) (cn : Str) (cs : Scope) (a : Addr) (ccd : Value) (outer : List Env) (A₀ : Around) (base h₀ : Heap) (L : Addr) (m : Str → Option Value) (Q E : Value → Shared → Prop) (s : Shared)
    (B : Below A₀ base outer h₀) (X : (K w.params).In h₀) (T : Top qv lo mean mg mb h₀) (D : KtsDicts (fsO outer) h₀) (hk : cs.kind = .function) (hdp : dp + 14 < recursionLimit) (hun : un + 4 + 20 * 14 < cLine)
    (ws : List Str) (ts : Tok) (lineno : Int) (lt tt : Tok) (pos : Nat) (pt : Tok) (hl0 : 0 ≤ lineno) (hl1 : lineno ≤ (pos : Int) + 1) (hpos : pos ≤ buf.length) (hw : MWords ws (buf.cps.toList.drop pos)) (hsz : ws.length ≤ 1000)
    (F : Fr h₀ L s.heap m) (N : News h₀ L s.heap (lexObjs w.params k v lex ld io iod pb fs (.str (t " ") ts) lineno lt (t "") tt buf pos pt))
    (hQ : ∀ (S : Addr) (h' : Heap) (tk' : Nat) (h₀' : Heap) (acc' : Array Value) (c' : Nat), KtsTurn (fsO outer) h₀ h₀' → Fr h₀' L h' m → Below A₀ base outer h₀' → KtsDicts (fsO outer) h₀' → HBut (lexAdr lex ld io iod pb fs ++ L :: fsO outer) s.heap h' → News h₀' L h' [(S, lstObj acc' c')] → StrsAre acc'.toList ws → Q (.ref S) { s with heap := h', toks := tk' }) :
    wpAny (model PySem.Challenge.rw_ny0363_01.row.prog w) (ktrTop dp un gd cn cs L a ccd [] outer) (call (.type "list") [.ref lex]) Q E s := by
  have hadr : ∀ b ∈ lexAdr lex ld io iod pb fs, b < s.heap.objs.size := fun b hbm => by
    obtain ⟨p, hp, rfl⟩ := List.mem_map.mp (show b ∈ (lexObjs w.params k v lex ld io iod pb fs (.str (t " ") ts) lineno lt (t "") tt buf pos pt).map (·.1) from hbm)
    exact Heap.lt_size (N p hp).1
  have hSa : s.heap.objs.size ∉ lexAdr lex ld io iod pb fs := fun z => Nat.lt_irrefl _ (hadr _ z)
  have hSL : s.heap.objs.size ≠ L := (Nat.ne_of_lt F.ns.lt).symm
  have hS0 : h₀.get? s.heap.objs.size = none := by
    cases q : h₀.get? s.heap.objs.size with
    | none => rfl
    | some o => exact absurd (Heap.lt_size (F.keep _ _ q)) (Nat.lt_irrefl _)
  refine callType_codes (Q₁ := fun obj s₁ => obj = .ref s.heap.objs.size ∧ s₁ = { s with heap := s.heap.push { cls := .type "list", data := .seq #[] } }) PySem.F.called_list (PySem.F.typeCall_list_1 _) PySem.F.entry_list_init
    (code_list_new _ ⟨rfl, rfl⟩) fun obj s₁ h₁ => ?_
  obtain ⟨rfl, rfl⟩ := h₁
  have hS : (s.heap.push { cls := .type "list", data := .seq #[] }).get? s.heap.objs.size = some (lstObj #[] 0) := Heap.get?_push_size _ rfl
  have hk0 : HExt s.heap (s.heap.push { cls := .type "list", data := .seq #[] }) := fun b o e => Heap.get?_push_of_some _ e
  have F1 := F.keeps hk0
  have N1 := N.grown hk0
  refine ⟨⟨_, hS, rfl⟩, PySem.F.args_list_init_2 _ _, ?_⟩
  show wpAny _ (ktrTop dp (un + 1 + 1) gd cn cs L a ccd [] outer) (do let old ← Builtin.List.listItems (.ref s.heap.objs.size); Builtin.List.listUpdate (.ref s.heap.objs.size) (fun _ => #[]); letGo old.toList.reverse; Builtin.List.listExtendWith (.ref s.heap.objs.size) (.ref lex) .none) _ _ _
  generalize hSS : s.heap.objs.size = S at *
  generalize hh1 : s.heap.push { cls := .type "list", data := .seq #[] } = h1 at *
  refine wpAny_bind ?_
  unfold Builtin.List.listItems
  refine wpAny_bind (wpAny_seqItems hS rfl (wpAny_pure ?_))
  show wpAny _ _ (updateSeq S (fun _ => #[]) >>= fun _ => letGo (#[] : Array Value).toList.reverse >>= fun _ => Builtin.List.listExtendWith (.ref S) (.ref lex) .none) _ _ _
  refine wpAny_bind (wpAny_updateSeq hS rfl ?_)
  have hS2 := Heap.get?_update_self (Obj.mapSeq (fun _ => (#[] : Array Value))) hS rfl
  have hne : ∀ p ∈ lexObjs w.params k v lex ld io iod pb fs (.str (t " ") ts) lineno lt (t "") tt buf pos pt, p.1 ≠ S := fun p hp z => hSa (z ▸ List.mem_map_of_mem (f := Prod.fst) hp)
  have F2 := fr_upd (f := Obj.mapSeq (fun _ => (#[] : Array Value))) F1 hS0 hSL
  have N2 := news_upd (f := Obj.mapSeq (fun _ => (#[] : Array Value))) N1 hne
  have H2 : HBut [S] s.heap (h1.update S (Obj.mapSeq (fun _ => (#[] : Array Value)))) := fun b o e n => (Heap.get?_update_other _ _ (fun z : S = b => n (z ▸ .head _))).trans (hk0 b o e)
  refine wpAny_bind (wpAny_letGo ?_)
  unfold Builtin.List.listExtendWith
  have I2 := InstAt.of_news N2 (.tail _ (.tail _ (.tail _ (.tail _ (.head _))))) (.tail _ (.tail _ (.tail _ (.tail _ (.tail _ (.head _))))))
  refine wpAny_bind (I2.type.here ?_)
  have h1' : Builtin.List.listSameRef (.ref S) (.ref lex) = false := by
    have : S ≠ lex := fun e => hSa (by rw [e]; exact .tail _ (.tail _ (.tail _ (.tail _ (.head _)))))
    simp [Builtin.List.listSameRef, this]
  have h2' : (Value.ref 729 == Value.type "list") = false := by decide
  have h3' : (Value.ref 729 == Value.type "tuple") = false := by decide
  simp only [h1', h2', h3', Bool.or_false, Bool.false_eq_true, if_false]
  refine wpAny_bind (owit_iter F2 X I2 (find_iter _) (fn_iter _) (con_use (c_iter w lex) B F2 X T hk (Nat.lt_of_le_of_lt (by omega) hdp) (by omega) trivial ?_))
  rintro _ h3 tk3 H3 rfl
  have F3 := F2.keeps H3
  have N3 := N2.grown H3
  have hS3 := H3 _ _ hS2
  have I3 := InstAt.of_news N3 (.tail _ (.tail _ (.tail _ (.tail _ (.head _))))) (.tail _ (.tail _ (.tail _ (.tail _ (.tail _ (.head _))))))
  refine owit_it F3 X I3 (find_next _) ?_
  refine wpAny_bind (wpAny_holding ?_)
  unfold Builtin.List.listLengthHint
  refine wpAny_bind (wpAny_bind (I3.type.here ((looks_findIn (X.keeps F3.keep) (find_len _)).here ?_)))
  show wpAny _ _ (specialOf (Value.ref lex) (Str.ofString "__length_hint__") >>= _) _ _ _
  refine wpAny_bind (wpAny_bind (I3.type.here ((looks_findIn (X.keeps F3.keep) (find_hint _)).here ?_)))
  refine wpAny_pure ?_
  show wpAny _ _ (rule "list.extend.makes-room" >>= fun _ => Builtin.List.listTouch (.ref S) >>= fun _ => again (.builtin "list.extend.loop" ⟨[.ref S, .ref lex, .none], []⟩)) _ _ _
  refine wpAny_bind (wpAny_rule ?_)
  refine wpAny_bind ?_
  show wpAny _ _ (updateSeq S (·.push .none) >>= fun _ => updateSeq S (·.pop)) _ _ _
  refine wpAny_bind (wpAny_updateSeq hS3 rfl ?_)
  have hS4 := Heap.get?_update_self (Obj.mapSeq (·.push Value.none)) hS3 rfl
  refine wpAny_updateSeq (hz := by seq_fits) hS4 rfl ?_
  have hS5 := Heap.get?_update_self (Obj.mapSeq (·.pop)) hS4 rfl
  refine wpAny_pure ⟨plainId_quiet PySem.F.plain_extend_loop _, ?_⟩
  refine lex_loop w k v lex ld io iod pb fs hA hB hC hD hE buf hb S hSa mean mg mb dp (un + 1) gd cn cs a ccd outer A₀ base h₀ L m _ s.heap B X T D hk hdp (by omega) hS0 hSL ws _ [] _ _ ts lineno lt tt pos pt hl0 hl1 hpos hw (by simpa using hsz) .nil
    (fr_upd (fr_upd F3 hS0 hSL) hS0 hSL) (news_upd (news_upd N3 hne) hne) hS5 ?_ ?_
  · intro b o e n
    have hb' : S ≠ b := fun z => n (z ▸ .head _)
    exact (Heap.get?_update_other _ _ hb').trans ((Heap.get?_update_other _ _ hb').trans (H3 b o (H2 b o e (fun z => n (by rcases List.mem_cons.mp z with z | z; exact z ▸ .head _; cases z)))))
  · intro h' tk' h₀' acc' c' T' F' B' D' H' hS' hacc
    refine ⟨rfl, hQ S h' tk' h₀' acc' c' T' F' B' D' ?_ ?_ hacc⟩
    · intro b o e n
      by_cases hb' : b = S
      · exact absurd (Heap.lt_size (hb' ▸ e)) (by rw [hSS]; exact Nat.lt_irrefl _)
      · exact H' b o e (fun z => by
          rcases List.mem_cons.mp z with z | z
          · exact hb' z
          · exact n z)
    · intro p hp
      rcases List.mem_cons.mp hp with rfl | hp
      · exact ⟨hS', hSL, T'.none_ _ hS0⟩
      · cases hp
end Mine
end
section
set_option maxRecDepth 100000
set_option maxHeartbeats 8000000
namespace Mine
local macro_rules | `(tactic| walk_at "my_enter") => `(tactic| (refine wpAny_call ?_; k_dflt (refine' code_defG ?k1 ?k2 ?k3 (News.nil) ?k5 ?kA ?kF ?kK ?k6 ?k7 ?k8 ?k9 ?kB ?_ ?c2 ?c3 ?c4 ?c5; (case kA => exact rfl); (case kF => exact rfl); (case kK => assumption); (case k1 => k_asm); (case k2 => k_asm); (case k3 => k_asm); (case k5 => k_asm); (case k6 => k_is); (case k7 => k_is); (case k8 => exact room_d (by assumption)); (case k9 => first | exact BindsTo.of_eq rfl | exact binds_K (by k_in) rfl (by k_is) rfl rfl rfl); (case c5 => decide); (case kB => exact locs rfl); (case c2 => exact rfl); (case c3 => exact rfl); (case c4 => exact rfl); k_whole; intro g' L' h' FG' F' N' B' X' T' GS; replace GS := gsub_all GS; (try dsimp only); (try k_fold))))
local macro_rules | `(tactic| k_room) => `(tactic| (simp only [depth_under_make, depth_under_kw, depth_in1, depth_deeper, depth_caller]; omega))
local macro_rules | `(tactic| walk_at "execs cons") => `(tactic| (refine wpAny_execs_cons ?_; (try dsimp only)))
local macro_rules | `(tactic| walk_at "call ref") => `(tactic| (k_here; k_dflt (refine' wpAny_call (sio_make ?k1 ?k2 ?_); (case k1 => k_asm); (case k2 => k_asm); k_whole)))
local macro_rules | `(tactic| walk_at "call builtin:object.__new__") => `(tactic| (k_here; k_dflt (refine' wpAny_call (sio_objnew ?k1 ?k2 ?k3 ?_); (case k1 => k_asm); (case k2 => k_asm); (case k3 => k_asm); k_whole; intro x' d' h' F' N' l1 l2; (try k_lt l1); (try k_lt2 l2); (try k_sweep))))
local macro_rules | `(tactic| walk_at "Exists") => `(tactic| (k_here; k_dflt (refine' ⟨_, _, rfl, Fr.keep ?ka, News.get ?kb ?kc, ?_⟩; (case ka => k_asm); (case kb => k_asm); (case kc => k_mem); k_enter)))
local macro_rules | `(tactic| walk_at "call type:collections.deque") => `(tactic| (k_here; k_dflt (refine' newDeque_N ?k1 ?k2 ?_; (case k1 => k_asm); (case k2 => k_asm); k_whole; intro x' h' F' N' l1; (try k_lt l1); (try k_sweep))))
local macro_rules | `(tactic| walk_at "my_enterT") => `(tactic| (refine wpAny_call ?_; k_dflt (refine' code_defT ?k1 ?k2 ?k4 ?kX ?kT ?kD ?kA ?kF ?kK ?k6 ?k7 ?k8 ?k9 ?kB ?_ ?c2 ?c3 ?c4 ?c5; (case kA => exact rfl); (case kF => exact rfl); (case kK => assumption); (case k1 => k_asm); (case k2 => k_asm); (case kX => assumption); (case kT => assumption); (case kD => assumption); (case k4 => first | exact News.nil | k_asm); (case k6 => k_is); (case k7 => k_is); (case k8 => exact room_d (by assumption)); (case k9 => first | exact BindsTo.of_eq rfl | exact binds_K (by k_in) rfl (by k_is) rfl rfl rfl); (case c5 => decide); (case kB => exact locs rfl); (case c2 => exact rfl); (case c3 => exact rfl); (case c4 => exact rfl); k_whole; intro g' L' h' FG' F' N' B' X' T' D' GS; refine wp_noexc ?_; (try dsimp only); (try k_fold))))
theorem lex_pack {P : Params} {h₀ h : Heap} {L fs pb io iod lex ld : Addr} {p1 p2 : Addr × Obj} {k0 k1 k2 k3 k4 k5 k6 k7 k8 k9 k10 k11 k12 k13 k14 k15 k16 k17 k18 k19 k20 k21 v4 v5 v6 v8 v9 v10 v14 v18 v19 v20 ts lt tt pt : Tok} {buf wc : Str} (hwc : wc = t wch)
    (N : News h₀ L h [(fs, dqObj), (pb, dqObj), (io, instObj 594 iod), (iod, dictOf [e P "_StringIO__newline" k19 (.str (t "\n") v19), e P "_StringIO__buf" k20 (.str buf v20), e P "_StringIO__pos" k21 (.int 0 pt)] 3), p1, p2, (lex, instObj 729 ld), (ld, dictOf [e P "instream" k0 (.ref io), e P "infile" k1 (.none), e P "posix" k2 (.bool true), e P "eof" k3 (.none), e P "commenters" k4 (.str (t "") v4), e P "wordchars" k5 (.str wc v5), e P "whitespace" k6 (.str (t " \t\r\n") v6), e P "whitespace_split" k7 (.bool true), e P "quotes" k8 (.str (t "'\"") v8), e P "escape" k9 (.str (t "\\") v9), e P "escapedquotes" k10 (.str (t "\"") v10), e P "state" k11 (.str (t " ") ts), e P "pushback" k12 (.ref pb), e P "lineno" k13 (.int 1 lt), e P "debug" k14 (.int 0 v14), e P "token" k15 (.str (t "") tt), e P "filestack" k16 (.ref fs), e P "source" k17 (.none), e P "_punctuation_chars" k18 (.str (t "") v18)] 19)]) :
    ∃ k v, News h₀ L h (lexObjs P k v lex ld io iod pb fs (.str (t " ") ts) 1 lt (t "") tt buf 0 pt) := by
  subst hwc
  refine ⟨fun i => [k0, k1, k2, k3, k4, k5, k6, k7, k8, k9, k10, k11, k12, k13, k14, k15, k16, k17, k18, k19, k20, k21].getD i 0, fun i => [0, 0, 0, 0, v4, v5, v6, 0, v8, v9, v10, 0, 0, 0, v14, 0, 0, 0, v18, v19, v20].getD i 0, fun p hp => ?_⟩
  rcases List.mem_cons.mp hp with rfl | hp
  · exact N _ (.head _)
  rcases List.mem_cons.mp hp with rfl | hp
  · exact N _ (.tail _ (.head _))
  rcases List.mem_cons.mp hp with rfl | hp
  · exact N _ (.tail _ (.tail _ (.head _)))
  rcases List.mem_cons.mp hp with rfl | hp
  · exact N _ (.tail _ (.tail _ (.tail _ (.head _))))
  rcases List.mem_cons.mp hp with rfl | hp
  · exact N _ (.tail _ (.tail _ (.tail _ (.tail _ (.tail _ (.tail _ (.head _)))))))
  rcases List.mem_cons.mp hp with rfl | hp
  · exact N _ (.tail _ (.tail _ (.tail _ (.tail _ (.tail _ (.tail _ (.tail _ (.head _))))))))
  cases hp
theorem c_split (w : World) (x : Str) (t1 : Tok) (hx : x.length ≤ 1000) (ws : List Str) (hw : MWords ws x.cps.toList) (hws : ws.length ≤ 1000) : ConTP w 20 741 [.str x t1] (fun _ _ => True) (fun v news => ∃ S acc c, v = .ref S ∧ news = [(S, lstObj acc c)] ∧ StrsAre acc.toList ws) := by
  dsimp only [ConTP]
  k_fill
  intro mean mg mb dp un gd cn cs a ccd cl outer A₀ base h₀ L m s Q E B F XB TB D hk hdp hun N hret
  have X0 := XB.keeps B.stays
  have T0 := TB.keeps B.stays
  walk_at "my_enterT"
  k_steps
  rename News _ _ _ _ => N9
  rename Fr _ _ _ _ => F9
  obtain ⟨k, v, N8⟩ := lex_pack (by decide +kernel) N9
  clear N9
  k_dflt (refine' call_list_lex w k v _ _ _ _ _ _ ?hA ?hB ?hC ?hD ?hE x hx _ _ _ _ _ _ _ _ _ _ _ _ _ _ _ _ _ _ _ ?kB ?kX ?kT ?kD rfl ?k1 ?k2 ws _ 1 _ _ 0 _ ?l0 ?l1 (Nat.zero_le _) hw hws F9 N8 ?_)
  case kB => assumption
  case kX => assumption
  case kT => assumption
  case kD => assumption
  case hA => assumption
  case hB => exact And.left (And.right (And.right (by assumption)))
  case hC => assumption
  case hD => exact And.left (by assumption)
  case hE => exact And.left (by assumption)
  case k1 => (simp only [depth_under_make, depth_under_kw, depth_in1, depth_deeper, depth_caller]; omega)
  case k2 => (simp only [units_in1, units_deeper, Around.mark_units, units_caller]; omega)
  case l0 => decide
  case l1 => decide
  intro S h' tk' h₀' acc' c' T' F' B' D' H' N' hacc
  refine leaveT_ T' F' N' ?_
  intro h₀'' T'' F'' N'' B'' D'' H''
  exact hret _ _ _ _ _ T'' F'' B'' D'' (hbutT (fs := []) rfl (by assumption) H'') N'' (fresh_turn (by assumption) T' N') ⟨S, acc', c', rfl, rfl, hacc⟩
end Mine
end
section
set_option maxRecDepth 100000
set_option maxHeartbeats 8000000
namespace Mine
local macro_rules | `(tactic| walk_at "my_enterL") => `(tactic| (refine wpAny_call ?_; k_dflt (refine' code_defG ?k1 ?k2 ?k3 ?k4 ?k5 ?kA ?kF ?kK ?k6 ?k7 ?k8 ?k9 ?kB ?_ ?c2 ?c3 ?c4 ?c5; (case kA => exact rfl); (case kF => exact rfl); (case kK => assumption); (case k1 => k_asm); (case k2 => k_asm); (case k3 => k_asm); (case k4 => k_asm); (case k5 => k_asm); (case k6 => k_is); (case k7 => k_is); (case k8 => exact room_d (by assumption)); (case k9 => first | exact BindsTo.of_eq rfl | exact binds_K (by k_in) rfl (by k_is) rfl rfl rfl); (case c5 => decide); (case kB => exact locs rfl); (case c2 => exact rfl); (case c3 => exact rfl); (case c4 => exact rfl); k_whole; intro g' L' h' FG' F' N' B' X' T' GS; refine wp_noexc ?_; (try dsimp only); (try k_fold))))
local macro_rules | `(tactic| k_room) => `(tactic| (simp only [depth_under_make, depth_under_kw, depth_in1, depth_deeper, depth_caller]; omega))
local macro_rules | `(tactic| walk_at "execs cons") => `(tactic| (refine wpAny_execs_cons ?_; (try dsimp only); (try (refine gen_tk (fun tk => ?_)))))
theorem ext_empty {prog : Program} {w : World} {A : Around} {E : Value → Shared → Prop} {s : Shared} {h₀ : Heap} {L D b : Addr} {m : Str → Option Value} {news : List (Addr × Obj)} {g : Obj → List (Addr × Obj)} {es : List (Str × Tok)} {n2 : Nat} {Q : Value → Shared → Prop}
    (F : Fr h₀ L s.heap m) (N : News h₀ L s.heap news) (hb : (b, listOf (sv es).toArray n2) ∈ news) (U : UpdF D (listOf #[] 0) news g) (hz : es.length ≤ 1000)
    (h : ∀ h' c, Fr h₀ L h' m → News h₀ L h' (g (listOf (sv es).toArray c)) → Q .none { s with heap := h' }) : wpAny (model prog w) A (call (.builtin "list.extend") [.ref D, .ref b]) Q E s := by
  cases es with
  | nil => exact kxn_extend F N hb rfl (updF_upd U) (by decide) (by decide) (by decide) (fun h' F' N' => h h' 0 F' N')
  | cons p es =>
    have hl : (sv (p :: es)).toArray.size ≤ 1000 := by rw [List.size_toArray, sv_length]; exact hz
    refine kl_extend (l := sv (p :: es)) F N hb ?_ ?_ (updF_upd U) (by simp) (by decide) ?_ (fun h' F' N' => h h' _ F' N')
    · simp
    · simp [sv]
    · rw [sizeLine_eq]; simp only [List.size_toArray, List.length_nil, Nat.zero_add] at hl ⊢; omega
local macro_rules | `(tactic| walk_at "call builtin:list.extend") => `(tactic| (k_here; k_dflt (refine' ext_empty ?F ?N ?b ?U ?z ?_; (case F => k_asm); (case N => k_asm); (case b => k_mem); (case U => k_updF); (case z => omega); intro h' c' F' N'; (try dsimp only at N'); (try k_sweep))))
theorem ent_pack1 {P : Params} {h0 g h : Heap} {L : Addr} {S D U x d : Nat} {o : Obj} {k0 k1 k2 k3 : Tok} {c cu cd : Nat} {es : List (Str × Tok)} (G : GSub h0 g ([(S, o)].map (·.1)))
    (N : News g L h [(D, listOf (sv es).toArray c), (U, listOf #[] cu), (x, instObj 779 d), (d, dictOf [e P "useragents" k0 (.ref U), e P "rulelines" k1 (.ref D), e P "delay" k2 .none, e P "req_rate" k3 .none] cd), (S, o)]) (hD : S < D) (hU : S < U) (hx : S < x) (hd : S < d) : EntF P h0 h x es := by
  refine ⟨fun i => [k0, k1, k2, k3].getD i 0, d, U, D, c, cu, cd, fun p hp => fresh_one G N p ?_ ?_⟩
  · exact List.mem_append_left [(S, o)] hp
  · rcases List.mem_cons.mp hp with rfl | hp
    · exact Nat.ne_of_gt hD
    rcases List.mem_cons.mp hp with rfl | hp
    · exact Nat.ne_of_gt hU
    rcases List.mem_cons.mp hp with rfl | hp
    · exact Nat.ne_of_gt hx
    rw [List.mem_singleton.mp hp]; exact Nat.ne_of_gt hd
theorem c_record (w : World) (S : Nat) (es : List (Str × Tok)) (n : Nat) (hz : es.length ≤ 900) :
    ConF w 6 832 [.ref S] [(S, listOf (sv es).toArray n)] (fun h h' v => ∃ r, v = .ref r ∧ EntF w.params h h' r es) := by
  dsimp only [ConF]
  k_fill
  intros
  rename_i N0 hret
  walk_at "my_enterL"
  rename GSub _ _ _ => GS
  k_steps
  rename Fr _ _ _ _ => F5
  rename News _ _ _ _ => N5
  clear F5 N5
  rename Fr _ _ _ _ => F6
  rename News _ _ _ _ => N6
  refine hret _ _ _ (ext_one N0 GS F6 N6 (.tail _ (.tail _ (.tail _ (.tail _ (.head _)))))) ⟨_, rfl, ent_pack1 GS N6 ?_ ?_ ?_ ?_⟩
  all_goals omega
end Mine
end
section
open PySem.Spec PySem.Calls
set_option maxRecDepth 100000
namespace Mine
section
variable {w : World} {b : Heap} {A₀ : Around} {mean : ExcName → Option Value} {mg mb : Str → Option Value} {dp un : Nat} {gd : Option (List Code)} {cn : Str} {a : Addr} {ccd : Value} {L : Addr} {m : Str → Option Value} {s : Shared} {E : Value → Shared → Prop}
def EntsIn (P : Params) (R : List (Addr × List (Str × Tok))) (nw : List (Addr × Obj)) : Prop := ∀ q ∈ R, ∃ (k : Nat → Tok) (d ua rl : Addr) (c cu cd : Nat), ∀ p ∈ entL P k q.1 d ua rl q.2 c cu cd, p ∈ nw
theorem sv_arr {acc : Array Value} {ws : List Str} (h : StrsAre acc.toList ws) : ∃ es, acc = (sv es).toArray ∧ es.map (·.1) = ws := by
  obtain ⟨es, e1, e2⟩ := sv_of h
  exact ⟨es, Array.toList_inj.mp (by rw [e1]), e2⟩
set_option maxHeartbeats 1000000 in
theorem s_records (cx : Cx w b A₀ mean mg mb dp un lawS) {cl : List (Str × Addr)} {Li : Addr} (F : Fr b L s.heap m) {l : List (Str × Tok)} {k : Nat} {X : Nat → List Str} (hm : m (t "lines") = some (.ref Li)) {ctx : List (Addr × Obj)} (at0 : At [L] s.heap ctx) (hLi : (Li, ({ cls := .type "list", data := .seq (sv l).toArray k } : Obj)) ∈ ctx) (hl : l.length = 3)
    (hw : ∀ (j : Nat) q, l[j]? = some q → MWords (X j) q.1.cps.toList ∧ q.1.length ≤ 1000 ∧ (X j).length ≤ 100) {Q : Flow → Shared → Prop}
    (hQ : ∀ D h tk (q0 q1 q2 : Addr × List (Str × Tok)), Fr b L h (fun z => if z = t "records" then some (.ref D) else m z) → At [L] h ((D, LCg.lst [.ref q0.1, .ref q1.1, .ref q2.1]) :: ctx) → EntO w.params [L] h q0.1 q0.2 → EntO w.params [L] h q1.1 q1.2 → EntO w.params [L] h q2.1 q2.2 → q0.2.map (·.1) = X 0 → q1.2.map (·.1) = X 1 → q2.2.map (·.1) = X 2 → Q .next { s with heap := h, toks := tk }) :
    wpAny (model PySem.Challenge.rw_ny0363_01.row.prog w) (ktrTop dp un gd cn lawS L a ccd cl []) (exec (lw 3) (envX cn lawS L a ccd cl)) Q E s := by
  with_unfolding_all refine compA_assign (J := fun i ys nw => ∃ R : List (Addr × List (Str × Tok)), R.length = i ∧ ys = R.map (fun q => .ref q.1) ∧ EntsIn w.params R nw ∧ ∀ (j : Nat) q, R[j]? = some q → q.2.map (·.1) = X j) (cx := ctx) (m := m) (b := b) (cl := []) rfl rfl rfl rfl (by decide) rfl (by decide) rfl rfl rfl F at0 hLi rfl rfl (by rw [List.size_toArray, sv_length, hl, sizeLine_eq]; decide) ?ev ⟨[], rfl, rfl, (fun _ z => nomatch z), fun j q e => by simp at e⟩ ?turn ?fin
  case ev =>
    intro Q' hQ'
    exact wpAny_Name (wpAny_loadName_local rfl rfl F.ns hm hQ') (by decide)
  case turn =>
    rintro C i v ys nw h tk m₂ E hi ⟨R, hR, rfl, hin, hr⟩ F' hn hv at' k'
    obtain ⟨q, hq, rfl⟩ : ∃ q, l[i]? = some q ∧ v = .str q.1 q.2 := by
      rw [List.getElem?_toArray] at hi
      unfold sv at hi
      rw [List.getElem?_map] at hi
      cases e : l[i]? with
      | none => rw [e] at hi; cases hi
      | some q => rw [e] at hi; exact ⟨q, rfl, (Option.some.inj hi).symm⟩
    obtain ⟨w1, w2, w3⟩ := hw i q hq
    refine wpAny_tests_nil ?_
    simp only [if_true]
    refine ev_call1 (KF := K w.params) (fa := 832) cx.X (by kernel_rfl) (fun Q' hQ' => LCgL.ld_global F' cx.X cx.T (by kernel_rfl) hQ' rfl rfl rfl (by decide)) ?_
    refine ev_call1 (KF := K w.params) (fa := 741) cx.X (by kernel_rfl) (fun Q' hQ' => LCgL.ld_global F' cx.X cx.T (by kernel_rfl) hQ' rfl rfl rfl (by decide)) ?_
    refine ldVarK (s := { s with heap := h, toks := tk }) hn hv ⟨F'.keep, ?_⟩ rfl rfl (by decide)
    refine law_tp cx (c_split w q.1 q.2 w2 (X i) w1 (by omega)) (by decide) F' trivial fun v1 h1 tk1 nw1 k1 F1 N1 f1 P1 => ?_
    obtain ⟨S, acc, c, rfl, rfl, hacc⟩ := P1
    obtain ⟨es, rfl, he⟩ := sv_arr hacc
    refine ⟨F1.keep, ?_⟩
    refine law_f cx (c_record w S es c ?_) (by decide) F1 N1 fun v2 h2 tk2 X2 F2 P2 => ?_
    · have := congrArg List.length he
      rw [List.length_map] at this
      omega
    obtain ⟨r, rfl, kk, d, ua, rl, c', cu, cd, hE⟩ := P2
    refine ⟨h2, tk2, entL w.params kk r d ua rl es c' cu cd, rfl, F2, fun a o e n => X2 _ _ (k1 a o e n), fun p hp => ⟨(hE p hp).1, dom_keep F1 k1 (hE p hp).2⟩, R ++ [(r, es)], by simp [hR], by simp, fun q' hq' => ?_, fun j q' e => ?_⟩
    · rcases List.mem_append.mp hq' with z | z
      · obtain ⟨k1, d1, u1, l1, c1, c2, c3, h1⟩ := hin q' z
        exact ⟨k1, d1, u1, l1, c1, c2, c3, fun p hp => List.mem_append_right _ (h1 p hp)⟩
      · rw [List.mem_singleton.mp z]
        exact ⟨kk, d, ua, rl, c', cu, cd, fun p hp => List.mem_append_left _ hp⟩
    · rw [List.getElem?_append] at e
      split at e
      · exact hr j q' e
      · rename_i hj
        have : j - R.length = 0 := by
          by_cases z : j - R.length = 0
          · exact z
          · rw [List.getElem?_eq_none (by simp; omega)] at e; cases e
        rw [this] at e
        cases e
        have : j = i := by omega
        rw [this]; exact he
  case fin =>
    rintro D h tk ys nw F' at' ⟨R, hR, rfl, hin, hr⟩
    rw [List.size_toArray, sv_length, hl] at hR
    match R, hR with
    | [q0, q1, q2], _ =>
      have ent : ∀ q ∈ [q0, q1, q2], EntO w.params [L] h q.1 q.2 := fun q hq => by
        obtain ⟨k1, d1, u1, l1, c1, c2, c3, h1⟩ := hin q hq
        exact ⟨k1, d1, u1, l1, c1, c2, c3, fun p hp => at' p (.tail _ (List.mem_append_left _ (h1 p hp)))⟩
      refine hQ D h tk q0 q1 q2 F' (at'.sub fun p hp => ?_) (ent q0 (.head _)) (ent q1 (.tail _ (.head _))) (ent q2 (.tail _ (.tail _ (.head _)))) (hr 0 q0 rfl) (hr 1 q1 rfl) (hr 2 q2 rfl)
      rcases List.mem_cons.mp hp with rfl | hp
      · exact .head _
      · exact .tail _ (List.mem_append_right _ hp)
end
end Mine
end
section
open PySem.Spec PySem.Calls
set_option maxRecDepth 100000
namespace Mine
abbrev dT (ys : List Str) : PyData := .list (ys.map .str)
theorem canLay_strs {ys : List Str} (h : ∀ y ∈ ys, PyData.strOk y = true) : PyData.canLayAll0 (ys.map .str) = true := by
  induction ys with
  | nil => rfl
  | cons y ys ih =>
    simp only [List.map_cons, PyData.canLayAll0, PyData.canLay0, h y (.head _), ih fun z hz => h z (.tail _ hz), Bool.and_self]
theorem depth_strs (ys : List Str) : PyData.depthAll (ys.map .str) = 0 := by
  induction ys with
  | nil => rfl
  | cons y ys ih =>
    show max 0 (PyData.depthAll (ys.map .str)) = 0
    rw [ih]; rfl
theorem shaped_t {ys : List Str} (h : ∀ y ∈ ys, PyData.strOk y = true) : SeqAt.shaped (dT ys) = true := by
  unfold SeqAt.shaped
  have h1 : (dT ys).canLay0 = true := canLay_strs h
  have h2 : (dT ys).depth = 1 := by show PyData.depthAll _ + 1 = 1; rw [depth_strs]
  rw [h1, h2]; rfl
theorem shaped_tt {x y z : List Str} (hx : ∀ u ∈ x, PyData.strOk u = true) (hy : ∀ u ∈ y, PyData.strOk u = true) (hz : ∀ u ∈ z, PyData.strOk u = true) : SeqAt.shaped (.list [dT x, dT y, dT z]) = true := by
  unfold SeqAt.shaped
  have h1 : (PyData.list [dT x, dT y, dT z]).canLay0 = true := by
    show ((dT x).canLay0 && ((dT y).canLay0 && ((dT z).canLay0 && true))) = true
    rw [show (dT x).canLay0 = true from canLay_strs hx, show (dT y).canLay0 = true from canLay_strs hy, show (dT z).canLay0 = true from canLay_strs hz]; rfl
  have d : ∀ ys, (dT ys).depth = 1 := fun ys => by show PyData.depthAll _ + 1 = 1; rw [depth_strs]
  have h2 : (PyData.list [dT x, dT y, dT z]).depth = 2 := by
    show max (dT x).depth (max (dT y).depth (max (dT z).depth 0)) + 1 = 2
    rw [d, d, d]; rfl
  rw [h1, h2]; rfl
theorem eqv_strs (ys : List Str) : PyData.eqvAll (ys.map .str) (ys.map .str) = true := by
  induction ys with
  | nil => rfl
  | cons y ys ih =>
    show ((y == y) && _) = true
    rw [ih, beq_self_eq_true]; rfl
theorem eqv_t (ys : List Str) : PyData.eqv (dT ys) (dT ys) = true := eqv_strs ys
theorem eqv_tt (x y z : List Str) : PyData.eqv (.list [dT x, dT y, dT z]) (.list [dT x, dT y, dT z]) = true := by
  show (PyData.eqv (dT x) (dT x) && (PyData.eqv (dT y) (dT y) && (PyData.eqv (dT z) (dT z) && true))) = true
  rw [eqv_t, eqv_t, eqv_t]; rfl
theorem reads_strs (h : Heap) (es : List (Str × Tok)) : ReadsAll h (sv es) ((es.map (·.1)).map .str) [] := by
  induction es with
  | nil => exact .nil
  | cons q es ih => exact ReadsAll.cons (as := []) (bs := []) (Reads.str q.1 q.2) ih
theorem reads_t {h : Heap} {a : Addr} {es : List (Str × Tok)} {c : Nat} (e : h.get? a = some { cls := .type "list", data := .seq (sv es).toArray c }) : Reads h (.ref a) (dT (es.map (·.1))) [a] :=
  .list e rfl rfl (by rw [List.toList_toArray]; exact reads_strs h es)
theorem reads_tt {h : Heap} {a x y z : Addr} {es fs gs : List (Str × Tok)} {c c1 c2 c3 : Nat} (e : h.get? a = some { cls := .type "list", data := .seq [.ref x, .ref y, .ref z].toArray c }) (ex : h.get? x = some { cls := .type "list", data := .seq (sv es).toArray c1 }) (ey : h.get? y = some { cls := .type "list", data := .seq (sv fs).toArray c2 }) (ez : h.get? z = some { cls := .type "list", data := .seq (sv gs).toArray c3 }) :
    ∃ as, Reads h (.ref a) (.list [dT (es.map (·.1)), dT (fs.map (·.1)), dT (gs.map (·.1))]) as :=
  ⟨_, .list e rfl rfl (by rw [List.toList_toArray]; exact .cons (reads_t ex) (.cons (reads_t ey) (.cons (reads_t ez) .nil)))⟩
theorem row_ok (ns : List Int) (j : Nat) : ∀ u ∈ rowT primeT ns j, PyData.strOk u = true := fun u hu => by
  obtain ⟨x, _, rfl⟩ := List.mem_map.mp hu
  rcases prime_cases x with e | e | e | e | e | e <;> rw [e] <;> decide +kernel
section
variable {w : World} {b : Heap} {A₀ : Around} {mean : ExcName → Option Value} {mg mb : Str → Option Value} {dp un : Nat} {gd : Option (List Code)} {cn : Str} {a : Addr} {ccd : Value} {L : Addr} {m : Str → Option Value} {s : Shared} {E : Value → Shared → Prop} {cs : Scope}
/-- a record's rules -/
theorem attr_rl (cx : Cx w b A₀ mean mg mb dp un cs) {A : Around} {Q : Value → Shared → Prop} {k : Nat → Tok} {r d ua rl : Addr} {es : List (Str × Tok)} {c cu cd : Nat} {x : Bool} (F : Fr b L s.heap m) (hE : ∀ p ∈ entL w.params k r d ua rl es c cu cd, s.heap.get? p.1 = some p.2)
    (h : Q (.ref rl) { s with toks := s.toks + 1 }) : wpAny (model PySem.Challenge.rw_ny0363_01.row.prog w) A (getAttr (.ref r) (t "rulelines") x) Q E s :=
  get_own (K := K w.params) F cx.X ⟨hE _ (.tail _ (.tail _ (.head _))), rfl, rfl, hE _ (.tail _ (.tail _ (.tail _ (.head _))))⟩ (by kernel_rfl) (by kernel_rfl) (attr := none) (by kernel_rfl) (by kernel_rfl) (by kernel_rfl) rfl h
theorem ev_attr_rl (cx : Cx w b A₀ mean mg mb dp un cs) {A : Around} {Q : Value → Shared → Prop} {env : Env} {x : Str} {p1 p : Pos} {r : Addr} {es : List (Str × Tok)} (F : Fr b L s.heap m) (hE : Ent w.params s.heap r es)
    (ho : ∀ Q' : Value → Shared → Prop, Q' (.ref r) s → wpAny (model PySem.Challenge.rw_ny0363_01.row.prog w) A (eval (.Name x p1) env) Q' E s)
    (h : ∀ rl c tk, s.heap.get? rl = some (listOf (sv es).toArray c) → Q (.ref rl) { s with toks := tk })
    : wpAny (model PySem.Challenge.rw_ny0363_01.row.prog w) A (eval (.Attribute (.Name x p1) (t "rulelines") p) env) Q E s := by
  obtain ⟨k, d, ua, rl, c, cu, cd, hE⟩ := hE
  refine Attribute_any_ (ho _ ?_)
  exact attr_rl cx F hE (h rl c _ (hE _ (.head _)))
end
end Mine
end
section
open PySem.Spec PySem.Calls
set_option maxRecDepth 100000
namespace Mine
section
variable {w : World} {b : Heap} {A₀ : Around} {mean : ExcName → Option Value} {mg mb : Str → Option Value} {dp un : Nat} {gd : Option (List Code)} {cn : Str} {a : Addr} {ccd : Value} {L : Addr} {m : Str → Option Value} {s : Shared} {E : Value → Shared → Prop} {cs : Scope} {cl : List (Str × Addr)}
/-- the entries qs of the list Rc, their rules' lists rs -/
def Recs (P : Params) (L : Addr) (h : Heap) (qs rs : List Addr) : Prop := rs.length = qs.length ∧ ∀ (i : Nat) (r : Addr), qs[i]? = some r → ∃ rl, rs[i]? = some rl ∧ ∃ (k : Nat → Tok) (d ua : Addr) (es : List (Str × Tok)) (c cu cd : Nat), At [L] h (entL P k r d ua rl es c cu cd)
theorem rl_comp (cx : Cx w b A₀ mean mg mb dp un cs) {Q : Value → Shared → Prop} {env : Env} {scope : Scope} {p1 p2 p3 p4 p5 : Pos} {Rc : Addr} {kc : Nat} {qs rs : List Addr} (hclos : closureFor scope env = pure []) (hcell : ∀ y ∈ scope.names, y.2 ≠ .cell) (hkind : scope.kind = .function) (hnames : ∀ y ∈ scope.names, y.2 = .local → scope.names.lookup y.1 = some .local) (hx : scope.names.lookup (t "record") = some .local)
    (r1 : (relabel scope env).names.lookup (t "record") = some .local) (F : Fr b L s.heap m) (hL : env.locals = L) (hk : env.scope.kind = .function) (hl : env.kindOf (t "records") = some .local) (hm : m (t "records") = some (.ref Rc)) (at0 : At [L] s.heap [(Rc, { cls := .type "list", data := .seq (qs.map Value.ref).toArray kc })]) (hR : Recs w.params L s.heap qs rs) (hz : qs.length ≤ 1000)
    (hQ : ∀ D h tk, Fr b L h m → HBut [L] s.heap h → h.get? D = some (LCg.lst (rs.map .ref)) → Q (.ref D) { s with heap := h, toks := tk })
    (hs : ∀ x, foldedSetIterable (.Name (t "records") p4) env x = pure x) :
    wpAny (model PySem.Challenge.rw_ny0363_01.row.prog w) (ktrTop dp un gd cn cs L a ccd cl []) (eval (.ListComp (.Attribute (.Name (t "record") p1) (t "rulelines") p2) [⟨.Name (t "record") p3, .Name (t "records") p4, [], 0⟩] scope p5) env) Q E s := by
  refine compA_expr (J := fun i ys nw => nw = [] ∧ ys = (rs.take i).map .ref) rfl hclos hcell hkind hnames hx F at0 (.head _) rfl rfl (by rw [List.size_toArray, List.length_map, sizeLine_eq]; omega) ?ev ⟨rfl, rfl⟩ ?turn ?fin hs
  case ev =>
    intro Q' hQ'
    subst hL
    exact wpAny_Name (wpAny_loadName_local hk hl F.ns hm hQ') (by decide)
  case turn =>
    rintro C i v ys nw h tk m₂ E hi ⟨rfl, rfl⟩ F' hn hv at' k'
    rw [List.getElem?_toArray, List.getElem?_map] at hi
    cases e : qs[i]? with
    | none => rw [e] at hi; cases hi
    | some r =>
      rw [e] at hi
      cases hi
      obtain ⟨rl, hrl, k, d, ua, es, c, cu, cd, hE⟩ := hR.2 i r e
      have hE' := hE.but k'
      refine wpAny_tests_nil ?_
      simp only [if_true]
      refine Attribute_any_ (ldVarK (s := { s with heap := h, toks := tk }) hn hv ?_ hkind r1 (by decide))
      refine attr_rl cx F' (fun p hp => (hE' p hp).1) ?_
      exact ⟨h, tk + 1, [], rfl, F', fun _ _ e _ => e, (fun _ z => nomatch z), rfl, by rw [List.take_add_one, hrl, List.map_append]; rfl⟩
  case fin =>
    rintro D h tk ys nw F' at' k' fr ⟨rfl, rfl⟩
    refine hQ D h tk F' k' ?_
    have := (at' _ (.head _)).1
    rw [List.size_toArray, List.length_map, ← hR.1, List.take_length] at this
    exact this
end
end Mine
end
section
open PySem.Spec PySem.Calls
set_option maxRecDepth 100000
namespace Mine
/-- records and rows as the law has made them -/
structure LW (P : Params) (L : Addr) (h : Heap) (Rc Rw q0 q1 q2 r0 r1 r2 : Addr) (e0 e1 e2 f0 f1 f2 : List (Str × Tok)) : Prop where
  recs : At [L] h [(Rc, LCg.lst [.ref q0, .ref q1, .ref q2])]
  rows : At [L] h [(Rw, LCg.lst [.ref r0, .ref r1, .ref r2]), strL (r0, f0), strL (r1, f1), strL (r2, f2)]
  n0 : EntO P [L] h q0 e0
  n1 : EntO P [L] h q1 e1
  n2 : EntO P [L] h q2 e2
theorem EntO.but {P : Params} {fs : List Addr} {h h' : Heap} {r : Addr} {es : List (Str × Tok)} (x : EntO P fs h r es) (k : HBut fs h h') : EntO P fs h' r es := by
  obtain ⟨a, b, c, d, e, f, g, N⟩ := x
  exact ⟨a, b, c, d, e, f, g, N.but k⟩
theorem LW.but {P : Params} {L : Addr} {h h' : Heap} {Rc Rw q0 q1 q2 r0 r1 r2 : Addr} {e0 e1 e2 f0 f1 f2 : List (Str × Tok)} (x : LW P L h Rc Rw q0 q1 q2 r0 r1 r2 e0 e1 e2 f0 f1 f2) (k : HBut [L] h h') : LW P L h' Rc Rw q0 q1 q2 r0 r1 r2 e0 e1 e2 f0 f1 f2 :=
  ⟨x.recs.but k, x.rows.but k, x.n0.but k, x.n1.but k, x.n2.but k⟩
section
variable {w : World} {b : Heap} {A₀ : Around} {mean : ExcName → Option Value} {mg mb : Str → Option Value} {dp un : Nat} {gd : Option (List Code)} {cn : Str} {a : Addr} {ccd : Value} {L : Addr} {m : Str → Option Value} {s : Shared} {E : Value → Shared → Prop} {cs : Scope} {cl : List (Str × Addr)}
theorem LW.recs_ {P : Params} {h : Heap} {Rc Rw q0 q1 q2 r0 r1 r2 : Addr} {e0 e1 e2 f0 f1 f2 : List (Str × Tok)} (x : LW P L h Rc Rw q0 q1 q2 r0 r1 r2 e0 e1 e2 f0 f1 f2) :
    ∃ l0 l1 l2 c0 c1 c2, Recs P L h [q0, q1, q2] [l0, l1, l2] ∧ At [L] h [(l0, listOf (sv e0).toArray c0), (l1, listOf (sv e1).toArray c1), (l2, listOf (sv e2).toArray c2)] := by
  obtain ⟨a0, d0, u0, l0, c0, cu0, cd0, h0⟩ := x.n0
  obtain ⟨a1, d1, u1, l1, c1, cu1, cd1, h1⟩ := x.n1
  obtain ⟨a2, d2, u2, l2, c2, cu2, cd2, h2⟩ := x.n2
  refine ⟨l0, l1, l2, c0, c1, c2, ⟨rfl, fun i r e => ?_⟩, fun p hp => ?_⟩
  · match i with
    | 0 => cases e; exact ⟨l0, rfl, a0, d0, u0, e0, c0, cu0, cd0, h0⟩
    | 1 => cases e; exact ⟨l1, rfl, a1, d1, u1, e1, c1, cu1, cd1, h1⟩
    | 2 => cases e; exact ⟨l2, rfl, a2, d2, u2, e2, c2, cu2, cd2, h2⟩
    | i + 3 => simp at e
  · rcases List.mem_cons.mp hp with rfl | hp
    · exact h0 _ (.head _)
    rcases List.mem_cons.mp hp with rfl | hp
    · exact h1 _ (.head _)
    · rw [List.mem_singleton.mp hp]; exact h2 _ (.head _)
/-- the records' rules, read as the rows are -/
theorem rl_reads (cx : Cx w b A₀ mean mg mb dp un cs) {op : CmpOp} {Q : Value → Shared → Prop} {env : Env} {scope : Scope} {p1 p2 p3 p4 p5 p6 : Pos} {Rc Rw q0 q1 q2 r0 r1 r2 : Addr} {e0 e1 e2 f0 f1 f2 : List (Str × Tok)} (hclos : closureFor scope env = pure []) (hcell : ∀ y ∈ scope.names, y.2 ≠ .cell) (hkind : scope.kind = .function) (hnames : ∀ y ∈ scope.names, y.2 = .local → scope.names.lookup y.1 = some .local) (hx : scope.names.lookup (t "record") = some .local)
    (rr : (relabel scope env).names.lookup (t "record") = some .local) (F : Fr b L s.heap m) (hL : env.locals = L) (hk : env.scope.kind = .function) (hl : env.kindOf (t "records") = some .local) (hm : m (t "records") = some (.ref Rc)) (hl2 : env.kindOf (t "rows") = some .local) (hm2 : m (t "rows") = some (.ref Rw))
    (W : LW w.params L s.heap Rc Rw q0 q1 q2 r0 r1 r2 e0 e1 e2 f0 f1 f2) (x0 : e0.map (·.1) = f0.map (·.1)) (x1 : e1.map (·.1) = f1.map (·.1)) (x2 : e2.map (·.1) = f2.map (·.1))
    (hQ : ∀ D h tk as bs, Fr b L h m → HBut [L] s.heap h → Reads h (.ref D) (.list [dT (f0.map (·.1)), dT (f1.map (·.1)), dT (f2.map (·.1))]) as → Reads h (.ref Rw) (.list [dT (f0.map (·.1)), dT (f1.map (·.1)), dT (f2.map (·.1))]) bs → wpAny (model PySem.Challenge.rw_ny0363_01.row.prog w) (ktrTop dp un gd cn cs L a ccd cl []) (compareOp op (.ref D) (.ref Rw)) Q E { s with heap := h, toks := tk })
    (hs : ∀ x, foldedSetIterable (.Name (t "records") p4) env x = pure x) :
    wpAny (model PySem.Challenge.rw_ny0363_01.row.prog w) (ktrTop dp un gd cn cs L a ccd cl []) (eval (.ListComp (.Attribute (.Name (t "record") p1) (t "rulelines") p2) [⟨.Name (t "record") p3, .Name (t "records") p4, [], 0⟩] scope p5) env) (fun v s₁ => wpAny (model PySem.Challenge.rw_ny0363_01.row.prog w) (ktrTop dp un gd cn cs L a ccd cl []) (eval (.Name (t "rows") p6) env) (fun v' s₂ => wpAny (model PySem.Challenge.rw_ny0363_01.row.prog w) (ktrTop dp un gd cn cs L a ccd cl []) (compareOp op v v') Q E s₂) E s₁) E s := by
  obtain ⟨l0, l1, l2, c0, c1, c2, hR, hl'⟩ := W.recs_
  refine rl_comp (qs := [q0, q1, q2]) (rs := [l0, l1, l2]) (kc := 3) cx hclos hcell hkind hnames hx rr F hL hk hl hm W.recs hR (by simp) (fun D h tk F' k' hD => ?_) hs
  subst hL
  refine wpAny_Name (wpAny_loadName_local hk hl2 F'.ns hm2 ?_) (by decide)
  have at' := hl'.but k'
  obtain ⟨as, ra⟩ := reads_tt hD (at' _ (.head _)).1 (at' _ (.tail _ (.head _))).1 (at' _ (.tail _ (.tail _ (.head _)))).1
  have rw' := W.rows.but k'
  obtain ⟨bs, rb⟩ := reads_tt (rw' _ (.head _)).1 (rw' _ (.tail _ (.head _))).1 (rw' _ (.tail _ (.tail _ (.head _)))).1 (rw' _ (.tail _ (.tail _ (.tail _ (.head _))))).1
  rw [x0, x1, x2] at ra
  exact hQ D h tk as bs F' k' ra rb
theorem s_if (cx : Cx w b A₀ mean mg mb dp un lawS) {Rc Rw q0 q1 q2 r0 r1 r2 : Addr} {e0 e1 e2 f0 f1 f2 : List (Str × Tok)} {Q : Flow → Shared → Prop} (F : Fr b L s.heap m) (hm : m (t "records") = some (.ref Rc)) (hm2 : m (t "rows") = some (.ref Rw))
    (W : LW w.params L s.heap Rc Rw q0 q1 q2 r0 r1 r2 e0 e1 e2 f0 f1 f2) (x0 : e0.map (·.1) = f0.map (·.1)) (x1 : e1.map (·.1) = f1.map (·.1)) (x2 : e2.map (·.1) = f2.map (·.1)) (o0 : ∀ u ∈ f0.map (·.1), PyData.strOk u = true) (o1 : ∀ u ∈ f1.map (·.1), PyData.strOk u = true) (o2 : ∀ u ∈ f2.map (·.1), PyData.strOk u = true)
    (hQ : ∀ h tk, Fr b L h m → HBut [L] s.heap h → Q .next { s with heap := h, toks := tk }) :
    wpAny (model PySem.Challenge.rw_ny0363_01.row.prog w) (ktrTop dp un gd cn lawS L a ccd cl []) (exec (lw 4) (envX cn lawS L a ccd cl)) Q E s := by
  with_unfolding_all refine wpAny_If (wpAny_isTrue_Compare1 (rl_reads (op := .NotEq) cx rfl (by decide) rfl (by decide) rfl rfl F rfl rfl rfl hm rfl hm2 W x0 x1 x2 (fun D h tk as bs F' k' ra rb => ?_) (fun _ => rfl)))
  have hu := cx.hu
  refine ne_dataH ra rb (shaped_tt o0 o1 o2) (shaped_tt o0 o1 o2) (by show un + 64 < cLine; omega) ?_
  rw [eqv_tt]
  refine truthy_bool ?_
  simp only [Bool.not_true, Bool.false_eq_true, if_false]
  exact wpAny_execs_nil (hQ h tk F' k')
theorem s_ret (cx : Cx w b A₀ mean mg mb dp un lawS) {Rc Rw q0 q1 q2 r0 r1 r2 : Addr} {e0 e1 e2 f0 f1 f2 : List (Str × Tok)} {Q : Flow → Shared → Prop} (F : Fr b L s.heap m) (hm : m (t "records") = some (.ref Rc)) (hm2 : m (t "rows") = some (.ref Rw))
    (W : LW w.params L s.heap Rc Rw q0 q1 q2 r0 r1 r2 e0 e1 e2 f0 f1 f2) (x0 : e0.map (·.1) = f0.map (·.1)) (x1 : e1.map (·.1) = f1.map (·.1)) (x2 : e2.map (·.1) = f2.map (·.1)) (o0 : ∀ u ∈ f0.map (·.1), PyData.strOk u = true) (o1 : ∀ u ∈ f1.map (·.1), PyData.strOk u = true) (o2 : ∀ u ∈ f2.map (·.1), PyData.strOk u = true)
    (hQ : ∀ h tk, Fr b L h m → Q (.ret (.bool true)) { s with heap := h, toks := tk }) :
    wpAny (model PySem.Challenge.rw_ny0363_01.row.prog w) (ktrTop dp un gd cn lawS L a ccd cl []) (exec (lw 9) (envX cn lawS L a ccd cl)) Q E s := by
  with_unfolding_all refine wpAny_Return_some (wpAny_Compare1 (rl_reads (op := .Eq) cx rfl (by decide) rfl (by decide) rfl rfl F rfl rfl rfl hm rfl hm2 W x0 x1 x2 (fun D h tk as bs F' k' ra rb => ?_) (fun _ => rfl)))
  have hu := cx.hu
  refine eq_dataH ra rb (shaped_tt o0 o1 o2) (shaped_tt o0 o1 o2) (by show un + 64 < cLine; omega) ?_
  rw [eqv_tt]
  exact hQ h tk F'
end
end Mine
end
section
open PySem.Spec PySem.Calls
set_option maxRecDepth 100000
namespace Mine
section
variable {prog : Program} {w : World} {A : Around} {b : Heap} {L : Addr} {s : Shared} {env : Env} {E : Value → Shared → Prop}
/-- store a local name of the law's frame -/
theorem st_loc {m : Str → Option Value} {x : Str} {v : Value} {Q : Unit → Shared → Prop} (F : Fr b L s.heap m) (hL : env.locals = L) (hl : env.kindOf x = some .local) (hp : (env.scope.kind == .class || (env.scope.kind == .module && env.locals != env.globals)) = false)
    (h : ∀ h' tk, Fr b L h' (fun z => if z = x then some v else m z) → HBut [L] s.heap h' → Q () { s with heap := h', toks := tk }) : wpAny (model prog w) A (storeName env x v) Q E s := by
  subst hL
  exact wpAny_storeName_local hl F.ns (fun h' hn hs => h h' _ (F.set hn hs) fun a o e n => hs.extBut a o (fun z => n (List.mem_singleton.mpr z)) e) hp
theorem for_pairs {z : Addr} {fp wr : List Addr} {n : Nat} {Pt : Nat → Array Value → Prop} {St : Nat → Heap → Prop} {Mid : Nat → Addr → Heap → Prop} {x1 x2 : Str} {p1 p2 pt : Pos} {k : Nat} {body : List Stmt} {J : Nat → (Str → Option Value) → List (Addr × Obj) → Prop} {R : Result → Shared → Prop}
    (W : WalksT prog w A z fp wr n Pt St Mid) (hh : A.handled = none) (hL : env.locals = L) (hl1 : env.kindOf x1 = some .local) (hl2 : env.kindOf x2 = some .local) (hp : (env.scope.kind == .class || (env.scope.kind == .module && env.locals != env.globals)) = false)
    (hLf : L ∉ fp) (hb : ∀ a ∈ wr, b.get? a = none) (hfd : ∀ i h, St i h → ∀ a ∈ fp, ∃ o, h.get? a = some o) (hPt : ∀ i vals, Pt i vals → ∃ v1 v2, vals = #[v1, v2])
    (turn : ∀ i m ctx h tk v1 v2 (E : Value → Shared → Prop), i < n → Pt i #[v1, v2] → J i m ctx → Fr b L h (fun y => if y = x2 then some v2 else if y = x1 then some v1 else m y) → At [L] h ctx →
      wpAny (model prog w) A (execs body env) (fun f s' => f = .next ∧ ∃ h' tk' m' nw, s' = { s with heap := h', toks := tk' } ∧ Fr b L h' m' ∧ HBut [L] h h' ∧ (∀ p ∈ nw, h'.get? p.1 = some p.2 ∧ h.get? p.1 = none) ∧ J (i + 1) m' (nw ++ ctx)) E { s with heap := h, toks := tk })
    {h : Heap} {tk : Nat} {m : Str → Option Value} {ctx : List (Addr × Obj)} (st : St 0 h) (F : Fr b L h m) (at0 : At (fp ++ [L]) h ctx) (hJ : J 0 m ctx)
    (hR : ∀ h tk m ctx, Fr b L h m → At [L] h ctx → J n m ctx → R (.ok .next) { s with heap := h, toks := tk }) :
    codeAny (model prog w) A (.forLoop (.Tuple [.Name x1 p1, .Name x2 p2] k pt) (.ref z) body [] env) R { s with heap := h, toks := tk } := by
  have hLw : L ∉ wr := fun q => hLf (W.sub _ q)
  refine codeAny_forLoop_any (fun k' s' => ∃ h tk m i ctx, s' = { s with heap := h, toks := tk } ∧ i ≤ n ∧ k' = n + 1 - i ∧ St i h ∧ Fr b L h m ∧ At (fp ++ [L]) h ctx ∧ J i m ctx) ?_ (n + 1) ⟨h, tk, m, 0, ctx, rfl, Nat.zero_le _, rfl, st, F, at0, hJ⟩
  rintro k' s' ⟨h, tk, m, i, ctx, rfl, hi, rfl, st, F, at1, hJ⟩
  by_cases hlt : i < n
  · refine W.item i _ _ _ hlt st fun T vals h₂ tk₂ hP hTs hT hM hk₂ => ?_
    obtain ⟨v1, v2, rfl⟩ := hPt i vals hP
    have k2 : HBut wr h h₂ := fun a o e q => hk₂ a o q e
    refine W.go _ _ _ i T _ _ _ hM fun h₃ st₃ hk₃ => ?_
    have k3 : HBut wr h₂ h₃ := fun a o e q => hk₃ a o q e
    have k23 := hbut_trans k2 k3
    have F3 := fr_but F k23 hLw hb
    have at3 : At (fp ++ [L]) h₃ ctx := at1.but (hbut_more k23 fun a ha => List.mem_append_left _ (W.sub a ha))
    have hT3 : IsTup h₃ T #[v1, v2] := by
      obtain ⟨o, ho, r⟩ := hT
      exact ⟨o, k3 T o ho (W.apart i T _ hM), r⟩
    refine assign_Tuple_tuple hh hT3 rfl rfl fun h₄ he => ?_
    have X4 : HExt h₃ h₄ := fun a o e => he a o (Nat.ne_of_lt (Heap.lt_size e)) e
    have F4 := F3.keeps X4
    show wpAny _ _ (assignInOrder [assign (.Name x1 p1) env, assign (.Name x2 p2) env] [v1, v2]) _ _ _
    refine assignInOrder_cons (wpAny_assign_Name (st_loc (s := { s with heap := h₄, toks := tk₂ }) F4 hL hl1 hp fun h₅ tk₅ F5 k5 => ?_))
    refine assignInOrder_cons (wpAny_assign_Name (st_loc (s := { s with heap := h₅, toks := tk₅ }) F5 hL hl2 hp fun h₆ tk₆ F6 k6 => assignInOrder_nil ?_))
    have k56 : HBut [L] h₄ h₆ := hbut_trans k5 k6
    have st6 : St (i + 1) h₆ := W.frame _ _ _ st₃ fun a ha o e => k56 a o (X4 _ _ e) fun q => hLf (List.mem_singleton.mp q ▸ ha)
    have at6 : At (fp ++ [L]) h₆ ctx := (at3.ext X4).but (hbut_more k56 fun a ha => List.mem_append_right _ ha)
    refine wpAny_mono (turn i m ctx h₆ tk₆ v1 v2 _ hlt hP hJ F6 (at6.less fun a ha => List.mem_append_right _ ha)) (fun f s₃ hf => ?_) fun _ _ e => e
    obtain ⟨rfl, h', tk', m', nw, rfl, F', kk, fr, J'⟩ := hf
    refine ⟨n + 1 - (i + 1), by omega, h', tk', m', i + 1, nw ++ ctx, rfl, hlt, rfl, W.frame _ _ _ st6 fun a ha o e => kk a o e fun q => hLf (List.mem_singleton.mp q ▸ ha), F', At.append (fun p hp => ⟨(fr p hp).1, fun q => ?_⟩) (at6.but (hbut_more kk fun a ha => List.mem_append_right _ ha)), J'⟩
    have e := (fr p hp).2
    rcases List.mem_append.mp q with q | q
    · obtain ⟨o, ho⟩ := hfd _ _ st6 _ q
      rw [ho] at e; cases e
    · obtain ⟨o, _, _, ho, _⟩ := F6.ns
      rw [List.mem_singleton.mp q, ho] at e; cases e
  · obtain rfl : i = n := Nat.le_antisymm hi (Nat.not_lt.mp hlt)
    refine W.done _ _ _ st fun h₂ tk₂ hk₂ => wpAny_execs_nil ?_
    have k2 : HBut wr h h₂ := fun a o e q => hk₂ a o q e
    exact hR h₂ tk₂ m ctx (fr_but F k2 hLw hb) ((at1.but (hbut_more k2 fun a ha => List.mem_append_left _ (W.sub a ha))).less fun a ha => List.mem_append_right _ ha) hJ
end
end Mine
end
section
set_option maxRecDepth 100000
set_option maxHeartbeats 8000000
namespace Mine
def TextsStep (h₀ : Heap) (L : Addr) (s : Shared) (nw : List (Addr × Obj)) (Jn : (Str → Option Value) → Prop) (f : Flow) (s₃ : Shared) : Prop :=
  f = .next ∧ ∃ h' tk m₂ nw', s₃ = { s with heap := h', toks := tk } ∧ Fr h₀ L h' m₂ ∧ News h₀ L h' nw' ∧ (∀ p ∈ nw, p ∈ nw') ∧ Jn m₂
theorem for_texts {prog : Program} {w : World} {A : Around} {s : Shared} {env : Env} {h₀ : Heap} {m : Str → Option Value} {E : Value → Shared → Prop} {Q : Flow → Shared → Prop} {x : Str} {px pos : Pos} {iter : Expr} {body : List Stmt} {news : List (Addr × Obj)} {S : Addr} {es : List (Str × Tok)} {n : Nat}
    (J : Nat → (Str → Option Value) → Prop) (hh : A.handled = none) (hx : env.kindOf x = some .local) (hp : (env.scope.kind == .class || (env.scope.kind == .module && env.locals != env.globals)) = false)
    (F : Fr h₀ env.locals s.heap m) (N : News h₀ env.locals s.heap news) (hm : h₀.get? S = some (listOf (sv es).toArray n)) (h0 : J 0 m)
    (hev : ∀ Q' : Value → Shared → Prop, Q' (.ref S) s → wpAny (model prog w) A (eval iter env) Q' E s)
    (step : ∀ i p m₁ h₁ tk₁ I oI, es[i]? = some p → J i m₁ → Fr h₀ env.locals h₁ (fun y => if y = x then some (.str p.1 p.2) else m₁ y) → News h₀ env.locals h₁ ((I, oI) :: news) →
      wpAny (model prog w) A (execs body env) (TextsStep h₀ env.locals s ((I, oI) :: news) (J (i + 1))) E { s with heap := h₁, toks := tk₁ })
    (hQ : ∀ h' tk m', Fr h₀ env.locals h' m' → News h₀ env.locals h' news → J es.length m' → Q .next { s with heap := h', toks := tk })
    (hs : ∀ x, foldedSetIterable iter env x = pure x := by intro _; rfl)
    (hE : PassesOwn (model prog w) A env E := by passes_own) :
    wpAny (model prog w) A (exec (.For (.Name x px) iter body [] pos) env) Q E s := by
  refine wpAny_For (hev _ ?_) hs
  have hS : s.heap.IsList S (sv es).toArray := PySem.IsL.isList (n := n) (F.keep _ _ hm)
  refine wpAny_pyIter_list hS ?_
  have hL0 : env.locals < s.heap.objs.size := F.ns.lt
  have hk0 : HExt s.heap (s.heap.push { cls := .type "list_iterator", data := .fields #[.ref S, .int 0 0] }) := fun b o e => Heap.get?_push_of_some _ e
  have hI : (s.heap.push { cls := .type "list_iterator", data := .fields #[.ref S, .int 0 0] }).get? s.heap.objs.size = some { cls := .type "list_iterator", data := .fields #[.ref S, .int 0 0] } := Heap.get?_push_size _ rfl
  have F0 := F.keeps hk0
  have N0 := N.grown hk0
  have hlt : ∀ p ∈ news, p.1 ≠ s.heap.objs.size := fun p hp => Nat.ne_of_lt (Heap.lt_size (N p hp).1)
  have hI0 : h₀.get? s.heap.objs.size = none := by
    cases q : h₀.get? s.heap.objs.size with
    | none => rfl
    | some o => exact absurd (Heap.lt_size (F.keep _ _ q)) (Nat.lt_irrefl _)
  have hIL : s.heap.objs.size ≠ env.locals := (Nat.ne_of_lt hL0).symm
  generalize s.heap.objs.size = I at hI hlt hI0 hIL ⊢
  generalize s.heap.push { cls := .type "list_iterator", data := .fields #[.ref S, .int 0 0] } = hh0 at hI F0 N0 ⊢
  have hSI : S ≠ I := fun z => by rw [z, hI0] at hm; cases hm
  have W := Walks.list (prog := prog) (w := w) hh I S hSI (sv es).toArray
  have hsz : (sv es).toArray.size = es.length := by rw [List.size_toArray, sv_length]
  refine codeAny_forLoop (R := fun r s' => match r with | .ok f => Q f s' | .error e => cameBackBy (model prog w) A env E e s')
    (fun k s' => ∃ h' tk m' i, s' = { s with heap := h', toks := tk } ∧ h'.IsListIter I S i ∧ Fr h₀ env.locals h' m' ∧ News h₀ env.locals h' news ∧ J i m' ∧ i ≤ es.length ∧ k = es.length + 1 - i) ?_ (es.length + 1)
    ⟨hh0, s.toks, m, 0, rfl, ⟨_, hI, rfl, rfl⟩, F0, N0, h0, Nat.zero_le _, rfl⟩
  rintro k s' ⟨h', tk, m', i, rfl, hit, F', N', hJ, hi, rfl⟩
  have next : ∀ h₁ : Heap, (∀ b o, b ∉ [I] → h'.get? b = some o → h₁.get? b = some o) → Fr h₀ env.locals h₁ m' ∧ News h₀ env.locals h₁ news := fun h₁ hk₁ =>
    ⟨⟨F'.ns.at' fun o e => hk₁ _ o (by simpa using Ne.symm hIL) e, fun b o e => hk₁ b o (by simp only [List.mem_singleton]; rintro rfl; rw [hI0] at e; cases e) (F'.keep b o e), F'.above⟩, fun p hp => ⟨hk₁ _ _ (by simpa using hlt p hp) (N' p hp).1, (N' p hp).2⟩⟩
  have st : h'.IsListIter I S i ∧ h'.IsList S (sv es).toArray := ⟨hit, PySem.IsL.isList (n := n) (F'.keep _ _ hm)⟩
  by_cases hlt' : i < es.length
  · refine W.item i _ _ _ (by rw [hsz]; exact hlt') st fun v h₁ tk₁ hP hst₁ hk₁ => ?_
    obtain ⟨F₁, N₁⟩ := next h₁ hk₁
    have hv : v = .str es[i].1 es[i].2 := by
      have e1 : (sv es).toArray[i]? = some (.str es[i].1 es[i].2) := by
        rw [List.getElem?_toArray]
        unfold sv
        rw [List.getElem?_map, List.getElem?_eq_getElem hlt']; rfl
      have := hP.symm.trans e1
      exact Option.some.inj this
    subst hv
    refine wpAny_assign_Name (wpAny_storeName_local hx F₁.ns (fun h₂ hn₂ hs₂ => ?_) hp)
    have F₂ := F₁.set hn₂ hs₂
    obtain ⟨oI, hoI, hcI, hdI⟩ := hst₁.1
    have hoI₂ : h₂.get? I = some oI := (hs₂.2 I hIL).trans hoI
    have N₂ : News h₀ env.locals h₂ ((I, oI) :: news) := fun q hq => by
      rcases List.mem_cons.mp hq with rfl | hq
      · exact ⟨hoI₂, hIL, hI0⟩
      · exact (N₁.set hs₂) q hq
    refine wpAny_passesOwn hE (wpAny_mono (step i es[i] m' h₂ _ I oI (List.getElem?_eq_getElem hlt') hJ F₂ N₂) (fun f s₃ h₃ => ?_) fun _ _ e => e)
    obtain ⟨rfl, h₃', tk₃, m₂, nw', rfl, F₃, N₃, hsub, hJ₃⟩ := h₃
    exact ⟨es.length + 1 - (i + 1), by omega, h₃', tk₃, m₂, i + 1, rfl, ⟨oI, (N₃ _ (hsub _ (.head _))).1, hcI, hdI⟩, F₃, fun q hq => N₃ q (hsub q (.tail _ hq)), hJ₃, hlt', rfl⟩
  · have hin : i = es.length := by omega
    subst hin
    refine W.done _ _ _ (by rw [hsz]; exact st) fun h₁ tk₁ hk₁ => wpAny_execs_nil ?_
    obtain ⟨F₁, N₁⟩ := next h₁ hk₁
    exact hQ h₁ tk₁ m' F₁ N₁ hJ
end Mine
end
section
set_option maxRecDepth 100000
set_option maxHeartbeats 8000000
namespace Mine
local macro_rules | `(tactic| walk_at "my_enter") => `(tactic| (refine wpAny_call ?_; k_dflt (refine' code_defG ?k1 ?k2 ?k3 (News.nil) ?k5 ?kA ?kF ?kK ?k6 ?k7 ?k8 ?k9 ?kB ?_ ?c2 ?c3 ?c4 ?c5; (case kA => exact rfl); (case kF => exact rfl); (case kK => assumption); (case k1 => k_asm); (case k2 => k_asm); (case k3 => k_asm); (case k5 => k_asm); (case k6 => k_is); (case k7 => k_is); (case k8 => exact room_d (by assumption)); (case k9 => exact BindsTo.of_eq rfl); (case c5 => decide); (case kB => exact locs rfl); (case c2 => exact rfl); (case c3 => exact rfl); (case c4 => exact rfl); k_whole; intro g' L' h' FG' F' N' B' X' T' GS; replace GS := gsub_all GS; refine wp_noexc ?_; (try dsimp only); (try k_fold))))
local macro_rules | `(tactic| k_room) => `(tactic| (simp only [depth_under_make, depth_under_kw, depth_in1, depth_deeper, depth_caller]; omega))
local macro_rules | `(tactic| walk_at "execs cons") => `(tactic| (refine wpAny_execs_cons ?_; (try dsimp only); (try (refine gen_tk (fun tk => ?_)))))
local macro_rules | `(tactic| walk_at "eval Constant int") => `(tactic| (refine lc_int ?_; intro _ _; (try dsimp only)))
local macro_rules | `(tactic| walk_at "eval Constant str") => `(tactic| (refine lc_str ?_; intro _ _; (try dsimp only)))
local macro_rules | `(tactic| walk_at "call builtin:dict.get") => `(tactic| (k_here; k_dflt (refine' call_get2_strTab (D := primeD) (dd := PyData.int 0) ?k1 ?k2 ?_; (case k1 => assumption); (case k2 => exact PyProof.V.Flat.int _ _); intro v7 hv7; rw [val_look] at hv7; obtain ⟨t7, e7⟩ := hv7.int_inv; subst e7; clear hv7)))
theorem mul_val {prog : Program} {w : World} {A : Around} {E : Value → Shared → Prop} {h : Heap} {g : Array GenState} {d : Drawn} {n : Nat} {o : OsState} {Q : Value → Shared → Prop} {a : Int} {x : Str} {ta tb : Tok} (H : ∀ t tk, Q (.int (a * valOf x) t) ⟨h, g, d, tk, o⟩) :
    wpAny (model prog w) A (binaryOp .Mult (.int a ta) (.int (valOf x) tb)) Q E ⟨h, g, d, n, o⟩ := mul_int (H _ _) (PySem.IntMulOk.of_right (PySem.intBits_le_64 (by have := val_bits x; omega) (by have := val_bits x; omega)))
local macro_rules | `(tactic| walk_at "binaryOp Mult int int") => `(tactic| (k_here; k_dflt (refine mul_val ?_; intro _ _; (try dsimp only))))
abbrev vMap (S D : Addr) (it : Option Value) (v : Int) (tv : Tok) : Str → Option Value := fun y => if y = t "rule" then it else if y = t "value" then some (.int v tv) else if y = t "primes" then some (.ref D) else if y = t "rules" then some (.ref S) else none
theorem v_start {S D L : Addr} {g h : Heap} {tv : Tok} {f : Str → Option Value} (F : Fr g L h (fun y => if y = Str.ofString "value" then some (.int 1 tv) else if y = Str.ofString "primes" then some (.ref D) else f y)) (hf : ∀ y, f y = List.lookup y [(t "rules", .ref S)]) : Fr g L h (vMap S D none 1 tv) := fr_congr F fun y => by
  dsimp only [vMap]
  by_cases h1 : y = t "rule"
  · subst h1
    rw [hf]; rfl
  · rw [if_neg h1, hf, lookup_one]
theorem v_pack {S : Addr} {D : Nat} {L : Addr} {g h : Heap} {tv : Tok} {f : Str → Option Value} {o : Obj} (F : Fr g L h (fun y => if y = Str.ofString "value" then some (.int 1 tv) else if y = Str.ofString "primes" then some (.ref D) else f y)) (hf : ∀ y, f y = List.lookup y [(t "rules", .ref S)]) (N : News g L h [(D, o)]) (lo : (D == sysModules) = false) :
    ∃ D5 : Nat, Fr g L h (vMap S D5 none 1 tv) ∧ News g L h [(D5, o)] ∧ (D5 == sysModules) = false := ⟨D, v_start F hf, N, lo⟩
theorem v_turn {S D L : Addr} {g h : Heap} {v v' : Int} {tv tv' : Tok} {it : Option Value} {x : Value} (F : Fr g L h (fun y => if y = Str.ofString "value" then some (.int v' tv') else if y = t "rule" then some x else vMap S D it v tv y)) : Fr g L h (vMap S D (some x) v' tv') := fr_congr F fun y => by
  dsimp only [vMap]
  by_cases h1 : y = t "rule"
  · subst h1; rfl
  · by_cases h2 : y = t "value"
    · subst h2; rfl
    · simp only [if_neg h1, if_neg h2, if_neg (show ¬ y = Str.ofString "value" from h2)]
theorem prod_step {es : List (Str × Tok)} {i : Nat} {p : Str × Tok} (h : es[i]? = some p) : prodV ((es.take (i + 1)).map (·.1)) = prodV ((es.take i).map (·.1)) * valOf p.1 := by
  rw [List.take_add_one, h, List.map_append, prodV, List.foldl_append]; rfl
theorem c_value (w : World) (S : Nat) (es : List (Str × Tok)) (n : Nat) :
    Con w 4 818 [.ref S] (fun h => h.get? S = some (listOf (sv es).toArray n)) (fun _ _ v => ∃ tk, v = .int (prodV (es.map (·.1))) tk) := by
  dsimp only [Con]
  k_fill
  intros
  rename_i hS hret
  walk_at "my_enter"
  repeat' ((fail_if_success (with_reducible show wpAny _ _ (exec (Stmt.For _ _ _ _ _) _) _ _ _)); (first | (k_unfold; (try dsimp only)) | (k_end; wrow_close) | walk1 | (dsimp only; walk1) | (leave1; walk_say "STEP leave1"; try dsimp only) | fail "no step"))
  rename Fr _ _ _ _ => F5
  rename News _ _ _ _ => N5
  rename HExt _ _ => X5
  rename Obj.IsDictOf _ _ _ => hd5
  rename PyProof.V.FlatPairs _ _ _ => hf5
  obtain ⟨D5, F6, N6, lo5⟩ := v_pack (S := S) F5 (fun y => rfl) N5 (by assumption)
  clear F5 N5
  have S6 := X5 _ _ hS
  refine for_texts (fun i m₁ => ∃ it tv, m₁ = vMap S D5 it (prodV ((es.take i).map (·.1))) tv) rfl rfl rfl F6 N6 S6 ?J ?ev ?step ?fin
  case J => exact ⟨_, _, rfl⟩
  case ev => intro Q' hQ'; exact ld F6 rfl hQ'
  case step =>
    clear F6 N6
    rintro i p m₁ h₁ tk₁ I oI hp ⟨it, tv, rfl⟩ F₁ N₁
    have T6 := TabAt.ofNews (enc := PyData.str) (D := primeD) N₁ (.tail _ (.head _)) lo5 hd5 hf5
    clear hd5 hf5
    dsimp only [envOf] at F₁ N₁
    k_steps
    rename Fr _ _ _ _ => F7
    rename News _ _ _ _ => N7
    exact ⟨rfl, _, _, _, _, rfl, v_turn F7, N7, fun p h => h, _, _, by rw [prod_step hp]⟩
  case fin =>
    clear F6 N6
    rintro h₁ tk₁ m₁ F₁ N₁ ⟨it, tv, rfl⟩
    rw [List.take_length] at F₁
    dsimp only [envOf] at F₁ N₁
    k_steps
    refine' hret _ _ _ (ext2 ?G ?F) ?P; (case G => assumption); (case F => assumption); (case P => exact ⟨_, rfl⟩)
end Mine
end
section
open PySem.Spec PySem.Calls
set_option maxRecDepth 100000
namespace Mine
def forBody : Stmt → List Stmt
  | .For _ _ body _ _ => body
  | _ => []
theorem at_new {L : Addr} {h h' : Heap} {fp : List Addr} {ctx : List (Addr × Obj)} (x : At [L] h ctx) (k : HExt h h') (hf : ∀ a ∈ fp, h.objs.size ≤ a) : At (fp ++ [L]) h' ctx := fun p hp => ⟨k _ _ (x p hp).1, fun q => by
  rcases List.mem_append.mp q with q | q
  · exact absurd (Heap.lt_size (x p hp).1) (Nat.not_lt.mpr (hf _ q))
  · exact (x p hp).2 q⟩
section
variable {w : World} {b : Heap} {A₀ : Around} {mean : ExcName → Option Value} {mg mb : Str → Option Value} {dp un : Nat} {gd : Option (List Code)} {cn : Str} {a : Addr} {ccd : Value} {L : Addr} {m : Str → Option Value} {s : Shared} {E : Value → Shared → Prop} {cs : Scope} {cl : List (Str × Addr)} {A : Around} {env : Env}
theorem ev_loc {x : Str} {p : Pos} {v : Value} {M : Model} {Q : Value → Shared → Prop} (F : Fr b L s.heap m) (hL : env.locals = L) (hk : env.scope.kind = .function) (hl : env.kindOf x = some .local) (hm : m x = some v) (hd : (x == ("__debug__" : Str)) = false) (h : Q v s) : wpAny M A (eval (.Name x p) env) Q E s := by
  subst hL
  exact wpAny_Name (wpAny_loadName_local hk hl F.ns hm h) hd
/-- x[i] -/
theorem ev_item {prog : Program} {x : Str} {p1 p2 p3 : Pos} {k : Nat} {i : Int} {l : Addr} {vs : List Value} {n : Nat} {v : Value} {Q : Value → Shared → Prop} (F : Fr b L s.heap m) (hL : env.locals = L) (hk : env.scope.kind = .function) (hl : env.kindOf x = some .local) (hm : m x = some (.ref l)) (hd : (x == ("__debug__" : Str)) = false)
    (hl' : s.heap.get? l = some { cls := .type "list", data := .seq vs.toArray n }) (h0 : 0 ≤ i) (h1 : i < 2 ^ 63) (hv : vs[i.toNat]? = some v) (h : ∀ tk, Q v { s with toks := tk }) :
    wpAny (model prog w) A (eval (.Subscript (.Name x p1) (.Constant (.int i) k p2) p3) env) Q E s :=
  Subscript_ (ev_loc F hL hk hl hm hd (wpAny_Constant_int (item_litK (s := { s with toks := s.toks + 1 }) ⟨_, hl', rfl, n, rfl⟩ h0 h1 hv (h _))))
/-- x[1:] -/
theorem ev_tail {prog : Program} {x : Str} {p1 p2 p3 p4 : Pos} {k : Nat} {l : Addr} {v0 v1 v2 : Value} {n : Nat} {Q : Value → Shared → Prop} (F : Fr b L s.heap m) (hL : env.locals = L) (hk : env.scope.kind = .function) (hl : env.kindOf x = some .local) (hm : m x = some (.ref l)) (hd : (x == ("__debug__" : Str)) = false)
    (hl' : s.heap.get? l = some { cls := .type "list", data := .seq [v0, v1, v2].toArray n })
    (h : ∀ l' h' tk, s.heap.objs.size ≤ l' → HExt s.heap h' → h'.IsList l' #[v1, v2] → Q (.ref l') { s with heap := h', toks := tk }) :
    wpAny (model prog w) A (eval (.Subscript (.Name x p1) (.Slice (some (.Constant (.int 1) k p2)) none none p3) p4) env) Q E s := by
  refine Subscript_ (ev_loc F hL hk hl hm hd (wpAny_Slice ?_))
  show wpAny _ _ (eval (.Constant (.int 1) k p2) env) _ _ _
  refine wpAny_Constant_int (wpAny_pure (wpAny_pure ?_))
  refine slice_listK (s := { s with toks := s.toks + 1 }) (vl := .int 1 s.toks) (vu := .none) (items := [v0, v1, v2].toArray) ⟨_, hl', rfl, n, rfl⟩ (.int 1 _) .none ?_ (hsz := by rw [sizeLine_eq]; simp)
  refine h _ _ _ (Nat.le_succ _) (fun a o e => Heap.get?_push_of_some _ (Heap.get?_push_of_some _ e)) ?_
  have e : slicePick [v0, v1, v2].toArray (some 1) none none = #[v1, v2] := (kmk_pick_nat _ (a := 1) (b := 3) (by show sliceBounds (some 1) none none 3 = _; decide)).trans rfl
  have z : (s.heap.push { cls := .type "slice", data := .fields #[.int 1 s.toks, .none, .none] }).objs.size = s.heap.objs.size + 1 := Heap.size_push ..
  refine ⟨{ cls := .type "list", data := .seq (slicePick [v0, v1, v2].toArray (some 1) none none) }, ?_, rfl, 0, ?_⟩
  · rw [← z]; exact Heap.get?_push_size _ rfl
  · rw [e]
set_option maxHeartbeats 1000000 in
theorem s_for (cx : Cx w b A₀ mean mg mb dp un lawS) {Rc Rw q0 q1 q2 r0 r1 r2 : Addr} {J : Nat → (Str → Option Value) → List (Addr × Obj) → Prop} {ctx : List (Addr × Obj)} {Q : Flow → Shared → Prop} (F : Fr b L s.heap m) (hm : m (t "records") = some (.ref Rc)) (hm2 : m (t "rows") = some (.ref Rw))
    (hRc : s.heap.get? Rc = some (LCg.lst [.ref q0, .ref q1, .ref q2])) (hRw : s.heap.get? Rw = some (LCg.lst [.ref r0, .ref r1, .ref r2])) (at0 : At [L] s.heap ctx) (hJ : J 0 m ctx)
    (turn : ∀ i m ctx h tk q r (E : Value → Shared → Prop), ((i = 0 ∧ q = q1 ∧ r = r1) ∨ (i = 1 ∧ q = q2 ∧ r = r2)) → J i m ctx → Fr b L h (fun y => if y = t "row" then some (.ref r) else if y = t "record" then some (.ref q) else m y) → At [L] h ctx →
      wpAny (model PySem.Challenge.rw_ny0363_01.row.prog w) (ktrTop dp un gd cn lawS L a ccd cl []) (execs (forBody (lw 7)) (envX cn lawS L a ccd cl)) (fun f s' => f = .next ∧ ∃ h' tk' m' nw, s' = { s with heap := h', toks := tk' } ∧ Fr b L h' m' ∧ HBut [L] h h' ∧ (∀ p ∈ nw, h'.get? p.1 = some p.2 ∧ h.get? p.1 = none) ∧ J (i + 1) m' (nw ++ ctx)) E { s with heap := h, toks := tk })
    (hQ : ∀ h tk m ctx, Fr b L h m → At [L] h ctx → J 2 m ctx → Q .next { s with heap := h, toks := tk }) :
    wpAny (model PySem.Challenge.rw_ny0363_01.row.prog w) (ktrTop dp un gd cn lawS L a ccd cl []) (exec (lw 7) (envX cn lawS L a ccd cl)) Q E s := by
  with_unfolding_all refine wpAny_For (Call_ (Name_function_global rfl rfl (loadGlobal_builtin (env := envX cn lawS L a ccd cl) (show s.heap.Ns _ mg from (cx.T.keeps F.keep).g) (mg_none_of cx.X cx.T.g (by kernel_rfl)) (show s.heap.Ns _ mb from (cx.T.keeps F.keep).b) ((cx.T.builtins _ (by decide)).trans PyProof.Rows.Boot.zip) ?_) (by decide)))
  refine PyProof.Rows.callWith_type1 (spliced_more (ev_tail F rfl rfl rfl hm (by decide) hRc fun l1 h1 tk1 z1 X1 hl1 => spliced_more (ev_tail (s := { s with heap := h1, toks := tk1 }) (F.keeps X1) rfl rfl rfl hm2 (by decide) (X1 _ _ hRw) fun l2 h2 tk2 z2 X2 hl2 => spliced_none ?_)))
  have hl1' : h2.IsList l1 #[.ref q1, .ref q2] := hl1.at fun o e => X2 _ _ e
  refine call_zip_2 (s := { s with heap := h2, toks := tk2 }) hl1' hl2 fun h3 iz iTI iTO i1 i2 hsz X3 => ?_
  dsimp only at iz iTI iTO i1 i2 hsz X3 z2 ⊢
  have b1 : l1 < h2.objs.size := by obtain ⟨o, e, _⟩ := hl1'; exact Heap.lt_size e
  have b2 : l2 < h2.objs.size := by obtain ⟨o, e, _⟩ := hl2; exact Heap.lt_size e
  have g1 : s.heap.objs.size ≤ h1.objs.size := by
    obtain ⟨o, e, _⟩ := hl1
    exact Nat.le_of_lt (Nat.lt_of_le_of_lt z1 (Heap.lt_size e))
  generalize hN : h2.objs.size = N at *
  have X13 : HExt s.heap h3 := fun a o e => X3 _ _ (X2 _ _ (X1 _ _ e))
  have F3 := F.keeps X13
  have bL : L < s.heap.objs.size := F.ns.lt
  have D : ZipApart (N + 4) (N + 2) (N + 3) N (N + 1) l1 l2 := by
    constructor <;> (show (_ : Nat) ≠ _; omega)
  refine wpAny_pyIter_zip iz ?_
  have hfp : ∀ a ∈ [N + 4, N + 2, N + 3, N, N + 1, l1, l2], s.heap.objs.size ≤ a := by
    intro a ha
    simp only [List.mem_cons, List.not_mem_nil, or_false] at ha
    have g2 : s.heap.objs.size ≤ l2 := Nat.le_trans g1 z2
    rcases ha with e | e | e | e | e | e | e <;> rw [e] <;> (show (_ : Nat) ≤ _) <;> omega
  refine for_pairs (s := s) (J := J) (ctx := ctx) (WalksT.zip2 rfl (N + 4) (N + 2) (N + 3) N (N + 1) l1 l2 D #[.ref q1, .ref q2] #[.ref r1, .ref r2]) rfl rfl rfl rfl rfl ?_ ?_ ?_ ?_ ?_ ⟨iz, iTI, ⟨_, _, iTO⟩, i1, i2, hl1'.at (fun o e => X3 _ _ e), hl2.at (fun o e => X3 _ _ e)⟩ F3 (at_new at0 X13 hfp) hJ ?_
  · intro z
    exact absurd bL (Nat.not_lt.mpr (hfp _ z))
  · intro a ha
    refine Heap.get?_none_of_le (Nat.le_trans F.above (Nat.le_trans (Nat.le_of_lt bL) (hfp a ?_)))
    simp only [List.mem_cons, List.not_mem_nil, or_false] at ha ⊢
    rcases ha with e | e | e | e
    · exact .inl e
    · exact .inr (.inr (.inl e))
    · exact .inr (.inr (.inr (.inl e)))
    · exact .inr (.inr (.inr (.inr (.inl e))))
  · rintro i h ⟨c1, c2, ⟨_, _, c3⟩, ⟨_, c4, _⟩, ⟨_, c5, _⟩, ⟨_, c6, _⟩, ⟨_, c7, _⟩⟩ a ha
    simp only [List.mem_cons, List.not_mem_nil, or_false] at ha
    rcases ha with rfl | rfl | rfl | rfl | rfl | rfl | rfl
    · exact ⟨_, c1⟩
    · exact ⟨_, c2⟩
    · exact ⟨_, c3⟩
    · exact ⟨_, c4⟩
    · exact ⟨_, c5⟩
    · exact ⟨_, c6⟩
    · exact ⟨_, c7⟩
  · rintro i vals ⟨x, y, _, _, rfl⟩
    exact ⟨x, y, rfl⟩
  · rintro i m ctx h tk v1 v2 E hi ⟨x, y, hx, hy, e⟩ hJ F' at'
    have hi' : i < 2 := hi
    match i, hi' with
    | 0, _ =>
      cases hx; cases hy; cases e
      exact turn 0 m ctx h tk q1 r1 E (.inl ⟨rfl, rfl, rfl⟩) hJ F' at'
    | 1, _ =>
      cases hx; cases hy; cases e
      exact turn 1 m ctx h tk q2 r2 E (.inr ⟨rfl, rfl, rfl⟩) hJ F' at'
  · intro h tk m ctx F' at' hJ'
    exact hQ h tk m ctx F' at' hJ'
end
end Mine
end
section
open PySem.Spec PySem.Calls
set_option maxRecDepth 100000
namespace Mine
section
variable {prog : Program} {w : World} {A : Around} {b : Heap} {L : Addr} {s : Shared} {env : Env} {E : Value → Shared → Prop} {m : Str → Option Value}
theorem store3 {x1 x2 x3 : Str} {v1 v2 v3 : Value} {Q : Unit → Shared → Prop} (hh : A.handled = none) (F : Fr b L s.heap m) (hL : env.locals = L) (hl1 : env.kindOf x1 = some .local) (hl2 : env.kindOf x2 = some .local) (hl3 : env.kindOf x3 = some .local) (hp : (env.scope.kind == .class || (env.scope.kind == .module && env.locals != env.globals)) = false)
    (h : ∀ h' tk, Fr b L h' (fun z => if z = x1 then some v1 else if z = x2 then some v2 else if z = x3 then some v3 else m z) → HBut [L] s.heap h' → Q () { s with heap := h', toks := tk }) :
    wpAny (model prog w) A (newTuple [v1, v2, v3]) (fun v s₁ => wpAny (model prog w) A (unpackItems v 3 none) (fun items s₂ => wpAny (model prog w) A (assignInOrder ([x1, x2, x3].reverse.map fun n => bindName env n) items.reverse) Q E s₂) E s₁) E s := by
  refine wpAny_newObj_type ?_ (by show (3 : Nat) ≤ sizeLine; rw [sizeLine_eq]; decide)
  refine unpackItems_tuple hh (items := #[v1, v2, v3]) ⟨_, Heap.get?_push_size _ rfl, rfl, _, rfl⟩ fun h₁ he => ?_
  have X1 : HExt s.heap h₁ := fun a o e => he a o (Nat.ne_of_lt (Heap.lt_size (Heap.get?_push_of_some _ e))) (Heap.get?_push_of_some _ e)
  have F1 := F.keeps X1
  show wpAny _ _ (assignInOrder [bindName env x3, bindName env x2, bindName env x1] [v3, v2, v1]) _ _ _
  refine assignInOrder_cons (bindName_ (st_loc (s := { s with heap := h₁ }) F1 hL hl3 hp fun h₂ tk₂ F2 k2 => ?_))
  refine assignInOrder_cons (bindName_ (st_loc (s := { s with heap := h₂, toks := tk₂ }) F2 hL hl2 hp fun h₃ tk₃ F3 k3 => ?_))
  refine assignInOrder_cons (bindName_ (st_loc (s := { s with heap := h₃, toks := tk₃ }) F3 hL hl1 hp fun h₄ tk₄ F4 k4 => assignInOrder_nil ?_))
  exact h h₄ tk₄ F4 (hbut_trans (hext_but X1) (hbut_trans k2 (hbut_trans k3 k4)))
theorem store2 {x1 x2 : Str} {v1 v2 : Value} {Q : Unit → Shared → Prop} (hh : A.handled = none) (F : Fr b L s.heap m) (hL : env.locals = L) (hl1 : env.kindOf x1 = some .local) (hl2 : env.kindOf x2 = some .local) (hp : (env.scope.kind == .class || (env.scope.kind == .module && env.locals != env.globals)) = false)
    (h : ∀ h' tk, Fr b L h' (fun z => if z = x1 then some v1 else if z = x2 then some v2 else m z) → HBut [L] s.heap h' → Q () { s with heap := h', toks := tk }) :
    wpAny (model prog w) A (newTuple [v1, v2]) (fun v s₁ => wpAny (model prog w) A (unpackItems v 2 none) (fun items s₂ => wpAny (model prog w) A (assignInOrder ([x1, x2].reverse.map fun n => bindName env n) items.reverse) Q E s₂) E s₁) E s := by
  refine wpAny_newObj_type ?_ (by show (2 : Nat) ≤ sizeLine; rw [sizeLine_eq]; decide)
  refine unpackItems_tuple hh (items := #[v1, v2]) ⟨_, Heap.get?_push_size _ rfl, rfl, _, rfl⟩ fun h₁ he => ?_
  have X1 : HExt s.heap h₁ := fun a o e => he a o (Nat.ne_of_lt (Heap.lt_size (Heap.get?_push_of_some _ e))) (Heap.get?_push_of_some _ e)
  have F1 := F.keeps X1
  show wpAny _ _ (assignInOrder [bindName env x2, bindName env x1] [v2, v1]) _ _ _
  refine assignInOrder_cons (bindName_ (st_loc (s := { s with heap := h₁ }) F1 hL hl2 hp fun h₃ tk₃ F3 k3 => ?_))
  refine assignInOrder_cons (bindName_ (st_loc (s := { s with heap := h₃, toks := tk₃ }) F3 hL hl1 hp fun h₄ tk₄ F4 k4 => assignInOrder_nil ?_))
  exact h h₄ tk₄ F4 (hbut_trans (hext_but X1) (hbut_trans k3 k4))
/-- two names from a tuple that a call has handed out -/
theorem unpack2 {x1 x2 : Str} {p1 p2 pt : Pos} {k : Nat} {v1 v2 : Value} {T : Addr} {Q : Unit → Shared → Prop} (hh : A.handled = none) (F : Fr b L s.heap m) (hT : IsTup s.heap T #[v1, v2]) (hL : env.locals = L) (hl1 : env.kindOf x1 = some .local) (hl2 : env.kindOf x2 = some .local) (hp : (env.scope.kind == .class || (env.scope.kind == .module && env.locals != env.globals)) = false)
    (h : ∀ h' tk, Fr b L h' (fun z => if z = x2 then some v2 else if z = x1 then some v1 else m z) → HBut [L] s.heap h' → Q () { s with heap := h', toks := tk }) :
    wpAny (model prog w) A (assign (.Tuple [.Name x1 p1, .Name x2 p2] k pt) env (.ref T)) Q E s := by
  refine assign_Tuple_tuple hh hT rfl rfl fun h₁ he => ?_
  have X1 : HExt s.heap h₁ := fun a o e => he a o (Nat.ne_of_lt (Heap.lt_size e)) e
  have F1 := F.keeps X1
  show wpAny _ _ (assignInOrder [assign (.Name x1 p1) env, assign (.Name x2 p2) env] [v1, v2]) _ _ _
  refine assignInOrder_cons (wpAny_assign_Name (st_loc (s := { s with heap := h₁ }) F1 hL hl1 hp fun h₃ tk₃ F3 k3 => ?_))
  refine assignInOrder_cons (wpAny_assign_Name (st_loc (s := { s with heap := h₃, toks := tk₃ }) F3 hL hl2 hp fun h₄ tk₄ F4 k4 => assignInOrder_nil ?_))
  exact h h₄ tk₄ F4 (hbut_trans (hext_but X1) (hbut_trans k3 k4))
end
section
variable {w : World} {b : Heap} {A₀ : Around} {mean : ExcName → Option Value} {mg mb : Str → Option Value} {dp un : Nat} {gd : Option (List Code)} {cn : Str} {a : Addr} {ccd : Value} {L : Addr} {m : Str → Option Value} {s : Shared} {E : Value → Shared → Prop} {cs : Scope} {cl : List (Str × Addr)} {A : Around} {env : Env}
theorem s_three {Rc q0 : Addr} {v1 v2 : Value} {k : Nat} {Q : Flow → Shared → Prop} (F : Fr b L s.heap m) (hm : m (t "records") = some (.ref Rc)) (hRc : s.heap.get? Rc = some { cls := .type "list", data := .seq [.ref q0, v1, v2].toArray k })
    (hQ : ∀ h tk, Fr b L h (fun z => if z = t "whole" then some (.ref q0) else if z = t "low" then some (.ref q0) else if z = t "high" then some (.ref q0) else m z) → HBut [L] s.heap h → Q .next { s with heap := h, toks := tk }) :
    wpAny (model PySem.Challenge.rw_ny0363_01.row.prog w) (ktrTop dp un gd cn lawS L a ccd cl []) (exec (lw 5) (envX cn lawS L a ccd cl)) Q E s := by
  with_unfolding_all refine Assign_Tuple_swapped (names := [t "whole", t "low", t "high"]) (Tuple_ (spliced_more (ev_item F rfl rfl rfl hm (by decide) hRc (by decide) (by decide) rfl fun tk1 => ?_)))
  with_unfolding_all refine spliced_more (ev_item (s := { s with toks := tk1 }) F rfl rfl rfl hm (by decide) hRc (by decide) (by decide) rfl fun tk2 => ?_)
  with_unfolding_all refine spliced_more (ev_item (s := { s with toks := tk2 }) F rfl rfl rfl hm (by decide) hRc (by decide) (by decide) rfl fun tk3 => spliced_none ?_)
  with_unfolding_all exact store3 (s := { s with toks := tk3 }) rfl F rfl rfl rfl rfl rfl hQ
/-- _law_value of a name's item -/
theorem ev_val (cx : Cx w b A₀ mean mg mb dp un cs) {env : Env} {e1 : Expr} {p1 p2 : Pos} {l : Addr} {es : List (Str × Tok)} {c : Nat} {Q : Value → Shared → Prop} (F : Fr b L s.heap m) (hg : env.globals = mainGlobals) (hk : env.scope.kind = .function) (hx : env.kindOf (t "_law_value") = some .globalImplicit) (hl : s.heap.get? l = some (listOf (sv es).toArray c))
    (he : wpAny (model PySem.Challenge.rw_ny0363_01.row.prog w) (ktrTop dp un gd cn cs L a ccd cl []) (eval e1 env) (fun v s₁ => v = .ref l ∧ ∃ tk, s₁ = { s with toks := tk }) E s)
    (h : ∀ h' tk tv, HExt s.heap h' → Fr b L h' m → Q (.int (prodV (es.map (·.1))) tv) { s with heap := h', toks := tk }) (hst : starEach [e1] env = [(false, eval e1 env)] := by rfl) :
    wpAny (model PySem.Challenge.rw_ny0363_01.row.prog w) (ktrTop dp un gd cn cs L a ccd cl []) (eval (.Call (.Name (t "_law_value") p1) [e1] [] p2) env) Q E s := by
  refine ev_call1 (KF := K w.params) (fa := 818) cx.X (by kernel_rfl) (fun Q' hQ' => Name_function_global hk hx (loadGlobal_global (env := env) (show s.heap.Ns env.globals mg from hg ▸ (cx.T.keeps F.keep).g) (mg_of cx.X cx.T.g (by kernel_rfl)) hQ') (by decide)) ?_ hst
  refine wpAny_mono he (fun v s₁ hv => ?_) fun _ _ z => z
  obtain ⟨rfl, tk, rfl⟩ := hv
  refine ⟨F.keep, law_con cx (c_value w l es c) (by decide) F hl fun v h' tk' X F' P => ?_⟩
  obtain ⟨tv, rfl⟩ := P
  exact h h' tk' tv X F'
theorem s_two (cx : Cx w b A₀ mean mg mb dp un lawS) {Rw r0 : Addr} {v1 v2 : Value} {k c : Nat} {f0 : List (Str × Tok)} {Q : Flow → Shared → Prop} (F : Fr b L s.heap m) (hm : m (t "rows") = some (.ref Rw)) (hRw : s.heap.get? Rw = some { cls := .type "list", data := .seq [.ref r0, v1, v2].toArray k }) (h0 : s.heap.get? r0 = some (listOf (sv f0).toArray c))
    (hQ : ∀ h tk t1 t2, Fr b L h (fun z => if z = t "least" then some (.int (prodV (f0.map (·.1))) t1) else if z = t "most" then some (.int (prodV (f0.map (·.1))) t2) else m z) → HBut [L] s.heap h → Q .next { s with heap := h, toks := tk }) :
    wpAny (model PySem.Challenge.rw_ny0363_01.row.prog w) (ktrTop dp un gd cn lawS L a ccd cl []) (exec (lw 6) (envX cn lawS L a ccd cl)) Q E s := by
  with_unfolding_all refine Assign_Tuple_swapped (names := [t "least", t "most"]) (Tuple_ (spliced_more (ev_val cx F rfl rfl rfl h0 (ev_item F rfl rfl rfl hm (by decide) hRw (by decide) (by decide) rfl fun tk1 => ⟨rfl, tk1, rfl⟩) fun h1 tk1 t1 X1 F1 => ?_)))
  with_unfolding_all refine spliced_more (ev_val (s := { s with heap := h1, toks := tk1 }) cx F1 rfl rfl rfl (X1 _ _ h0) (ev_item (s := { s with heap := h1, toks := tk1 }) F1 rfl rfl rfl hm (by decide) (X1 _ _ hRw) (by decide) (by decide) rfl fun tk2 => ⟨rfl, tk2, rfl⟩) fun h2 tk2 t2 X2 F2 => spliced_none ?_)
  with_unfolding_all refine store2 (s := { s with heap := h2, toks := tk2 }) rfl F2 rfl rfl rfl rfl fun h' tk F' k' => ?_
  exact hQ h' tk t1 t2 F' (hbut_trans (hext_but fun a o e => X2 _ _ (X1 _ _ e)) k')
end
end Mine
end
section
set_option maxRecDepth 100000
set_option maxHeartbeats 8000000
namespace Mine
local macro_rules | `(tactic| walk_at "my_enter") => `(tactic| (refine wpAny_call ?_; k_dflt (refine' code_defG ?k1 ?k2 ?k3 (News.nil) ?k5 ?kA ?kF ?kK ?k6 ?k7 ?k8 ?k9 ?kB ?_ ?c2 ?c3 ?c4 ?c5; (case kA => exact rfl); (case kF => exact rfl); (case kK => assumption); (case k1 => k_asm); (case k2 => k_asm); (case k3 => k_asm); (case k5 => k_asm); (case k6 => k_is); (case k7 => k_is); (case k8 => exact room_d (by assumption)); (case k9 => exact BindsTo.of_eq rfl); (case c5 => decide); (case kB => exact locs rfl); (case c2 => exact rfl); (case c3 => exact rfl); (case c4 => exact rfl); k_whole; intro g' L' h' FG' F' N' B' X' T' GS; replace GS := gsub_all GS; (try dsimp only); (try k_fold))))
local macro_rules | `(tactic| k_room) => `(tactic| (simp only [depth_under_make, depth_under_kw, depth_in1, depth_deeper, depth_caller]; omega))
local macro_rules | `(tactic| walk_at "execs cons") => `(tactic| (refine wpAny_execs_cons ?_; (try dsimp only); (try (refine gen_tk (fun tk => ?_)))))
abbrev dvMap (a b : Int) (ta tb : Tok) : Str → Option Value := fun y => if y = t "b" then some (.int b tb) else if y = t "a" then some (.int a ta) else none
theorem dv_fr {g h : Heap} {L : Addr} {a1 b1 a2 b2 : Int} {ta1 tb1 ta2 tb2 : Tok} (F : Fr g L h (fun y => if y = Str.ofString "a" then some (.int a2 ta2) else if y = Str.ofString "b" then some (.int b2 tb2) else dvMap a1 b1 ta1 tb1 y)) : Fr g L h (dvMap a2 b2 ta2 tb2) := fr_congr F fun y => by
  by_cases h1 : y = t "b"
  · subst h1; rfl
  · by_cases h2 : y = t "a"
    · subst h2; rfl
    · dsimp only [dvMap]
      simp only [if_neg h1, if_neg h2, if_neg (show ¬ y = Str.ofString "b" from h1), if_neg (show ¬ y = Str.ofString "a" from h2)]
theorem c_divisor (w : World) (a b : Nat) (ta tb : Tok) : Con w 2 825 [.int a ta, .int b tb] (fun _ => True) (fun _ _ v => ∃ tk, v = .int (Nat.gcd a b : Nat) tk) := by
  dsimp only [Con]
  k_fill
  intros
  rename_i hret
  walk_at "my_enter"
  repeat' ((fail_if_success (with_reducible show wpAny _ _ (exec (Stmt.While _ _ _ _) _) _ _ _)); (first | (k_unfold; (try dsimp only)) | (k_end; wrow_close) | walk1 | (dsimp only; walk1) | (leave1; walk_say "STEP leave1"; try dsimp only) | fail "no step"))
  rename Fr _ _ _ _ => F5
  rename News _ _ _ _ => N5
  have F6 := fr_congr (m' := dvMap a b ta tb) F5 (fun y => lookup_two _ _ _ _ _)
  clear F5
  refine While_inv2 (fun n m₁ news₁ => ∃ (a' b' : Nat) (ta' tb' : Tok), n = b' ∧ Nat.gcd a' b' = Nat.gcd a b ∧ m₁ = dvMap a' b' ta' tb' ∧ news₁ = []) (n₀ := b) F6 N5 ?J ?turn
  case J => exact ⟨a, b, ta, tb, rfl, rfl, rfl, rfl⟩
  clear F6 N5
  rintro n m₁ news₁ h₁ tk₁ F₁ N₁ ⟨a', b', ta', tb', hn, hg, rfl, rfl⟩
  by_cases h0 : b' = 0
  · subst h0
    k_steps
    all_goals first | (exfalso; omega) | skip
    rw [Nat.gcd_zero_right] at hg
    subst hg
    refine' hret _ _ _ (ext2 ?G ?F) ?P; (case G => assumption); (case F => assumption); (case P => exact ⟨_, rfl⟩)
  · have hb0 : (0 : Int) < (b' : Int) := by omega
    k_steps
    · rename Fr _ _ _ _ => F6
      have he : (a' : Int).fmod (b' : Int) = ((a' % b' : Nat) : Int) := by
        rw [Int.fmod_eq_emod_of_nonneg _ (by omega)]; rfl
      rw [he] at F6
      have hlt : a' % b' < b' := Nat.mod_lt _ (by omega)
      refine ⟨_, _, _, _, a' % b', rfl, dv_fr F6, News.nil, hn ▸ hlt, b', a' % b', _, _, rfl, ?_, rfl, rfl⟩
      rw [← hg, Nat.gcd_comm b', ← Nat.gcd_rec, Nat.gcd_comm]
end Mine
end
section
set_option maxRecDepth 100000
set_option maxHeartbeats 8000000
namespace Mine
local macro_rules | `(tactic| walk_at "my_enterT") => `(tactic| (refine wpAny_call ?_; k_dflt (refine' code_defT ?k1 ?k2 ?k4 ?kX ?kT ?kD ?kA ?kF ?kK ?k6 ?k7 ?k8 ?k9 ?kB ?_ ?c2 ?c3 ?c4 ?c5; (case kA => exact rfl); (case kF => exact rfl); (case kK => assumption); (case k1 => k_asm); (case k2 => k_asm); (case kX => assumption); (case kT => assumption); (case kD => assumption); (case k4 => exact News.nil); (case k6 => k_is); (case k7 => k_is); (case k8 => exact room_d (by assumption)); (case k9 => exact BindsTo.of_eq rfl); (case c5 => decide); (case kB => exact locs rfl); (case c2 => exact rfl); (case c3 => exact rfl); (case c4 => exact rfl); k_whole; intro g' L' h' FG' F' N' B' X' T' D' GS; refine wp_noexc ?_; (try dsimp only); (try k_fold))))
local macro_rules | `(tactic| k_room) => `(tactic| (simp only [depth_under_make, depth_under_kw, depth_in1, depth_deeper, depth_caller]; omega))
local macro_rules | `(tactic| walk_at "execs cons") => `(tactic| (refine wpAny_execs_cons ?_; (try dsimp only); (try (refine gen_tk (fun tk => ?_)))))
local macro_rules | `(tactic| k_inst) => `(tactic| (refine' inst_ground ?F ?h1 ?h2; (case F => k_asm); (case h1 => assumption); (case h2 => assumption)))
theorem copy_texts {prog : Program} {w : World} {A : Around} {E : Value → Shared → Prop} {s : Shared} {h₀ : Heap} {L : Addr} {m : Str → Option Value} {news : List (Addr × Obj)} {l : Addr} {es : List (Str × Tok)} {n : Nat} {Q : Value → Shared → Prop} (F : Fr h₀ L s.heap m) (N : News h₀ L s.heap news)
    (hl : h₀.get? l = some (listOf (sv es).toArray n)) (hz : es.length ≤ 1000)
    (h : ∀ (D : Nat) c h', Fr h₀ L h' m → News h₀ L h' ((D, listOf (sv es).toArray c) :: news) → (∀ p ∈ news, p.1 < D) → Q (.ref D) { s with heap := h' }) :
    wpAny (model prog w) A (call (.type "list") [.ref l]) Q E s :=
  list_copyK F N (PySem.IsL.isList (n := n) (F.keep _ _ hl)) (fun D c h' F' N' l => h D c h' F' N' l) (by rw [List.size_toArray, sv_length, sizeLine_eq]; omega)
local macro_rules | `(tactic| walk_at "call type:list") => `(tactic| (k_here; k_dflt (refine' copy_texts ?F ?N ?h ?z ?_; (case F => k_asm); (case N => k_asm); (case h => assumption); (case z => omega); intro D' c' h' F' N' l1; (try k_lt l1); (try k_sweep))))
theorem News.swap {h₀ h : Heap} {L : Addr} {a b : Addr × Obj} (N : News h₀ L h [a, b]) : News h₀ L h [b, a] := fun p hp => N p (by
  rcases List.mem_cons.mp hp with rfl | hp
  · exact .tail _ (.head _)
  · rw [List.mem_singleton.mp hp]; exact .head _)
theorem News.out3 {h₀ h : Heap} {L : Addr} {a b c d : Addr × Obj} (N : News h₀ L h [a, b, c, d]) : News h₀ L h [a, b, d] := fun p hp => N p (by
  rcases List.mem_cons.mp hp with rfl | hp
  · exact .head _
  rcases List.mem_cons.mp hp with rfl | hp
  · exact .tail _ (.head _)
  · exact .tail _ (.tail _ (.tail _ hp)))
theorem c_apart (w : World) (r1 r2 : Nat) (es1 es2 : List (Str × Tok)) (hz : es1.length + es2.length ≤ 900) :
    ConTP w 6 839 [.ref r1, .ref r2] (fun fs h => EntO w.params fs h r1 es1 ∧ EntO w.params fs h r2 es2) (fun v news => ∃ (T M R : Nat) (ms rs : List (Str × Tok)) (c3 c2 : Nat), v = .ref T ∧ ms.map (·.1) = (uldR (es1.map (·.1)).reverse (es2.map (·.1))).1 ∧ rs.map (·.1) = (uldR (es1.map (·.1)).reverse (es2.map (·.1))).2 ∧
      news = [(T, tupO #[.ref M, .ref R]), (M, listOf (sv ms).toArray c3), (R, listOf (sv rs).toArray c2)]) := by
  dsimp only [ConTP]
  k_fill
  intro mean mg mb dp un gd cn cs a ccd cl outer A₀ base h₀ L m s Q E B F XB TB D hk hdp hun hP hret
  have X0 := XB.keeps B.stays
  have T0 := TB.keeps B.stays
  obtain ⟨⟨k1, d1, ua1, rl1, c1, cu1, cd1, hE1⟩, ⟨k2, d2, ua2, rl2, c2, cu2, cd2, hE2⟩⟩ := hP
  walk_at "my_enterT"
  rename GSub _ _ _ => GS
  replace hE1 := At.ext hE1 (gsub_all GS)
  replace hE2 := At.ext hE2 (gsub_all GS)
  have h11 : _ = some _ := (hE1 _ (.tail _ (.tail _ (.head _)))).1
  have h12 := (hE1 _ (.tail _ (.tail _ (.tail _ (.head _))))).1
  have h14 := (hE1 _ (.head _)).1
  have h21 := (hE2 _ (.tail _ (.tail _ (.head _)))).1
  have h22 := (hE2 _ (.tail _ (.tail _ (.tail _ (.head _))))).1
  have h24 := (hE2 _ (.head _)).1
  clear hE1 hE2
  repeat' ((fail_if_success (with_reducible show wpAny _ _ (call (Value.ref _) _) _ _ _)); (first | (k_unfold; (try dsimp only)) | (k_end; wrow_close) | walk1 | (dsimp only; walk1) | (leave1; walk_say "STEP leave1"; try dsimp only) | fail "no step"))
  rename Fr _ _ _ _ => F5
  rename News _ _ _ _ => N5
  k_dflt (refine' conT_use (c_uld w _ _ ?hlt es1 es2 _ _ hz) ?k1 F5 XB TB ?kD rfl ?k6 ?k7 (News.swap N5) ?_)
  case k1 => assumption
  case kD => assumption
  case hlt => omega
  case k6 => (simp only [depth_under_make, depth_under_kw, depth_in1, depth_deeper, depth_caller]; omega)
  case k7 => (simp only [units_in1, units_deeper, Around.mark_units, units_caller]; omega)
  clear F5 N5
  rintro v6 h6 tk6 g6 news6 T6 F6 B6 D6 H6 N6 ⟨T, M, ms, rs, c3, c2, c1, rfl, e1, e2, rfl⟩
  k_steps
  refine' leaveT_ (L' := ?L9) T6 F6 N6 ?_
  intro h₀'' T'' F'' N'' B'' D'' H''
  dsimp only at F'' N'' H'' ⊢
  refine hret _ _ _ _ _ T'' F'' B'' D'' ?HB (News.out3 N'') (fresh_turn GS T6 (News.out3 N6)) ⟨T, M, _, ms, rs, c3, c2, rfl, e1, e2, rfl⟩
  exact hbutT (fs := []) rfl (by assumption) H''
end Mine
end
section
set_option maxRecDepth 100000
set_option maxHeartbeats 8000000
namespace Mine
local macro_rules | `(tactic| walk_at "my_enterT") => `(tactic| (refine wpAny_call ?_; k_dflt (refine' code_defT ?k1 ?k2 ?k4 ?kX ?kT ?kD ?kA ?kF ?kK ?k6 ?k7 ?k8 ?k9 ?kB ?_ ?c2 ?c3 ?c4 ?c5; (case kA => exact rfl); (case kF => exact rfl); (case kK => assumption); (case k1 => k_asm); (case k2 => k_asm); (case kX => assumption); (case kT => assumption); (case kD => assumption); (case k4 => exact News.nil); (case k6 => k_is); (case k7 => k_is); (case k8 => exact room_d (by assumption)); (case k9 => exact BindsTo.of_eq rfl); (case c5 => decide); (case kB => exact locs rfl); (case c2 => exact rfl); (case c3 => exact rfl); (case c4 => exact rfl); k_whole; intro g' L' h' FG' F' N' B' X' T' D' GS; refine wp_noexc ?_; (try dsimp only); (try k_fold))))
local macro_rules | `(tactic| k_room) => `(tactic| (simp only [depth_under_make, depth_under_kw, depth_in1, depth_deeper, depth_caller]; omega))
local macro_rules | `(tactic| walk_at "execs cons") => `(tactic| (refine wpAny_execs_cons ?_; (try dsimp only); (try (refine gen_tk (fun tk => ?_)))))
local macro_rules | `(tactic| k_inst) => `(tactic| (refine' inst_ground ?F ?h1 ?h2; (case F => k_asm); (case h1 => assumption); (case h2 => assumption)))
local macro_rules | `(tactic| walk_at "call type:list") => `(tactic| (k_here; k_dflt (refine' copy_texts ?F ?N ?h ?z ?_; (case F => k_asm); (case N => k_asm); (case h => assumption); (case z => omega); intro D' c' h' F' N' l1; (try k_lt l1); (try k_sweep))))
/-- what _law_shared holds -/
def shR (a b : List Str) : List Str := (uldR (uldR a.reverse b).1.reverse a).1 ++ (uldR (uldR a.reverse b).1.reverse a).2
theorem uld_len1 : ∀ a b : List Str, (uldR a b).1.length ≤ a.length
  | [], _ => Nat.le_refl _
  | x :: a, b => by
    unfold uldR
    split
    · exact Nat.le_succ_of_le (uld_len1 a _)
    · exact Nat.succ_le_succ (uld_len1 a _)
theorem uld_len2 : ∀ a b : List Str, (uldR a b).2.length ≤ b.length
  | [], _ => Nat.le_refl _
  | x :: a, b => by
    unfold uldR
    split
    · exact Nat.le_trans (uld_len2 a _) (List.length_erase_le)
    · exact uld_len2 a _
theorem News.pick2 {h₀ h : Heap} {L : Addr} {a b c d : Addr × Obj} (N : News h₀ L h [a, b, c, d]) : News h₀ L h [c, a] := fun p hp => N p (by
  rcases List.mem_cons.mp hp with rfl | hp
  · exact .tail _ (.tail _ (.head _))
  · rw [List.mem_singleton.mp hp]; exact .head _)
local macro_rules | `(tactic| walk_at "binaryOp Add ref ref") => `(tactic| (k_here; k_dflt (refine' add_texts ?F ?N (News.get ?a ?b) (News.get ?c ?d) ?z ?_; (case F => k_asm); (case N => k_asm); (case a => k_asm); (case b => k_mem); (case c => k_asm); (case d => k_mem); (case z => omega); intro D' h' F' N' l1; (try k_lt l1); (try k_sweep))))
theorem News.one {h₀ h : Heap} {L : Addr} {a : Addr × Obj} {nw : List (Addr × Obj)} (N : News h₀ L h (a :: nw)) : News h₀ L h [a] := fun p hp => N p (by rw [List.mem_singleton.mp hp]; exact .head _)
theorem News.left' {h₀ h : Heap} {L : Addr} {nw nw' : List (Addr × Obj)} (N : News h₀ L h (nw ++ nw')) : News h₀ L h nw := fun p hp => N p (List.mem_append_left _ hp)
theorem c_shared (w : World) (r1 r2 : Nat) (es1 es2 : List (Str × Tok)) (hz : es1.length + es2.length ≤ 400) :
    ConTP w 10 846 [.ref r1, .ref r2] (fun fs h => EntO w.params fs h r1 es1 ∧ EntO w.params fs h r2 es2) (fun v news => ∃ (k : Nat → Tok) (r d ua rl c cu cd : Nat) (es : List (Str × Tok)), v = .ref r ∧ es.map (·.1) = shR (es1.map (·.1)) (es2.map (·.1)) ∧ news = entL w.params k r d ua rl es c cu cd) := by
  dsimp only [ConTP]
  k_fill
  intro mean mg mb dp un gd cn cs a ccd cl outer A₀ base h₀ L m s Q E B F XB TB D hk hdp hun hP hret
  have X0 := XB.keeps B.stays
  have T0 := TB.keeps B.stays
  obtain ⟨⟨k1, d1, ua1, rl1, c1, cu1, cd1, hE1⟩, ⟨k2, d2, ua2, rl2, c2, cu2, cd2, hE2⟩⟩ := hP
  walk_at "my_enterT"
  rename GSub _ _ _ => GS
  replace hE1 := At.enter (env := envX cn cs L a ccd cl) rfl hE1 GS
  replace hE2 := At.enter (env := envX cn cs L a ccd cl) rfl hE2 GS
  repeat' ((fail_if_success (with_reducible show wpAny _ _ (call (Value.ref _) _) _ _ _)); (first | (k_unfold; (try dsimp only)) | (k_end; wrow_close) | walk1 | (dsimp only; walk1) | (leave1; walk_say "STEP leave1"; try dsimp only) | fail "no step"))
  rename Fr _ _ _ _ => F5
  k_dflt (refine' conTP_use (c_apart w r1 r2 es1 es2 (by omega)) ?k1 F5 XB TB ?kD rfl ?k6 ?k7 ?P ?_)
  case k1 => assumption
  case kD => assumption
  case k6 => (simp only [depth_under_make, depth_under_kw, depth_in1, depth_deeper, depth_caller]; omega)
  case k7 => (simp only [units_in1, units_deeper, Around.mark_units, units_caller]; omega)
  case P => exact ⟨⟨k1, d1, ua1, rl1, c1, cu1, cd1, At.inner hE1 F5⟩, ⟨k2, d2, ua2, rl2, c2, cu2, cd2, At.inner hE2 F5⟩⟩
  clear F5 hE2
  rintro v6 h6 tk6 g6 news6 T6 F6 B6 D6 H6 N6 - ⟨T, M, R, ms, rs, c3, c2, rfl, e1, e2, rfl⟩
  replace hE1 := At.turn hE1 T6
  have h11 := (hE1 _ (.tail _ (.tail _ (.head _)))).1
  have h12 := (hE1 _ (.tail _ (.tail _ (.tail _ (.head _))))).1
  have h14 := (hE1 _ (.head _)).1
  clear hE1
  have X6 := XB.keeps B6.stays
  have P6 := TB.keeps B6.stays
  repeat' ((fail_if_success (with_reducible show wpAny _ _ (call (Value.ref _) _) _ _ _)); (first | (k_unfold; (try dsimp only)) | (k_end; wrow_close) | walk1 | (dsimp only; walk1) | (leave1; walk_say "STEP leave1"; try dsimp only) | fail "no step"))
  rename Fr _ _ _ _ => F5
  rename News _ _ _ _ => N5
  have z1 : ms.length ≤ es1.length := by
    have := congrArg List.length e1
    have q := uld_len1 (es1.map (·.1)).reverse (es2.map (·.1))
    simp only [List.length_map, List.length_reverse] at this q
    omega
  k_dflt (refine' conT_use (c_uld w _ _ ?hlt ms es1 _ _ (by omega)) B6 F5 XB TB D6 rfl ?k6 ?k7 (News.pick2 N5) ?_)
  case hlt => omega
  case k6 => (simp only [depth_under_make, depth_under_kw, depth_in1, depth_deeper, depth_caller]; omega)
  case k7 => (simp only [units_in1, units_deeper, Around.mark_units, units_caller]; omega)
  clear F5 N5 h11 h12 h14 X6 P6 H6
  rintro v7 h7 tk7 g7 news7 T7 F7 B7 D7 H7 N7 ⟨TT, MM, ns, ss, c7, c8, c9, rfl, e3, e4, rfl⟩
  clear B6 D6 H7
  have X7 := XB.keeps B7.stays
  have P7 := TB.keeps B7.stays
  have z2 : ns.length ≤ ms.length := by
    have := congrArg List.length e3
    have q := uld_len1 (ms.map (·.1)).reverse (es1.map (·.1))
    simp only [List.length_map, List.length_reverse] at this q
    omega
  have z3 : ss.length ≤ es1.length := by
    have := congrArg List.length e4
    have q := uld_len2 (ms.map (·.1)).reverse (es1.map (·.1))
    simp only [List.length_map, List.length_reverse] at this q
    omega
  repeat' ((fail_if_success (with_reducible show wpAny _ _ (call (Value.ref _) _) _ _ _)); (first | (k_unfold; (try dsimp only)) | (k_end; wrow_close) | walk1 | (dsimp only; walk1) | (leave1; walk_say "STEP leave1"; try dsimp only) | fail "no step"))
  rename Fr _ _ _ _ => F5
  rename News _ _ _ _ => N5
  k_dflt (refine' conF_use (c_record w _ (ns ++ ss) 0 ?z) B7 F5 X7 P7 rfl ?k6 ?k7 (News.one N5) ?_)
  case z => rw [List.length_append]; omega
  case k6 => (simp only [depth_under_make, depth_under_kw, depth_in1, depth_deeper, depth_caller]; omega)
  case k7 => (simp only [units_in1, units_deeper, Around.mark_units, units_caller]; omega)
  rintro v8 h8 tk8 X8 ⟨r, rfl, E8⟩
  obtain ⟨kk, d, ua, rl, c, cu, cd, N8⟩ := EntF.news F5 E8
  refine' leaveT_ (L' := ?L9) (T6.trans T7) (F5.keeps X8) N8 ?_
  intro h₀'' T'' F'' N'' B'' D'' H''
  dsimp only at F'' N'' H'' ⊢
  refine hret _ _ _ _ _ T'' F'' B'' D'' ?HB N'' (fresh_turn GS (T6.trans T7) N8) ⟨kk, r, d, ua, rl, c, cu, cd, _, rfl, ?_, rfl⟩
  · exact hbutT (fs := []) rfl (by assumption) H''
  · rw [List.map_append, e3, e4, e1]; rfl
end Mine
end
section
set_option maxRecDepth 100000
set_option maxHeartbeats 4000000
namespace Mine
theorem mro_filter : mroOf (.type "filter") = pure [.type "filter", .type "object"] := by rw [mroOf_type]; kernel_rfl
theorem lookup_filter_new : typeLookup (.type "filter") "__new__" = pure (some (.builtin "filter.__new__")) := by rw [typeLookup_type, builtinLookup_eq_fast]; kernel_rfl
theorem slot_filter_init : Slot "filter" "__init__" "object.__init__" :=
  .of (owner := "object") (n := "__init__") (by rw [typeLookup_type, builtinLookup_eq_fast]; kernel_rfl) (by decide +kernel) (by decide +kernel) (by decide +kernel)
    (by first | exact .inl (by decide +kernel) | exact .inr (by decide +kernel)) (by rw [isSubtype_type]; kernel_rfl)
theorem slot_filter_next : Slot "filter" "__next__" "filter.__next__" :=
  .of (owner := "filter") (n := "__next__") (by rw [typeLookup_type, builtinLookup_eq_fast]; kernel_rfl) (by decide +kernel) (by decide +kernel) (by decide +kernel)
    (by first | exact .inl (by decide +kernel) | exact .inr (by decide +kernel)) (by rw [isSubtype_type]; kernel_rfl)
theorem slot_filter_iter : Slot "filter" "__iter__" "filter.__iter__" :=
  .of (owner := "filter") (n := "__iter__") (by rw [typeLookup_type, builtinLookup_eq_fast]; kernel_rfl) (by decide +kernel) (by decide +kernel) (by decide +kernel)
    (by first | exact .inl (by decide +kernel) | exact .inr (by decide +kernel)) (by rw [isSubtype_type]; kernel_rfl)
theorem entry_filter_iter : entryFor table "filter.__iter__" = some Builtin.«dict_keyiterator.__iter__» :=
  entryFor_alias (id' := "dict_keyiterator.__iter__") (by kernel_rfl) (by first | rfl | decide +kernel | (unfold String.splitOn; simp +decide [String.splitOnAux])) (by decide +kernel) (by kernel_rfl)
theorem entry_filter_new : entryFor table "filter.__new__" = some Builtin.«filter.__new__» := entryFor_of_tree (by kernel_rfl)
theorem entry_filter_next : entryFor table "filter.__next__" = some Builtin.«filter.__next__» := entryFor_of_tree (by kernel_rfl)
theorem args_filter_next (a : Value) : argsOk "filter.__next__" ⟨[a], []⟩ := by unfold argsOk; kernel_rfl
theorem args_filter_iter (a : Value) : argsOk "filter.__iter__" ⟨[a], []⟩ := by unfold argsOk; kernel_rfl
theorem called_filter : TypeCalled "filter" "filter.__new__" "object.__init__" :=
  ⟨by decide +kernel, by decide +kernel, ⟨_, _, mro_filter⟩, madeBy_type mro_filter lookup_filter_new (by decide +kernel), by decide +kernel, by rw [isSubtype_type]; kernel_rfl, slot_filter_init⟩
theorem typeCall_filter (a b : Value) : checkTypeCall "filter" ⟨[a, b], []⟩ = pure () := by kernel_rfl
theorem newCall_filter (a b : Value) : checkBuiltinCall "filter.__new__" ⟨[.type "filter", a, b], []⟩ = pure () := by kernel_rfl
theorem sub_filter : isSubtype (.type "filter") (.type "filter") = pure true := by rw [isSubtype_type]; kernel_rfl
theorem args_object_init_3 (a b c : Value) : argsOk "object.__init__" ⟨[a, b, c], []⟩ := by unfold argsOk; kernel_rfl
theorem noLen_filter : typeLookup (.type "filter") "__len__" = pure none := by rw [typeLookup_type, builtinLookup_eq_fast]; kernel_rfl
theorem noHint_filter : typeLookup (.type "filter") "__length_hint__" = pure none := by rw [typeLookup_type, builtinLookup_eq_fast]; kernel_rfl
abbrev fltObj (f : Value) (it : Addr) : Obj := { cls := .type "filter", data := .fields #[f, .ref it] }
abbrev litObj (l : Addr) : Obj := { cls := .type "list_iterator", data := .fields #[.ref l, .int 0 0] }
theorem meets_filter_new (f : Value) (l : Addr) (items : Array Value) :
    Meets (Builtin.«filter.__new__» ⟨[.type "filter", f, .ref l], []⟩) (fun _ R s => s.heap.IsList l items ∧
      R (.ok (.ret (.ref (s.heap.push (litObj l)).objs.size))) { s with heap := (s.heap.push (litObj l)).push (fltObj f s.heap.objs.size) }) :=
  .of_wp fun prog w A R s h => by
    obtain ⟨hp, g, d, tk, os⟩ := s; obtain ⟨hl, h⟩ := h
    have hsub := sub_filter
    wp_walk using wpAny_pyIter_list hl
    exact ⟨_, rfl, h⟩
section
variable {prog : Program} {w : World} {A : Around} {E : Value → Shared → Prop} {s : Shared} {h₀ : Heap} {L : Addr} {m : Str → Option Value} {news : List (Addr × Obj)}
theorem call_filter {f : Value} {l : Addr} {items : Array Value} {Q : Value → Shared → Prop} (hl : s.heap.IsList l items)
    (h : Q (.ref (s.heap.push (litObj l)).objs.size) { s with heap := (s.heap.push (litObj l)).push (fltObj f s.heap.objs.size) }) : wpAny (model prog w) A (call (.type "filter") [f, .ref l]) Q E s :=
  callType_new called_filter (by decide) (typeCall_filter _ _) (newCall_filter _ _) (fun obj => args_object_init_3 obj _ _) entry_filter_new (meets_filter_new f l items) ⟨hl, ⟨_, Heap.get?_push_size _ rfl, rfl⟩, h⟩
theorem filter_N {f : Value} {l : Addr} {items : Array Value} {Q : Value → Shared → Prop} (F : Fr h₀ L s.heap m) (N : News h₀ L s.heap news) (hl : s.heap.IsList l items)
    (h : ∀ (x y : Nat) h', Fr h₀ L h' m → News h₀ L h' ((y, fltObj f x) :: (x, litObj l) :: news) → (∀ p ∈ news, p.1 < x) → x < y → Q (.ref y) { s with heap := h' }) : wpAny (model prog w) A (call (.type "filter") [f, .ref l]) Q E s := by
  refine call_filter hl ?_
  have F1 := F.push (litObj l)
  have N1 := N.push F (litObj l)
  exact h _ _ _ (F1.push _) (N1.push F1 _) (fun p hp => Heap.lt_size (N p hp).1) (by rw [Heap.size_push]; exact Nat.lt_succ_self _)
theorem filter_iter {e it : Addr} {f : Value} {Q : Value → Shared → Prop} (he : s.heap.get? e = some (fltObj f it)) (h : Q (.ref e) s) : wpAny (model prog w) A (pyIter (.ref e)) Q E s := by
  have hT : s.TypeIs (.ref e) "filter" := ⟨_, he, rfl⟩
  refine wpAny_pyIter_slot hT slot_filter_iter (wpAny_call_entry slot_filter_iter hT entry_filter_iter ?_ (args_filter_iter _))
  show wpAny _ _ (ret (.ref e)) _ _ s
  exact wpAny_pure ⟨_, rfl, "filter", _, hT, slot_filter_next.lookup, h⟩
theorem filter_end {e it l : Addr} {f : Value} {items : Array Value} {Q : Option Value → Shared → Prop} (hh : A.handled = none) (he : s.heap.get? e = some (fltObj f it)) (hit : s.heap.IsListIter it l 0) (hl : s.heap.IsList l items) (hx : items[0]? = none)
    (hQ : ∀ h', Heap.ExtBut it s.heap h' → Q none { s with heap := h' }) : wpAny (model prog w) A (pyNext (.ref e)) Q E s := by
  have hT : s.TypeIs (.ref e) "filter" := ⟨_, he, rfl⟩
  unfold pyNext
  refine wpAny_bind (wpAny_attempt (wpAny_callSpecial?_slot (name := Str.ofString "__next__") hT slot_filter_next
    (wpAny_call_entry slot_filter_next hT entry_filter_next ?_ (args_filter_next _))))
  show wpAny _ _ (field (.ref e) 0 >>= fun func => field (.ref e) 1 >>= fun it => callSpecial? it (Str.ofString "__next__") >>= _) _ _ _
  refine wpAny_bind (wpAny_field he rfl (x := f) rfl ?_)
  refine wpAny_bind (wpAny_field he rfl (x := .ref it) rfl ?_)
  refine wpAny_bind (wpAny_callSpecial?_slot (name := Str.ofString "__next__") (hit.typeIs (s := s)) slot_listiter_next
    (wpAny_call_entry slot_listiter_next (hit.typeIs (s := s)) entry_listiter_next ?_ (args_listiter_next _)))
  obtain ⟨o, ho, hc, hd⟩ := id hit
  obtain ⟨ol, hol, _, nl, hdl⟩ := hl
  refine wpAny_bind (m := field (.ref it) 0) (wpAny_field ho hd (x := .ref l) rfl ?_)
  refine wpAny_bind (m := field (.ref it) 1) (wpAny_field ho hd (x := .int (0 : Nat) 0) rfl ?_)
  refine wpAny_bind (m := seqItems? (.ref l)) (wpAny_seqItems hol hdl ?_)
  dsimp only
  rw [show items[(Int.toNat ((0 : Nat) : Int))]? = none from hx]
  refine wpAny_bind (wpAny_rule (wpAny_bind (wpAny_setField ho hd (by simp) ?_)))
  unfold Builtin.SmallTypes.stopIteration
  refine wpAny_bind ?_
  simp only [newExc, newTuple]
  refine wpAny_bind (wpAny_newObj_type ?_ (by size_fits))
  refine wpAny_bind (m := firstArgMember _ _) (wpAny_of_eq (a := Value.none) (by first | rfl | (simp only [firstArgMember]; rfl)) ?_)
  refine wpAny_newObj_type ?_ (by size_fits)
  simp only [raiseNew]
  refine wpAny_bind (wpAny_handled ?_)
  rw [show A.in1.in1.handled = none from hh]
  refine wpAny_bind (wpAny_pure (wpAny_throw ?_))
  refine wpAny_bind (wpAny_isInstance (T := "StopIteration") (b := true) ⟨_, Heap.get?_push_size _ rfl, rfl⟩ isSubtype_stop ?_)
  exact wpAny_pure (hQ _ (((Heap.SameBut.update ..).extBut.push _).push _))
end
end Mine
end
section
set_option maxRecDepth 100000
set_option maxHeartbeats 4000000
namespace Mine
section
variable {prog : Program} {w : World} {A : Around} {E : Value → Shared → Prop} {s : Shared} {h₀ : Heap} {L : Addr} {m : Str → Option Value} {news : List (Addr × Obj)}
theorem list_filter {e it l : Nat} {f : Value} {n : Nat} {Q : Value → Shared → Prop} (hh : A.handled = none) (F : Fr h₀ L s.heap m) (N : News h₀ L s.heap news) (he : s.heap.get? e = some (fltObj f it)) (hit : s.heap.get? it = some (litObj l)) (hl : s.heap.get? l = some (listOf #[] n))
    (hit0 : h₀.get? it = none) (hitL : it ≠ L) (hoff : ∀ p ∈ news, p.1 ≠ it)
    (h : ∀ (S : Nat) h' tk c, Fr h₀ L h' m → News h₀ L h' ((S, listOf #[] c) :: news) → (∀ p ∈ news, p.1 < S) → Q (.ref S) { s with heap := h', toks := tk }) : wpAny (model prog w) A (call (.type "list") [.ref e]) Q E s := by
  have heS := Heap.lt_size he
  have hitS := Heap.lt_size hit
  have hlS := Heap.lt_size hl
  have hSL : s.heap.objs.size ≠ L := (Nat.ne_of_lt F.ns.lt).symm
  have hS0 : h₀.get? s.heap.objs.size = none := by
    cases q : h₀.get? s.heap.objs.size with
    | none => rfl
    | some o => exact absurd (Heap.lt_size (F.keep _ _ q)) (Nat.lt_irrefl _)
  have hns : ∀ p ∈ news, p.1 < s.heap.objs.size := fun p hp => Heap.lt_size (N p hp).1
  refine callType_codes (Q₁ := fun obj s₁ => obj = .ref s.heap.objs.size ∧ s₁ = { s with heap := s.heap.push { cls := .type "list", data := .seq #[] } }) PySem.F.called_list (PySem.F.typeCall_list_1 _) PySem.F.entry_list_init
    (code_list_new _ ⟨rfl, rfl⟩) fun obj s₁ h₁ => ?_
  obtain ⟨rfl, rfl⟩ := h₁
  have hS : (s.heap.push { cls := .type "list", data := .seq #[] }).get? s.heap.objs.size = some (lstObj #[] 0) := Heap.get?_push_size _ rfl
  have hk0 : HExt s.heap (s.heap.push { cls := .type "list", data := .seq #[] }) := fun b o e => Heap.get?_push_of_some _ e
  have F1 := F.keeps hk0
  have N1 := N.grown hk0
  refine ⟨⟨_, hS, rfl⟩, PySem.F.args_list_init_2 _ _, ?_⟩
  show wpAny _ _ (do let old ← Builtin.List.listItems (.ref s.heap.objs.size); Builtin.List.listUpdate (.ref s.heap.objs.size) (fun _ => #[]); letGo old.toList.reverse; Builtin.List.listExtendWith (.ref s.heap.objs.size) (.ref e) .none) _ _ _
  replace he := hk0 _ _ he
  replace hit := hk0 _ _ hit
  replace hl := hk0 _ _ hl
  generalize hSS : s.heap.objs.size = S at *
  generalize hh1 : s.heap.push { cls := .type "list", data := .seq #[] } = h1 at *
  refine wpAny_bind ?_
  unfold Builtin.List.listItems
  refine wpAny_bind (wpAny_seqItems hS rfl (wpAny_pure ?_))
  show wpAny _ _ (updateSeq S (fun _ => #[]) >>= fun _ => letGo (#[] : Array Value).toList.reverse >>= fun _ => Builtin.List.listExtendWith (.ref S) (.ref e) .none) _ _ _
  refine wpAny_bind (wpAny_updateSeq hS rfl ?_)
  have hS2 := Heap.get?_update_self (Obj.mapSeq (fun _ => (#[] : Array Value))) hS rfl
  have hne : ∀ p ∈ news, p.1 ≠ S := fun p hp => Nat.ne_of_lt (hns p hp)
  have F2 := fr_upd (f := Obj.mapSeq (fun _ => (#[] : Array Value))) F1 hS0 hSL
  have N2 := news_upd (f := Obj.mapSeq (fun _ => (#[] : Array Value))) N1 hne
  have he2 := (Heap.get?_update_other h1 (Obj.mapSeq (fun _ => (#[] : Array Value))) (Nat.ne_of_gt heS)).trans he
  have hit2 := (Heap.get?_update_other h1 (Obj.mapSeq (fun _ => (#[] : Array Value))) (Nat.ne_of_gt hitS)).trans hit
  have hl2 := (Heap.get?_update_other h1 (Obj.mapSeq (fun _ => (#[] : Array Value))) (Nat.ne_of_gt hlS)).trans hl
  generalize hh2 : h1.update S (Obj.mapSeq (fun _ => (#[] : Array Value))) = h2 at *
  refine wpAny_bind (wpAny_letGo ?_)
  unfold Builtin.List.listExtendWith
  have hT : Shared.TypeIs { s with heap := h2 } (.ref e) "filter" := ⟨_, he2, rfl⟩
  refine wpAny_bind (wpAny_typeOf hT ?_)
  have h1' : Builtin.List.listSameRef (.ref S) (.ref e) = false := by
    have : S ≠ e := Nat.ne_of_gt heS
    simp [Builtin.List.listSameRef, this]
  have h2' : (Value.type "filter" == Value.type "list") = false := by decide
  have h3' : (Value.type "filter" == Value.type "tuple") = false := by decide
  simp only [h1', h2', h3', Bool.or_false, Bool.false_eq_true, if_false]
  refine wpAny_bind (filter_iter he2 ?_)
  refine wpAny_bind (wpAny_holding ?_)
  unfold Builtin.List.listLengthHint
  refine wpAny_bind (wpAny_specialOf (name := Str.ofString "__len__") hT noLen_filter ?_)
  show wpAny _ _ (specialOf (Value.ref e) (Str.ofString "__length_hint__") >>= _) _ _ _
  refine wpAny_bind (wpAny_specialOf (name := Str.ofString "__length_hint__") hT noHint_filter ?_)
  refine wpAny_pure ?_
  show wpAny _ _ (rule "list.extend.makes-room" >>= fun _ => Builtin.List.listTouch (.ref S) >>= fun _ => again (.builtin "list.extend.loop" ⟨[.ref S, .ref e, .none], []⟩)) _ _ _
  refine wpAny_bind (wpAny_rule ?_)
  refine wpAny_bind ?_
  show wpAny _ _ (updateSeq S (·.push .none) >>= fun _ => updateSeq S (·.pop)) _ _ _
  refine wpAny_bind (wpAny_updateSeq hS2 rfl ?_)
  have hS4 := Heap.get?_update_self (Obj.mapSeq (·.push Value.none)) hS2 rfl
  refine wpAny_updateSeq (hz := by seq_fits) hS4 rfl ?_
  have hS5 := Heap.get?_update_self (Obj.mapSeq (·.pop)) hS4 rfl
  obtain ⟨c5, e5⟩ : ∃ c, Obj.mapSeq (·.pop) (Obj.mapSeq (·.push Value.none) (Obj.mapSeq (fun _ => (#[] : Array Value)) (lstObj #[] 0))) = listOf #[] c := ⟨_, rfl⟩
  rw [e5] at hS5
  have F5 := fr_upd (f := Obj.mapSeq (·.pop)) (fr_upd (f := Obj.mapSeq (·.push Value.none)) F2 hS0 hSL) hS0 hSL
  have N5 := news_upd (f := Obj.mapSeq (·.pop)) (news_upd (f := Obj.mapSeq (·.push Value.none)) N2 hne) hne
  have up : ∀ b o, b ≠ S → h2.get? b = some o → ((h2.update S (Obj.mapSeq (·.push Value.none))).update S (Obj.mapSeq (·.pop))).get? b = some o := fun b o n e =>
    (Heap.get?_update_other _ _ (Ne.symm n)).trans ((Heap.get?_update_other _ _ (Ne.symm n)).trans e)
  replace he2 := up _ _ (Nat.ne_of_lt heS) he2
  replace hit2 := up _ _ (Nat.ne_of_lt hitS) hit2
  replace hl2 := up _ _ (Nat.ne_of_lt hlS) hl2
  dsimp only
  generalize (h2.update S (Obj.mapSeq (·.push Value.none))).update S (Obj.mapSeq (·.pop)) = h5 at *
  refine wpAny_pure ⟨plainId_quiet PySem.F.plain_extend_loop _, ?_⟩
  refine codeAny_builtin PySem.F.entry_extend_loop ?_
  rw [Around.under_plainId PySem.F.plain_extend_loop _]
  show wpAny _ _ (pyNext (.ref e) >>= _) _ _ _
  refine wpAny_bind (filter_end hh he2 ⟨_, hit2, rfl, rfl⟩ (PySem.IsL.isList (n := n) hl2) rfl fun h6 hx6 => wpAny_pure ?_)
  have hS6 := hx6 _ _ (Nat.ne_of_gt hitS) hS5
  refine ⟨rfl, h S h6 _ c5 ?_ ?_ hns⟩
  · exact LCg.fr_but F5 (fun b o n e => hx6 b o (by simpa using n) e) (Ne.symm hitL) hit0
  · intro p hp
    rcases List.mem_cons.mp hp with rfl | hp
    · exact ⟨hS6, hSL, hS0⟩
    · exact ⟨hx6 _ _ (hoff p hp) (N5 p hp).1, (N5 p hp).2⟩
end
end Mine
end
section
set_option maxRecDepth 100000
set_option maxHeartbeats 4000000
namespace Mine
theorem set_getattr_none : typeLookup (.type "set") "__getattr__" = pure none := by rw [typeLookup_type, builtinLookup_eq_fast]; kernel_rfl
theorem entry_set_getattribute : entryFor table "set.__getattribute__" = some Builtin.«object.__getattribute__» :=
  entryFor_alias (id' := "object.__getattribute__") (by kernel_rfl) (by decide +kernel) (by decide +kernel) (by kernel_rfl)
theorem md_get : typeLookup (.type "method_descriptor") "__get__" = pure (some (.builtin "method_descriptor.__get__")) := by rw [typeLookup_type, builtinLookup_eq_fast]; kernel_rfl
theorem md_set : typeLookup (.type "method_descriptor") "__set__" = pure none := by rw [typeLookup_type, builtinLookup_eq_fast]; kernel_rfl
theorem md_del : typeLookup (.type "method_descriptor") "__delete__" = pure none := by rw [typeLookup_type, builtinLookup_eq_fast]; kernel_rfl
theorem slot_md_get : Slot "method_descriptor" "__get__" "method_descriptor.__get__" :=
  .of (owner := "method_descriptor") (n := "__get__") md_get (by decide +kernel) (by decide +kernel) (by decide +kernel)
    (by first | exact .inl (by decide +kernel) | exact .inr (by decide +kernel)) (by rw [isSubtype_type]; kernel_rfl)
theorem entry_md_get : entryFor table "method_descriptor.__get__" = some Builtin.«method_descriptor.__get__» := entryFor_of_tree (by kernel_rfl)
theorem args_md_get (a b c : Value) : argsOk "method_descriptor.__get__" ⟨[a, b, c], []⟩ := by unfold argsOk; kernel_rfl
theorem sub_set_self : isSubtype (.type "set") (.type "set") = pure true := by rw [isSubtype_type]; kernel_rfl
theorem meets_set_contains (a : Addr) (es : Array (Int × Value)) (ep : Nat) (tt : SetTable) (sl : Array (Option Value)) (u : Tok) :
    Meets (Builtin.«object.__getattribute__» ⟨[.ref a, .str (t "__contains__") u], []⟩) (fun A R s => s.heap.get? a = some { cls := .type "set", dict := none, data := .set es ep tt, slots := sl } ∧
      R (.ok (.ret (.ref s.heap.objs.size))) { s with heap := s.heap.push { cls := .type "builtin_function_or_method", data := .fields #[.builtin "set.__contains__", .ref a] } }) :=
  Meets.of_wp fun prog w A R s hs => by
    obtain ⟨hp, g, d, tk, os⟩ := s
    obtain ⟨hx, hs⟩ := hs
    have hT : (⟨hp, g, d, tk, os⟩ : Shared).TypeIs (.ref a) "set" := ⟨_, hx, rfl⟩
    have f1 := PySem.F.slot_set_contains.lookup
    have f2 := PySem.F.type_set_contains
    have f3 := md_get
    have f4 := md_set
    have f5 := md_del
    unfold Builtin.«object.__getattribute__»
    repeat (any_goals (first | assumption | wp_step))
    have hT2 : (⟨hp, g, d, tk, os⟩ : Shared).TypeIs (.builtin "set.__contains__") "method_descriptor" := f2
    refine codeAny_mono (codeAny_call_builtin (R := wants (fun r s₂ => R (.ok (.ret r)) s₂) (fun e s' => R (.error e) s')) slot_md_get.plain entry_md_get (slot_md_get.check _ _ _ _ _ _ _ _ hT2 (args_md_get _ _ _) ?_)) ?_
    · have hsub := sub_set_self
      unfold Builtin.«method_descriptor.__get__»
      repeat (any_goals (first | assumption | wp_step))
      rw [show (".".intercalate ("set.__contains__".cutAt '.').dropLast) = "set" by decide +kernel]
      refine wpAny_of_eq hsub ?_
      show wpAny _ _ (pure ()) _ _ _
      refine wpAny_pure ?_
      exact wpAny_bind (wpAny_newObj_type (wpAny_pure hs))
    · intro r s' hr
      cases r with
      | error e => exact hr
      | ok f =>
        cases f with
        | ret v => exact wpAny_pure ⟨_, rfl, hr⟩
        | _ => exact hr.elim
section
variable {prog : Program} {w : World} {A : Around} {E : Value → Shared → Prop} {s : Shared} {h₀ : Heap} {L : Addr} {m : Str → Option Value} {news : List (Addr × Obj)}
abbrev bfmObj (a : Addr) : Obj := { cls := .type "builtin_function_or_method", data := .fields #[.builtin "set.__contains__", .ref a] }
theorem attr_contains {a : Addr} {o : Obj} {Q : Value → Shared → Prop} {es : Array (Int × Value)} {ep : Nat} {tt : SetTable} (hx : s.heap.get? a = some o) (hc : o.ExactSet) (hd : o.data = .set es ep tt)
    (h : ∀ tk, Q (.ref s.heap.objs.size) { s with heap := s.heap.push (bfmObj a), toks := tk }) : wpAny (model prog w) A (getAttr (.ref a) (t "__contains__") true) Q E s := by
  obtain ⟨c, dct, dat, sl⟩ := o
  obtain ⟨e1, e2, e3⟩ := hc
  simp only at e1 e2 e3 hd
  subst e1 e2 e3 hd
  obtain ⟨hp, g, d, tk, os⟩ := s
  have hT : ∀ tk', (⟨hp, g, d, tk', os⟩ : Shared).TypeIs (.ref a) "set" := fun _ => ⟨_, hx, rfl⟩
  have f3 := PySem.F.slot_set_getattribute.lookup
  have f4 := PySem.F.slot_set_getattribute.bind (.ref a)
  have f5 := set_getattr_none
  unfold getAttr getAttrBy
  repeat (any_goals (first | assumption | exact hT _ | ((with_reducible show wpAny _ _ (call (Value.builtin "set.__getattribute__") _ _) _ _ _); refine call_meets PySem.F.slot_set_getattribute (hT _) entry_set_getattribute (PySem.F.args_set_getattribute_2 _ _) (meets_set_contains a es ep tt #[] _) ⟨hx, ?_⟩) | wp_step))
  exact wpAny_pure (h _)
theorem set_empty {l : Addr} {n : Nat} {Q : Value → Shared → Prop} (hA : A.handled = none) (F : Fr h₀ L s.heap m) (N : News h₀ L s.heap news) (hl : h₀.get? l = some (listOf #[] n))
    (h : ∀ (x : Nat) o es ep tt h' tk, Fr h₀ L h' m → News h₀ L h' ((x, o) :: news) → (∀ p ∈ news, p.1 < x) → o.ExactSet → o.data = .set es ep tt → Q (.ref x) { s with heap := h', toks := tk }) : wpAny (model prog w) A (call (.type "set") [.ref l]) Q E s := by
  refine newSetList_N (vs := []) (ns := []) F N hA ⟨_, hl, rfl, _, rfl⟩ IntsAre.nil (by decide) fun h' tk o F' N' hs _ _ => ?_
  obtain ⟨hex, es, ep, tt, hd, _⟩ := hs
  exact h _ o es ep tt h' tk F' N' (fun p hp => Heap.lt_size (N p hp).1) hex hd
theorem contains_N {a : Addr} {o : Obj} {Q : Value → Shared → Prop} {es : Array (Int × Value)} {ep : Nat} {tt : SetTable} (F : Fr h₀ L s.heap m) (N : News h₀ L s.heap news) (hx : (a, o) ∈ news) (hc : o.ExactSet) (hd : o.data = .set es ep tt)
    (h : ∀ (q : Nat) h' tk, Fr h₀ L h' m → News h₀ L h' ((q, bfmObj a) :: news) → (∀ p ∈ news, p.1 < q) → Q (.ref q) { s with heap := h', toks := tk }) : wpAny (model prog w) A (getAttr (.ref a) (t "__contains__") true) Q E s :=
  attr_contains (N _ hx).1 hc hd fun tk => h _ _ tk (F.push _) (N.push F _) fun p hp => Heap.lt_size (N p hp).1
end
end Mine
end
section
set_option maxRecDepth 100000
set_option maxHeartbeats 8000000
namespace Mine
local macro_rules | `(tactic| walk_at "my_enter") => `(tactic| (refine wpAny_call ?_; k_dflt (refine' code_defG ?k1 ?k2 ?k3 (News.nil) ?k5 ?kA ?kF ?kK ?k6 ?k7 ?k8 ?k9 ?kB ?_ ?c2 ?c3 ?c4 ?c5; (case kA => exact rfl); (case kF => exact rfl); (case kK => assumption); (case k1 => k_asm); (case k2 => k_asm); (case k3 => k_asm); (case k5 => k_asm); (case k6 => k_is); (case k7 => k_is); (case k8 => exact room_d (by assumption)); (case k9 => exact BindsTo.of_eq rfl); (case c5 => decide); (case kB => exact locs rfl); (case c2 => exact rfl); (case c3 => exact rfl); (case c4 => exact rfl); k_whole; intro g' L' h' FG' F' N' B' X' T' GS; replace GS := gsub_all GS; refine wp_noexc ?_; (try dsimp only); (try k_fold))))
local macro_rules | `(tactic| k_room) => `(tactic| (simp only [depth_under_make, depth_under_kw, depth_in1, depth_deeper, depth_caller]; omega))
local macro_rules | `(tactic| walk_at "execs cons") => `(tactic| (refine wpAny_execs_cons ?_; (try dsimp only); (try (refine gen_tk (fun tk => ?_)))))
local macro_rules | `(tactic| walk_at "eval Constant int") => `(tactic| (refine lc_int ?_; intro _ _; (try dsimp only)))
local macro_rules | `(tactic| walk_at "eval Constant str") => `(tactic| (refine lc_str ?_; intro _ _; (try dsimp only)))
local macro_rules | `(tactic| k_inst) => `(tactic| (refine' inst_ground ?F ?h1 ?h2; (case F => k_asm); (case h1 => assumption); (case h2 => assumption)))
theorem drop4 {h₀ h : Heap} {L : Addr} {a b c d : Addr × Obj} {nw : List (Addr × Obj)} (N : News h₀ L h (a :: b :: c :: d :: nw)) : News h₀ L h nw := fun p hp => N p (.tail _ (.tail _ (.tail _ (.tail _ hp))))
theorem ent_pack {P : Params} {h0 g h : Heap} {L D S x d : Addr} {a b : Addr × Obj} {k0 k1 k2 k3 : Tok} {c cu cd : Nat} {es : List (Str × Tok)} (G : HExt h0 g)
    (N : News g L h [(D, listOf (sv es).toArray c), (S, listOf #[] cu), a, b, (x, instObj 779 d), (d, dictOf [e P "useragents" k0 (.ref S), e P "rulelines" k1 (.ref D), e P "delay" k2 .none, e P "req_rate" k3 .none] cd)]) : EntF P h0 h x es := by
  refine ⟨fun i => [k0, k1, k2, k3].getD i 0, d, S, D, c, cu, cd, fun p hp => fresh_of G N p ?_⟩
  rcases List.mem_cons.mp hp with rfl | hp
  · exact .head _
  rcases List.mem_cons.mp hp with rfl | hp
  · exact .tail _ (.head _)
  · exact .tail _ (.tail _ (.tail _ (.tail _ hp)))
theorem c_merge (w : World) (r1 r2 : Nat) (es1 es2 : List (Str × Tok)) (hz : es1.length + es2.length ≤ 1000) :
    Con w 6 790 [.ref r1, .ref r2] (fun h => Ent w.params h r1 es1 ∧ Ent w.params h r2 es2) (fun h h' v => ∃ r, v = .ref r ∧ EntF w.params h h' r (es1 ++ es2)) := by
  dsimp only [Con]
  k_fill
  intros
  rename_i hS hret
  obtain ⟨⟨k1, d1, ua1, rl1, c1, cu1, cd1, hE1⟩, ⟨k2, d2, ua2, rl2, c2, cu2, cd2, hE2⟩⟩ := hS
  walk_at "my_enter"
  rename HExt _ _ => GS
  have h11 := GS _ _ (hE1 _ (.tail _ (.tail _ (.head _))))
  have h12 := GS _ _ (hE1 _ (.tail _ (.tail _ (.tail _ (.head _)))))
  have h13 := GS _ _ (hE1 _ (.tail _ (.head _)))
  have h14 := GS _ _ (hE1 _ (.head _))
  have h21 := GS _ _ (hE2 _ (.tail _ (.tail _ (.head _))))
  have h22 := GS _ _ (hE2 _ (.tail _ (.tail _ (.tail _ (.head _)))))
  have h23 := GS _ _ (hE2 _ (.tail _ (.head _)))
  have h24 := GS _ _ (hE2 _ (.head _))
  clear hE1 hE2
  k_steps
  rename Fr _ _ _ _ => F5
  rename News _ _ _ _ => N5
  k_dflt (refine' set_empty rfl F5 N5 h23 ?_)
  intro S5 o5 es5 ep5 tt5 h5 tk5 F6 N6 l5 ex5 ed5
  clear F5 N5
  k_dflt (refine' contains_N F6 N6 (.head _) ex5 ed5 ?_)
  intro q5 h5' tk5' F7 N7 l7
  clear F6 N6 ex5 ed5
  k_steps
  k_dflt (refine' filter_N F7 N7 (PySem.IsL.isList (n := cu1) (F7.keep _ _ h13)) ?_)
  intro x5 y5 h8 F8 N8 l8 l9
  clear F7 N7
  k_steps
  k_dflt (refine' list_filter (n := cu1) rfl F8 (drop4 N8) ?he ?hi ?hl ?h0 ?hL ?ho ?_)
  case he => exact (N8 _ (.head _)).1
  case hi => exact (N8 _ (.tail _ (.head _))).1
  case hl => exact (F8.keep _ _ h13)
  case h0 => exact (N8 _ (.tail _ (.head _))).2.2
  case hL => exact (N8 _ (.tail _ (.head _))).2.1
  case ho => exact (fun p hp => Nat.ne_of_lt (l8 p (.tail _ (.tail _ hp))))
  clear l8 l9 l7 N8 F8
  intro S9 h9 tk9 c9 F9 N9 l9
  k_lt l9
  k_steps
  rename Fr _ _ _ _ => F9
  rename News _ _ _ _ => N9
  k_dflt (refine' add_texts F9 N9 (F9.keep _ _ h14) (F9.keep _ _ h24) hz ?_)
  clear F9 N9
  intro D10 h10 F10 N10 l10
  k_lt l10
  k_steps
  refine' hret _ _ _ (ext2 GS ?F) ⟨_, rfl, ent_pack GS ?N⟩
  case F => assumption
  case N => assumption
end Mine
end
section
set_option maxRecDepth 100000
set_option maxHeartbeats 8000000
namespace Mine
local macro_rules | `(tactic| walk_at "my_enterT") => `(tactic| (refine wpAny_call ?_; k_dflt (refine' code_defT ?k1 ?k2 ?k4 ?kX ?kT ?kD ?kA ?kF ?kK ?k6 ?k7 ?k8 ?k9 ?kB ?_ ?c2 ?c3 ?c4 ?c5; (case kA => exact rfl); (case kF => exact rfl); (case kK => assumption); (case k1 => k_asm); (case k2 => k_asm); (case kX => assumption); (case kT => assumption); (case kD => assumption); (case k4 => exact News.nil); (case k6 => k_is); (case k7 => k_is); (case k8 => exact room_d (by assumption)); (case k9 => exact BindsTo.of_eq rfl); (case c5 => decide); (case kB => exact locs rfl); (case c2 => exact rfl); (case c3 => exact rfl); (case c4 => exact rfl); k_whole; intro g' L' h' FG' F' N' B' X' T' D' GS; refine wp_noexc ?_; (try dsimp only); (try k_fold))))
local macro_rules | `(tactic| k_room) => `(tactic| (simp only [depth_under_make, depth_under_kw, depth_in1, depth_deeper, depth_caller]; omega))
local macro_rules | `(tactic| walk_at "execs cons") => `(tactic| (refine wpAny_execs_cons ?_; (try dsimp only); (try (refine gen_tk (fun tk => ?_)))))
local macro_rules | `(tactic| k_inst) => `(tactic| (refine' inst_ground ?F ?h1 ?h2; (case F => k_asm); (case h1 => assumption); (case h2 => assumption)))
local macro_rules | `(tactic| walk_at "call type:list") => `(tactic| (k_here; k_dflt (refine' copy_texts ?F ?N ?h ?z ?_; (case F => k_asm); (case N => k_asm); (case h => assumption); (case z => omega); intro D' c' h' F' N' l1; (try k_lt l1); (try k_sweep))))
local macro_rules | `(tactic| walk_at "binaryOp Add ref ref") => `(tactic| (k_here; k_dflt (refine' add_texts ?F ?N (News.get ?a ?b) (News.get ?c ?d) ?z ?_; (case F => k_asm); (case N => k_asm); (case a => k_asm); (case b => k_mem); (case c => k_asm); (case d => k_mem); (case z => omega); intro D' h' F' N' l1; (try k_lt l1); (try k_sweep))))
/-- what _law_spanned holds -/
def spR (a b : List Str) : List Str := (uldR (shR a b).reverse (a ++ b)).1 ++ (uldR (shR a b).reverse (a ++ b)).2
theorem sh_len (a b : List Str) : (shR a b).length ≤ 2 * a.length := by
  unfold shR
  rw [List.length_append]
  have h1 := uld_len1 (uldR a.reverse b).1.reverse a
  have h2 := uld_len2 (uldR a.reverse b).1.reverse a
  have h3 := uld_len1 a.reverse b
  simp only [List.length_reverse] at h1 h2 h3
  omega
theorem c_spanned (w : World) (r1 r2 : Nat) (es1 es2 : List (Str × Tok)) (hz : es1.length + es2.length ≤ 200) :
    ConTP w 14 853 [.ref r1, .ref r2] (fun fs h => EntO w.params fs h r1 es1 ∧ EntO w.params fs h r2 es2) (fun v news => ∃ (k : Nat → Tok) (r d ua rl c cu cd : Nat) (es : List (Str × Tok)), v = .ref r ∧ es.map (·.1) = spR (es1.map (·.1)) (es2.map (·.1)) ∧ news = entL w.params k r d ua rl es c cu cd) := by
  dsimp only [ConTP]
  k_fill
  intro mean mg mb dp un gd cn cs a ccd cl outer A₀ base h₀ L m s Q E B F XB TB D hk hdp hun hP hret
  have X0 := XB.keeps B.stays
  have T0 := TB.keeps B.stays
  obtain ⟨⟨k1, d1, ua1, rl1, c1, cu1, cd1, hE1⟩, ⟨k2, d2, ua2, rl2, c2, cu2, cd2, hE2⟩⟩ := hP
  walk_at "my_enterT"
  rename GSub _ _ _ => GS
  replace hE1 := At.enter (env := envX cn cs L a ccd cl) rfl hE1 GS
  replace hE2 := At.enter (env := envX cn cs L a ccd cl) rfl hE2 GS
  repeat' ((fail_if_success (with_reducible show wpAny _ _ (call (Value.ref _) _) _ _ _)); (first | (k_unfold; (try dsimp only)) | (k_end; wrow_close) | walk1 | (dsimp only; walk1) | (leave1; walk_say "STEP leave1"; try dsimp only) | fail "no step"))
  rename Fr _ _ _ _ => F5
  k_dflt (refine' conTP_use (c_shared w r1 r2 es1 es2 (by omega)) ?k1 F5 XB TB ?kD rfl ?k6 ?k7 ?P ?_)
  case k1 => assumption
  case kD => assumption
  case k6 => (simp only [depth_under_make, depth_under_kw, depth_in1, depth_deeper, depth_caller]; omega)
  case k7 => (simp only [units_in1, units_deeper, Around.mark_units, units_caller]; omega)
  case P => exact ⟨⟨k1, d1, ua1, rl1, c1, cu1, cd1, At.inner hE1 F5⟩, ⟨k2, d2, ua2, rl2, c2, cu2, cd2, At.inner hE2 F5⟩⟩
  clear F5
  rintro v6 h6 tk6 g6 news6 T6 F6 B6 D6 H6 N6 - ⟨k3, r3, d3, ua3, rl3, c3, cu3, cd3, es3, rfl, e3, rfl⟩
  replace hE1 := At.turn hE1 T6
  replace hE2 := At.turn hE2 T6
  have X6 := XB.keeps B6.stays
  have P6 := TB.keeps B6.stays
  clear H6
  repeat' ((fail_if_success (with_reducible show wpAny _ _ (call (Value.ref _) _) _ _ _)); (first | (k_unfold; (try dsimp only)) | (k_end; wrow_close) | walk1 | (dsimp only; walk1) | (leave1; walk_say "STEP leave1"; try dsimp only) | fail "no step"))
  rename Fr _ _ _ _ => F5
  k_dflt (refine' con_use (c_merge w r1 r2 es1 es2 (by omega)) B6 F5 X6 P6 rfl ?k6 ?k7 ?P ?_)
  case k6 => (simp only [depth_under_make, depth_under_kw, depth_in1, depth_deeper, depth_caller]; omega)
  case k7 => (simp only [units_in1, units_deeper, Around.mark_units, units_caller]; omega)
  case P => exact ⟨⟨k1, d1, ua1, rl1, c1, cu1, cd1, fun p hp => F5.keep _ _ (hE1 p hp).1⟩, ⟨k2, d2, ua2, rl2, c2, cu2, cd2, fun p hp => F5.keep _ _ (hE2 p hp).1⟩⟩
  rintro v7 h7 tk7 X7 ⟨r4, rfl, E7⟩
  obtain ⟨k4, d4, ua4, rl4, c4, cu4, cd4, N7⟩ := EntF.news F5 E7
  replace N6 := N6.grown X7
  have F7 := F5.keeps X7
  clear F5 hE1 hE2 X7 E7
  repeat' ((fail_if_success (with_reducible show wpAny _ _ (call (Value.ref _) _) _ _ _)); (first | (k_unfold; (try dsimp only)) | (k_end; wrow_close) | walk1 | (dsimp only; walk1) | (leave1; walk_say "STEP leave1"; try dsimp only) | fail "no step"))
  k_dflt (refine' conTP_use (c_apart w r3 r4 es3 (es1 ++ es2) ?z) B6 F7 XB TB D6 rfl ?k6 ?k7 ?P ?_)
  case z =>
    have := congrArg List.length e3
    have q := sh_len (es1.map (·.1)) (es2.map (·.1))
    simp only [List.length_map, List.length_append] at this q ⊢
    omega
  case k6 => (simp only [depth_under_make, depth_under_kw, depth_in1, depth_deeper, depth_caller]; omega)
  case k7 => (simp only [units_in1, units_deeper, Around.mark_units, units_caller]; omega)
  case P => exact ⟨⟨k3, d3, ua3, rl3, c3, cu3, cd3, At.of_news B6 N6⟩, ⟨k4, d4, ua4, rl4, c4, cu4, cd4, At.of_news B6 N7⟩⟩
  clear N6 N7 F7
  rintro v8 h8 tk8 g8 news8 T8 F8 B8 D8 H8 N8 - ⟨TT, MM, RR, ns, ss, c7, c8, rfl, e7, e8, rfl⟩
  clear B6 D6 H8 X6 P6
  have X8 := XB.keeps B8.stays
  have P8 := TB.keeps B8.stays
  have z2 : ns.length ≤ 2 * es1.length := by
    have := congrArg List.length e7
    have q := uld_len1 (es3.map (·.1)).reverse ((es1 ++ es2).map (·.1))
    have q2 := sh_len (es1.map (·.1)) (es2.map (·.1))
    have q3 := congrArg List.length e3
    simp only [List.length_map, List.length_reverse] at this q q2 q3
    omega
  have z3 : ss.length ≤ es1.length + es2.length := by
    have := congrArg List.length e8
    have q := uld_len2 (es3.map (·.1)).reverse ((es1 ++ es2).map (·.1))
    simp only [List.length_map, List.length_reverse, List.length_append] at this q
    omega
  repeat' ((fail_if_success (with_reducible show wpAny _ _ (call (Value.ref _) _) _ _ _)); (first | (k_unfold; (try dsimp only)) | (k_end; wrow_close) | walk1 | (dsimp only; walk1) | (leave1; walk_say "STEP leave1"; try dsimp only) | fail "no step"))
  rename Fr _ _ _ _ => F5
  rename News _ _ _ _ => N5
  k_dflt (refine' conF_use (c_record w _ (ns ++ ss) 0 ?z) B8 F5 X8 P8 rfl ?k6 ?k7 (News.one N5) ?_)
  case z => rw [List.length_append]; omega
  case k6 => (simp only [depth_under_make, depth_under_kw, depth_in1, depth_deeper, depth_caller]; omega)
  case k7 => (simp only [units_in1, units_deeper, Around.mark_units, units_caller]; omega)
  rintro v9 h9 tk9 X9 ⟨r, rfl, E9⟩
  obtain ⟨kk, d, ua, rl, c, cu, cd, N9⟩ := EntF.news F5 E9
  refine' leaveT_ (L' := ?L9) (T6.trans T8) (F5.keeps X9) N9 ?_
  intro h₀'' T'' F'' N'' B'' D'' H''
  dsimp only at F'' N'' H'' ⊢
  refine hret _ _ _ _ _ T'' F'' B'' D'' ?HB N'' (fresh_turn GS (T6.trans T8) N9) ⟨kk, r, d, ua, rl, c, cu, cd, _, rfl, ?_, rfl⟩
  · exact hbutT (fs := []) rfl (by assumption) H''
  · rw [List.map_append, e7, e8, e3, List.map_append]; rfl
end Mine
end
section
open PySem.Spec PySem.Calls
set_option maxRecDepth 100000
namespace Mine
abbrev fb (i : Nat) : Stmt := nth (forBody (lw 7)) i
theorem fb_eq : forBody (lw 7) = [fb 0, fb 1, fb 2, fb 3, fb 4, fb 5, fb 6, fb 7, fb 8, fb 9] := by with_unfolding_all rfl
theorem lw_eq : lawB = [lw 0, lw 1, lw 2, lw 3, lw 4, lw 5, lw 6, lw 7, lw 8, lw 9] := by with_unfolding_all rfl
def prodN (ys : List Str) : Nat := ys.foldl (fun a y => a * (valOf y).toNat) 1
theorem prod_cast (ys : List Str) : prodV ys = (prodN ys : Int) := by
  have key : ∀ (ys : List Str) (a : Nat), ys.foldl (fun a y => a * valOf y) (a : Int) = ((ys.foldl (fun a y => a * (valOf y).toNat) a : Nat) : Int) := by
    intro ys
    induction ys with
    | nil => intro a; rfl
    | cons y ys ih =>
      intro a
      rw [List.foldl_cons, List.foldl_cons, ← ih]
      congr 1
      have := (val_bits y).1
      rw [Int.natCast_mul, Int.toNat_of_nonneg this]
  exact key ys 1
section
variable {w : World} {b : Heap} {A₀ : Around} {mean : ExcName → Option Value} {mg mb : Str → Option Value} {dp un : Nat} {gd : Option (List Code)} {cn : Str} {a : Addr} {ccd : Value} {L : Addr} {m : Str → Option Value} {s : Shared} {E : Value → Shared → Prop} {cl : List (Str × Addr)} {Q : Flow → Shared → Prop}
theorem nm_fun (cx : Cx w b A₀ mean mg mb dp un lawS) {A : Around} {M : Model} {x : Str} {p : Pos} {v : Value} (F : Fr b L s.heap m) (hx : (envX cn lawS L a ccd cl).kindOf x = some .globalImplicit) (e : nsIn (K w.params) mainGlobals x = some (some v)) (hd : (x == ("__debug__" : Str)) = false) (Q' : Value → Shared → Prop) (h : Q' v s) :
    wpAny M A (eval (.Name x p) (envX cn lawS L a ccd cl)) Q' E s :=
  Name_function_global rfl hx (loadGlobal_global (env := envX cn lawS L a ccd cl) (show s.heap.Ns mainGlobals mg from (cx.T.keeps F.keep).g) (mg_of cx.X cx.T.g e) h) hd
theorem b0 (cx : Cx w b A₀ mean mg mb dp un lawS) {r : Addr} {fr : List (Str × Tok)} {c : Nat} (F : Fr b L s.heap m) (hm : m (t "row") = some (.ref r)) (hr : s.heap.get? r = some (listOf (sv fr).toArray c))
    (hQ : ∀ h tk tv, Fr b L h (fun z => if z = t "value" then some (.int (prodN (fr.map (·.1)) : Nat) tv) else m z) → HBut [L] s.heap h → Q .next { s with heap := h, toks := tk }) :
    wpAny (model PySem.Challenge.rw_ny0363_01.row.prog w) (ktrTop dp un gd cn lawS L a ccd cl []) (exec (fb 0) (envX cn lawS L a ccd cl)) Q E s := by
  with_unfolding_all refine wpAny_Assign_Name (ev_val cx F rfl rfl rfl hr (ev_loc F rfl rfl rfl hm (by decide) ⟨rfl, _, rfl⟩) fun h1 tk1 tv X1 F1 => ?_)
  rw [prod_cast]
  with_unfolding_all refine st_loc (s := { s with heap := h1, toks := tk1 }) F1 rfl rfl rfl fun h2 tk2 F2 k2 => ?_
  exact hQ h2 tk2 tv F2 (hbut_trans (hext_but X1) k2)
/-- _law_divisor of two names -/
theorem ev_div (cx : Cx w b A₀ mean mg mb dp un lawS) {x y : Str} {p1 p2 p3 p4 : Pos} {i j : Nat} {ti tj : Tok} {Qv : Value → Shared → Prop} (F : Fr b L s.heap m) (hx : m x = some (.int i ti)) (hy : m y = some (.int j tj)) (lx : (envX cn lawS L a ccd cl).kindOf x = some .local) (ly : (envX cn lawS L a ccd cl).kindOf y = some .local) (dx : (x == ("__debug__" : Str)) = false) (dy : (y == ("__debug__" : Str)) = false) (hk : (envX cn lawS L a ccd cl).kindOf (t "_law_divisor") = some .globalImplicit)
    (hQ : ∀ h tk tv, Fr b L h m → HExt s.heap h → Qv (.int (Nat.gcd i j : Nat) tv) { s with heap := h, toks := tk }) :
    wpAny (model PySem.Challenge.rw_ny0363_01.row.prog w) (ktrTop dp un gd cn lawS L a ccd cl []) (eval (.Call (.Name (t "_law_divisor") p1) [.Name x p2, .Name y p3] [] p4) (envX cn lawS L a ccd cl)) Qv E s := by
  refine ev_call2 (KF := K w.params) (fa := 825) cx.X (by kernel_rfl) (fun Q' hQ' => nm_fun cx F hk (by kernel_rfl) (by decide) Q' hQ') ?_
  refine ev_loc F rfl cx.hk lx hx dx (ev_loc F rfl cx.hk ly hy dy ⟨F.keep, ?_⟩)
  refine law_con cx (c_divisor w i j ti tj) (by decide) F trivial fun v h' tk' X' F' P => ?_
  obtain ⟨tv, rfl⟩ := P
  exact hQ h' tk' tv F' X'
theorem b1 (cx : Cx w b A₀ mean mg mb dp un lawS) {i j : Nat} {ti tj : Tok} (F : Fr b L s.heap m) (hx : m (t "least") = some (.int i ti)) (hy : m (t "value") = some (.int j tj))
    (hQ : ∀ h tk tv, Fr b L h (fun z => if z = t "common" then some (.int (Nat.gcd i j : Nat) tv) else m z) → HBut [L] s.heap h → Q .next { s with heap := h, toks := tk }) :
    wpAny (model PySem.Challenge.rw_ny0363_01.row.prog w) (ktrTop dp un gd cn lawS L a ccd cl []) (exec (fb 1) (envX cn lawS L a ccd cl)) Q E s := by
  with_unfolding_all refine wpAny_Assign_Name (ev_div cx F hx hy rfl rfl (by decide) (by decide) rfl fun h1 tk1 tv F1 X1 => ?_)
  with_unfolding_all refine st_loc (s := { s with heap := h1, toks := tk1 }) F1 rfl rfl rfl fun h2 tk2 F2 k2 => ?_
  exact hQ h2 tk2 tv F2 (hbut_trans (hext_but X1) k2)
theorem b2 (cx : Cx w b A₀ mean mg mb dp un lawS) {lo q : Addr} {el er : List (Str × Tok)} (hz : el.length + er.length ≤ 200) (F : Fr b L s.heap m) (hx : m (t "low") = some (.ref lo)) (hy : m (t "record") = some (.ref q)) (El : EntO w.params [L] s.heap lo el) (Er : EntO w.params [L] s.heap q er)
    (hQ : ∀ h tk M R ms rs c3 c2, Fr b L h (fun z => if z = t "rest" then some (.ref R) else if z = t "beyond" then some (.ref M) else m z) → HBut [L] s.heap h → At [L] h [(M, listOf (sv ms).toArray c3), (R, listOf (sv rs).toArray c2)] → ms.map (·.1) = (uldR (el.map (·.1)).reverse (er.map (·.1))).1 → rs.map (·.1) = (uldR (el.map (·.1)).reverse (er.map (·.1))).2 → Q .next { s with heap := h, toks := tk }) :
    wpAny (model PySem.Challenge.rw_ny0363_01.row.prog w) (ktrTop dp un gd cn lawS L a ccd cl []) (exec (fb 2) (envX cn lawS L a ccd cl)) Q E s := by
  with_unfolding_all refine Assign_Tuple (ev_call2 (KF := K w.params) (fa := 839) cx.X (by kernel_rfl) (fun Q' hQ' => nm_fun cx F rfl (by kernel_rfl) (by decide) Q' hQ') (ev_loc F rfl rfl rfl hx (by decide) (ev_loc F rfl rfl rfl hy (by decide) ⟨F.keep, ?_⟩)))
  refine law_tp cx (c_apart w lo q el er (by omega)) (by decide) F ⟨El, Er⟩ fun v h1 tk1 nw k1 F1 N1 f1 P => ?_
  obtain ⟨T, M, R, ms, rs, c3, c2, rfl, e1, e2, rfl⟩ := P
  have at1 : At [L] h1 _ := At.of_news cx.B N1
  with_unfolding_all refine unpack2 (s := { s with heap := h1, toks := tk1 }) rfl F1 ⟨_, (at1 _ (.head _)).1, rfl, _, rfl⟩ rfl rfl rfl rfl fun h2 tk2 F2 k2 => ?_
  exact hQ h2 tk2 M R ms rs c3 c2 F2 (hbut_trans k1 k2) ((at1.but k2).sub fun p hp => .tail _ hp) e1 e2
end
end Mine
end
section
open PySem.Spec PySem.Calls
set_option maxRecDepth 100000
namespace Mine
section
variable {w : World} {b : Heap} {A₀ : Around} {mean : ExcName → Option Value} {mg mb : Str → Option Value} {dp un : Nat} {gd : Option (List Code)} {cn : Str} {a : Addr} {ccd : Value} {L : Addr} {m : Str → Option Value} {s : Shared} {E : Value → Shared → Prop} {cl : List (Str × Addr)} {Q : Flow → Shared → Prop}
/-- _law_value(x) * y != z, and it is not so -/
theorem ev_ne1 (cx : Cx w b A₀ mean mg mb dp un lawS) {x y z : Str} {p1 p2 p3 p4 p5 p6 p7 : Pos} {l : Addr} {es : List (Str × Tok)} {c : Nat} {g v : Nat} {tg tv : Tok} {Qb : Bool → Shared → Prop} {whole : Sem Value} (F : Fr b L s.heap m) (hx : m x = some (.ref l)) (hy : m y = some (.int g tg)) (hz : m z = some (.int v tv)) (lx : (envX cn lawS L a ccd cl).kindOf x = some .local) (ly : (envX cn lawS L a ccd cl).kindOf y = some .local) (lz : (envX cn lawS L a ccd cl).kindOf z = some .local) (dx : (x == ("__debug__" : Str)) = false) (dy : (y == ("__debug__" : Str)) = false) (dz : (z == ("__debug__" : Str)) = false) (hk : (envX cn lawS L a ccd cl).kindOf (t "_law_value") = some .globalImplicit)
    (hl : s.heap.get? l = some (listOf (sv es).toArray c)) (hg : g < 2 ^ 64) (he : prodN (es.map (·.1)) * g = v) (hQ : ∀ h tk, Fr b L h m → HExt s.heap h → Qb false { s with heap := h, toks := tk }) :
    wpAny (model PySem.Challenge.rw_ny0363_01.row.prog w) (ktrTop dp un gd cn lawS L a ccd cl []) (isTrue (.Compare (.BinOp (.Call (.Name (t "_law_value") p1) [.Name x p2] [] p3) .Mult (.Name y p4) p5) [.NotEq] [.Name z p6] p7) (envX cn lawS L a ccd cl) whole) Qb E s := by
  refine wpAny_isTrue_Compare1 (wpAny_BinOp (ev_val cx F rfl cx.hk hk hl (ev_loc F rfl cx.hk lx hx dx ⟨rfl, _, rfl⟩) fun h1 tk1 t1 X1 F1 => ?_))
  refine ev_loc (s := { s with heap := h1, toks := tk1 }) F1 rfl cx.hk ly hy dy ?_
  refine mul_int (ev_loc (s := { s with heap := h1, toks := tk1 + 1 }) F1 rfl cx.hk lz hz dz (ne_int (truthy_bool ?_))) (PySem.IntMulOk.of_right (PySem.intBits_le_64 (by omega) (by omega)))
  have e : (prodV (es.map (·.1)) * (g : Int) != (v : Int)) = false := by
    rw [prod_cast, ← Int.natCast_mul, he]
    simp
  rw [e]
  exact hQ h1 _ F1 X1
theorem b3 (cx : Cx w b A₀ mean mg mb dp un lawS) {M R : Addr} {ms rs : List (Str × Tok)} {c1 c2 : Nat} {g l v : Nat} {tg tl tv : Tok} (F : Fr b L s.heap m) (hm : m (t "beyond") = some (.ref M)) (hr : m (t "rest") = some (.ref R)) (hg : m (t "common") = some (.int g tg)) (hl : m (t "least") = some (.int l tl)) (hv : m (t "value") = some (.int v tv))
    (at0 : At [L] s.heap [(M, listOf (sv ms).toArray c1), (R, listOf (sv rs).toArray c2)]) (g64 : g < 2 ^ 64) (h1 : prodN (ms.map (·.1)) * g = l) (h2 : prodN (rs.map (·.1)) * g = v)
    (hQ : ∀ h tk, Fr b L h m → HBut [L] s.heap h → Q .next { s with heap := h, toks := tk }) :
    wpAny (model PySem.Challenge.rw_ny0363_01.row.prog w) (ktrTop dp un gd cn lawS L a ccd cl []) (exec (fb 3) (envX cn lawS L a ccd cl)) Q E s := by
  with_unfolding_all refine wpAny_If (isTrue_or (ev_ne1 cx F hm hg hl rfl rfl rfl (by decide) (by decide) (by decide) rfl (at0 _ (.head _)).1 g64 h1 fun h' tk' F' X' => ?_))
  simp only [Bool.false_eq_true, if_false]
  with_unfolding_all refine isTrue_or (ev_ne1 (s := { s with heap := h', toks := tk' }) cx F' hr hg hv rfl rfl rfl (by decide) (by decide) (by decide) rfl (X' _ _ (at0 _ (.tail _ (.head _))).1) g64 h2 fun h2 tk2 F2 X2 => ?_)
  simp only [Bool.false_eq_true, if_false]
  refine isTrue_or_nil ?_
  simp only [Bool.false_eq_true, if_false]
  exact wpAny_execs_nil (hQ h2 tk2 F2 (hext_but fun a o e => X2 _ _ (X' _ _ e)))
theorem b4 {v : Value} (F : Fr b L s.heap m) (hk : lawS.kind = .function) (hg : m (t "common") = some v)
    (hQ : ∀ h tk, Fr b L h (fun z => if z = t "least" then some v else m z) → HBut [L] s.heap h → Q .next { s with heap := h, toks := tk }) :
    wpAny (model PySem.Challenge.rw_ny0363_01.row.prog w) (ktrTop dp un gd cn lawS L a ccd cl []) (exec (fb 4) (envX cn lawS L a ccd cl)) Q E s := by
  with_unfolding_all refine wpAny_Assign_Name (ev_loc F rfl hk rfl hg (by decide) (st_loc F rfl rfl rfl fun h2 tk2 F2 k2 => hQ h2 tk2 F2 k2))
theorem b5 (cx : Cx w b A₀ mean mg mb dp un lawS) {i j : Nat} {ti tj : Tok} (F : Fr b L s.heap m) (hx : m (t "most") = some (.int i ti)) (hy : m (t "value") = some (.int j tj)) (hj : j < 2 ^ 64) (hj0 : 0 < j)
    (hQ : ∀ h tk tv, Fr b L h (fun z => if z = t "most" then some (.int (i * j / Nat.gcd i j : Nat) tv) else m z) → HBut [L] s.heap h → Q .next { s with heap := h, toks := tk }) :
    wpAny (model PySem.Challenge.rw_ny0363_01.row.prog w) (ktrTop dp un gd cn lawS L a ccd cl []) (exec (fb 5) (envX cn lawS L a ccd cl)) Q E s := by
  with_unfolding_all refine wpAny_Assign_Name (wpAny_BinOp (wpAny_BinOp (ev_loc F rfl rfl rfl hx (by decide) (ev_loc F rfl rfl rfl hy (by decide) (mul_int ?_ (PySem.IntMulOk.of_right (PySem.intBits_le_64 (by omega) (by omega))))))))
  with_unfolding_all refine ev_div (s := { s with toks := s.toks + 1 }) cx F hx hy rfl rfl (by decide) (by decide) rfl fun h1 tk1 tv F1 X1 => ?_
  have hle : Nat.gcd i j ≤ j := Nat.gcd_le_right _ hj0
  have h0 : Nat.gcd i j ≠ 0 := Nat.ne_of_gt (Nat.gcd_pos_of_pos_right _ hj0)
  refine floordiv_int (by omega) ?_ (Or.inl ?_)
  · have e : ((i : Int) * (j : Int)).fdiv (Nat.gcd i j : Nat) = ((i * j / Nat.gcd i j : Nat) : Int) := by
      rw [Int.fdiv_eq_ediv_of_nonneg _ (Int.natCast_nonneg _), ← Int.natCast_mul]; rfl
    rw [e]
    with_unfolding_all refine st_loc (s := { s with heap := h1, toks := tk1 + 1 }) F1 rfl rfl rfl fun h2 tk2 F2 k2 => ?_
    exact hQ h2 tk2 _ F2 (hbut_trans (hext_but X1) k2)
  · refine PyProof.noPylong_of_log2 ?_
    show (Nat.gcd i j).log2 < 9000
    have : (Nat.gcd i j).log2 < 64 := (Nat.log2_lt h0).mpr (by omega)
    omega
theorem b6 (cx : Cx w b A₀ mean mg mb dp un lawS) {lo q : Addr} {el er : List (Str × Tok)} (hz : el.length + er.length ≤ 200) (F : Fr b L s.heap m) (hx : m (t "low") = some (.ref lo)) (hy : m (t "record") = some (.ref q)) (El : EntO w.params [L] s.heap lo el) (Er : EntO w.params [L] s.heap q er)
    (hQ : ∀ h tk (r : Addr) (es : List (Str × Tok)) nw, Fr b L h (fun z => if z = t "low" then some (.ref r) else m z) → HBut [L] s.heap h → (∀ p ∈ nw, h.get? p.1 = some p.2 ∧ s.heap.get? p.1 = none) → EntsIn w.params [(r, es)] nw → es.map (·.1) = shR (el.map (·.1)) (er.map (·.1)) → Q .next { s with heap := h, toks := tk }) :
    wpAny (model PySem.Challenge.rw_ny0363_01.row.prog w) (ktrTop dp un gd cn lawS L a ccd cl []) (exec (fb 6) (envX cn lawS L a ccd cl)) Q E s := by
  with_unfolding_all refine wpAny_Assign_Name (ev_call2 (KF := K w.params) (fa := 846) cx.X (by kernel_rfl) (fun Q' hQ' => nm_fun cx F rfl (by kernel_rfl) (by decide) Q' hQ') (ev_loc F rfl rfl rfl hx (by decide) (ev_loc F rfl rfl rfl hy (by decide) ⟨F.keep, ?_⟩)))
  refine law_tp cx (c_shared w lo q el er (by omega)) (by decide) F ⟨El, Er⟩ fun v h1 tk1 nw k1 F1 N1 f1 P => ?_
  obtain ⟨k, r, d, ua, rl, c, cu, cd, es, rfl, e, rfl⟩ := P
  with_unfolding_all refine st_loc (s := { s with heap := h1, toks := tk1 }) F1 rfl rfl rfl fun h2 tk2 F2 k2 => ?_
  refine hQ h2 tk2 r es _ F2 (hbut_trans k1 k2) (fun p hp => ⟨k2 _ _ (f1 p hp).1 (fun z => (N1 p hp).2.1 (List.mem_singleton.mp z)), (f1 p hp).2⟩) (fun q' hq' => ?_) e
  rw [List.mem_singleton.mp hq']
  exact ⟨k, d, ua, rl, c, cu, cd, fun p hp => hp⟩
theorem b7 (cx : Cx w b A₀ mean mg mb dp un lawS) {lo q : Addr} {el er : List (Str × Tok)} (hz : el.length + er.length ≤ 200) (F : Fr b L s.heap m) (hx : m (t "high") = some (.ref lo)) (hy : m (t "record") = some (.ref q)) (El : EntO w.params [L] s.heap lo el) (Er : EntO w.params [L] s.heap q er)
    (hQ : ∀ h tk (r : Addr) (es : List (Str × Tok)) nw, Fr b L h (fun z => if z = t "high" then some (.ref r) else m z) → HBut [L] s.heap h → (∀ p ∈ nw, h.get? p.1 = some p.2 ∧ s.heap.get? p.1 = none) → EntsIn w.params [(r, es)] nw → es.map (·.1) = spR (el.map (·.1)) (er.map (·.1)) → Q .next { s with heap := h, toks := tk }) :
    wpAny (model PySem.Challenge.rw_ny0363_01.row.prog w) (ktrTop dp un gd cn lawS L a ccd cl []) (exec (fb 7) (envX cn lawS L a ccd cl)) Q E s := by
  with_unfolding_all refine wpAny_Assign_Name (ev_call2 (KF := K w.params) (fa := 853) cx.X (by kernel_rfl) (fun Q' hQ' => nm_fun cx F rfl (by kernel_rfl) (by decide) Q' hQ') (ev_loc F rfl rfl rfl hx (by decide) (ev_loc F rfl rfl rfl hy (by decide) ⟨F.keep, ?_⟩)))
  refine law_tp cx (c_spanned w lo q el er (by omega)) (by decide) F ⟨El, Er⟩ fun v h1 tk1 nw k1 F1 N1 f1 P => ?_
  obtain ⟨k, r, d, ua, rl, c, cu, cd, es, rfl, e, rfl⟩ := P
  with_unfolding_all refine st_loc (s := { s with heap := h1, toks := tk1 }) F1 rfl rfl rfl fun h2 tk2 F2 k2 => ?_
  refine hQ h2 tk2 r es _ F2 (hbut_trans k1 k2) (fun p hp => ⟨k2 _ _ (f1 p hp).1 (fun z => (N1 p hp).2.1 (List.mem_singleton.mp z)), (f1 p hp).2⟩) (fun q' hq' => ?_) e
  rw [List.mem_singleton.mp hq']
  exact ⟨k, d, ua, rl, c, cu, cd, fun p hp => hp⟩
theorem b8 (cx : Cx w b A₀ mean mg mb dp un lawS) {lo q : Addr} {el er : List (Str × Tok)} (hz : el.length + er.length ≤ 200) (F : Fr b L s.heap m) (hx : m (t "whole") = some (.ref lo)) (hy : m (t "record") = some (.ref q)) (El : EntO w.params [L] s.heap lo el) (Er : EntO w.params [L] s.heap q er)
    (hQ : ∀ h tk (r : Addr) nw, Fr b L h (fun z => if z = t "whole" then some (.ref r) else m z) → HBut [L] s.heap h → (∀ p ∈ nw, h.get? p.1 = some p.2 ∧ s.heap.get? p.1 = none) → EntsIn w.params [(r, el ++ er)] nw → Q .next { s with heap := h, toks := tk }) :
    wpAny (model PySem.Challenge.rw_ny0363_01.row.prog w) (ktrTop dp un gd cn lawS L a ccd cl []) (exec (fb 8) (envX cn lawS L a ccd cl)) Q E s := by
  with_unfolding_all refine wpAny_Assign_Name (ev_call2 (KF := K w.params) (fa := 790) cx.X (by kernel_rfl) (fun Q' hQ' => nm_fun cx F rfl (by kernel_rfl) (by decide) Q' hQ') (ev_loc F rfl rfl rfl hx (by decide) (ev_loc F rfl rfl rfl hy (by decide) ⟨F.keep, ?_⟩)))
  refine law_con cx (c_merge w lo q el er (by omega)) (by decide) F ⟨El.ent, Er.ent⟩ fun v h1 tk1 X1 F1 P => ?_
  obtain ⟨r, rfl, k, d, ua, rl, c, cu, cd, hE⟩ := P
  have hnL : ∀ p ∈ entL w.params k r d ua rl (el ++ er) c cu cd, p.1 ≠ L := fun p hp z => by
    obtain ⟨o, _, _, ho, _⟩ := F.ns
    have := (hE p hp).2
    rw [z, ho] at this; cases this
  with_unfolding_all refine st_loc (s := { s with heap := h1, toks := tk1 }) F1 rfl rfl rfl fun h2 tk2 F2 k2 => ?_
  refine hQ h2 tk2 r _ F2 (hbut_trans (hext_but X1) k2) (fun p hp => ⟨k2 _ _ (hE p hp).1 (fun z => hnL p hp (List.mem_singleton.mp z)), (hE p hp).2⟩) (fun q' hq' => ?_)
  rw [List.mem_singleton.mp hq']
  exact ⟨k, d, ua, rl, c, cu, cd, fun p hp => hp⟩
/-- _law_value(x.rulelines) != z, and it is not so -/
theorem ev_ne2 (cx : Cx w b A₀ mean mg mb dp un lawS) {x z : Str} {p1 p2 p3 p4 p6 p7 : Pos} {r : Addr} {es : List (Str × Tok)} {tv : Tok} {Qb : Bool → Shared → Prop} {whole : Sem Value} (F : Fr b L s.heap m) (hx : m x = some (.ref r)) (hz : m z = some (.int (prodN (es.map (·.1)) : Nat) tv)) (lx : (envX cn lawS L a ccd cl).kindOf x = some .local) (lz : (envX cn lawS L a ccd cl).kindOf z = some .local) (dx : (x == ("__debug__" : Str)) = false) (dz : (z == ("__debug__" : Str)) = false) (hk : (envX cn lawS L a ccd cl).kindOf (t "_law_value") = some .globalImplicit)
    (hE : EntO w.params [L] s.heap r es) (hQ : ∀ h tk, Fr b L h m → HExt s.heap h → Qb false { s with heap := h, toks := tk }) :
    wpAny (model PySem.Challenge.rw_ny0363_01.row.prog w) (ktrTop dp un gd cn lawS L a ccd cl []) (isTrue (.Compare (.Call (.Name (t "_law_value") p1) [.Attribute (.Name x p2) (t "rulelines") p3] [] p4) [.NotEq] [.Name z p6] p7) (envX cn lawS L a ccd cl) whole) Qb E s := by
  obtain ⟨k, d, ua, rl, c, cu, cd, hE⟩ := hE
  refine wpAny_isTrue_Compare1 (ev_val cx F rfl cx.hk hk (hE _ (.head _)).1 (Attribute_any_ (ev_loc F rfl cx.hk lx hx dx (attr_rl cx F (fun p hp => (hE p hp).1) ⟨rfl, _, rfl⟩))) fun h1 tk1 t1 X1 F1 => ?_)
  refine ev_loc (s := { s with heap := h1, toks := tk1 }) F1 rfl cx.hk lz hz dz (ne_int (truthy_bool ?_))
  have e : (prodV (es.map (·.1)) != ((prodN (es.map (·.1)) : Nat) : Int)) = false := by
    rw [prod_cast]; simp
  rw [e]
  exact hQ h1 _ F1 X1
theorem b9 (cx : Cx w b A₀ mean mg mb dp un lawS) {lo hi : Addr} {el eh : List (Str × Tok)} {tl th : Tok} (F : Fr b L s.heap m) (hx : m (t "low") = some (.ref lo)) (hy : m (t "high") = some (.ref hi)) (hl : m (t "least") = some (.int (prodN (el.map (·.1)) : Nat) tl)) (hh : m (t "most") = some (.int (prodN (eh.map (·.1)) : Nat) th)) (El : EntO w.params [L] s.heap lo el) (Eh : EntO w.params [L] s.heap hi eh)
    (hQ : ∀ h tk, Fr b L h m → HBut [L] s.heap h → Q .next { s with heap := h, toks := tk }) :
    wpAny (model PySem.Challenge.rw_ny0363_01.row.prog w) (ktrTop dp un gd cn lawS L a ccd cl []) (exec (fb 9) (envX cn lawS L a ccd cl)) Q E s := by
  with_unfolding_all refine wpAny_If (isTrue_or (ev_ne2 cx F hx hl rfl rfl (by decide) (by decide) rfl El fun h' tk' F' X' => ?_))
  simp only [Bool.false_eq_true, if_false]
  with_unfolding_all refine isTrue_or (ev_ne2 (s := { s with heap := h', toks := tk' }) cx F' hy hh rfl rfl (by decide) (by decide) rfl (Eh.but (hext_but X')) fun h2 tk2 F2 X2 => ?_)
  simp only [Bool.false_eq_true, if_false]
  refine isTrue_or_nil ?_
  simp only [Bool.false_eq_true, if_false]
  exact wpAny_execs_nil (hQ h2 tk2 F2 (hext_but fun a o e => X2 _ _ (X' _ _ e)))
end
end Mine
end
section
open PySem.Spec PySem.Calls
set_option maxRecDepth 100000
namespace Mine
section
variable {w : World} {b : Heap} {A₀ : Around} {mean : ExcName → Option Value} {mg mb : Str → Option Value} {dp un : Nat} {gd : Option (List Code)} {cn : Str} {a : Addr} {ccd : Value} {L : Addr} {m : Str → Option Value} {s : Shared} {E : Value → Shared → Prop} {cl : List (Str × Addr)} {Q : Flow → Shared → Prop}
theorem add_at {prog : Program} {A : Around} {l k : Addr} {es fs : List (Str × Tok)} {c d : Nat} {ctx : List (Addr × Obj)} {Qv : Value → Shared → Prop} (F : Fr b L s.heap m) (at0 : At [L] s.heap ctx) (hl : (l, listOf (sv es).toArray c) ∈ ctx) (hk : (k, listOf (sv fs).toArray d) ∈ ctx) (hz : es.length + fs.length ≤ 1000)
    (h : ∀ D h', Fr b L h' m → At [L] h' ((D, listOf (sv (es ++ fs)).toArray 0) :: ctx) → Qv (.ref D) { s with heap := h' }) : wpAny (model prog w) A (binaryOp .Add (.ref l) (.ref k)) Qv E s := by
  have N : News b L s.heap (ctx.filter fun p => (b.get? p.1).isNone) := fun p hp => by
    obtain ⟨h1, h2⟩ := List.mem_filter.mp hp
    exact ⟨(at0 p h1).1, fun z => (at0 p h1).2 (List.mem_singleton.mpr z), Option.isNone_iff_eq_none.mp h2⟩
  refine add_texts F N (at0 _ hl).1 (at0 _ hk).1 hz fun D h' F' N' _ => h D h' F' fun p hp => ?_
  rcases List.mem_cons.mp hp with rfl | hp
  · exact ⟨(N' _ (.head _)).1, fun z => (N' _ (.head _)).2.1 (List.mem_singleton.mp z)⟩
  · refine ⟨?_, (at0 p hp).2⟩
    cases q : b.get? p.1 with
    | none => exact (N' p (.tail _ (List.mem_filter.mpr ⟨hp, by rw [q]; rfl⟩))).1
    | some o =>
      have e1 := F.keep _ _ q
      rw [(at0 p hp).1] at e1
      rw [F'.keep _ _ q, e1]
theorem s_whole (cx : Cx w b A₀ mean mg mb dp un lawS) {Rw r0 r1 r2 wh : Addr} {f0 f1 f2 ew : List (Str × Tok)} {ctx : List (Addr × Obj)} (F : Fr b L s.heap m) (hm : m (t "rows") = some (.ref Rw)) (hw : m (t "whole") = some (.ref wh)) (at0 : At [L] s.heap ctx) (c0 : (Rw, LCg.lst [.ref r0, .ref r1, .ref r2]) ∈ ctx) (c1 : strL (r0, f0) ∈ ctx) (c2 : strL (r1, f1) ∈ ctx) (c3 : strL (r2, f2) ∈ ctx)
    {k : Nat → Tok} {d ua rl : Addr} {c cu cd : Nat} (hE : ∀ p ∈ entL w.params k wh d ua rl ew c cu cd, p ∈ ctx) (he : ew.map (·.1) = f0.map (·.1) ++ f1.map (·.1) ++ f2.map (·.1)) (ok : ∀ u ∈ ew.map (·.1), PyData.strOk u = true) (hz : f0.length + f1.length + f2.length ≤ 1000)
    (hQ : ∀ h tk, Fr b L h m → At [L] h ctx → Q .next { s with heap := h, toks := tk }) :
    wpAny (model PySem.Challenge.rw_ny0363_01.row.prog w) (ktrTop dp un gd cn lawS L a ccd cl []) (exec (lw 8) (envX cn lawS L a ccd cl)) Q E s := by
  with_unfolding_all refine wpAny_If (wpAny_isTrue_Compare1 (Attribute_any_ (ev_loc F rfl rfl rfl hw (by decide) (attr_rl cx F (fun p hp => (at0 p (hE p hp)).1) ?_))))
  with_unfolding_all refine wpAny_BinOp (wpAny_BinOp (ev_item (s := { s with toks := s.toks + 1 }) F rfl rfl rfl hm (by decide) (at0 _ c0).1 (by decide) (by decide) rfl fun tk1 => ev_item (s := { s with toks := tk1 }) F rfl rfl rfl hm (by decide) (at0 _ c0).1 (by decide) (by decide) rfl fun tk2 => ?_))
  refine add_at (s := { s with toks := tk2 }) (ctx := ctx) (es := f0) (fs := f1) F at0 c1 c2 (by omega) fun D h1 F1 at1 => ?_
  with_unfolding_all refine ev_item (s := { s with heap := h1, toks := tk2 }) F1 rfl rfl rfl hm (by decide) (at1 _ (.tail _ c0)).1 (by decide) (by decide) rfl fun tk3 => ?_
  refine add_at (s := { s with heap := h1, toks := tk3 }) (fs := f2) F1 at1 (.head _) (.tail _ c3) (by rw [List.length_append]; omega) fun D2 h2 F2 at2 => ?_
  have hu := cx.hu
  have ra : Reads h2 (.ref rl) (dT (ew.map (·.1))) [rl] := reads_t (at2 _ (.tail _ (.tail _ (hE _ (.head _))))).1
  have rb : Reads h2 (.ref D2) (dT ((f0 ++ f1 ++ f2).map (·.1))) [D2] := reads_t (at2 _ (.head _)).1
  rw [List.map_append, List.map_append, ← he] at rb
  refine ne_dataH ra rb (shaped_t ok) (shaped_t ok) (by show un + 64 < cLine; omega) ?_
  rw [eqv_t]
  refine truthy_bool ?_
  simp only [Bool.not_true, Bool.false_eq_true, if_false]
  exact wpAny_execs_nil (hQ h2 tk3 F2 (at2.sub fun p hp => .tail _ (.tail _ hp)))
end
end Mine
end
section
open PySem.Spec PySem.Calls
set_option maxRecDepth 100000
namespace Mine
section
variable {w : World} {b : Heap} {A₀ : Around} {mean : ExcName → Option Value} {mg mb : Str → Option Value} {dp un : Nat} {gd : Option (List Code)} {cn : Str} {a : Addr} {ccd : Value} {L : Addr} {m : Str → Option Value} {s : Shared} {E : Value → Shared → Prop} {cl : List (Str × Addr)} {Q : Flow → Shared → Prop}
theorem s_num {S c : Addr} {vs : List Value} {ns : List Int} {v0 : Option Value} (F : Fr b L s.heap m) (hm : m (t "script") = some (.ref S)) (hS : b.IsList S vs.toArray) (hv : IntsAre vs ns) (hz : ns.length ≤ 1000) (hc : s.heap.IsCell c v0) (hcL : c ≠ L) (hcb : b.get? c = none)
    (hQ : ∀ h tk Nl oc us, Fr b L h m → At [L] h [(Nl, listOf (List.toArray us) 0), (c, oc)] → oc.data = .cell (some (.ref Nl)) → IntsAre us ([36, 575, 91] ++ ns.take 14) → Q .next { s with heap := h, toks := tk }) :
    wpAny (model PySem.Challenge.rw_ny0363_01.row.prog w) (ktrTop dp un gd cn lawS L a ccd [(t "numbers", c)] []) (exec (lw 0) (envX cn lawS L a ccd [(t "numbers", c)])) Q E s := by
  with_unfolding_all refine wpAny_Assign_Name (wpAny_BinOp (List_ (spliced_more (wpAny_Constant_int (spliced_more (wpAny_Constant_int (spliced_more (wpAny_Constant_int (spliced_none ?_)))))))))
  dsimp only
  refine wpAny_newObj_type ?_ (by show (3 : Nat) ≤ sizeLine; rw [sizeLine_eq]; decide)
  dsimp only
  have X1 : HExt s.heap (s.heap.push { cls := .type "list", data := .seq [Value.int 36 s.toks, .int 575 (s.toks + 1), .int 91 (s.toks + 1 + 1)].toArray }) := fun a o e => Heap.get?_push_of_some _ e
  have hD1 : (s.heap.push { cls := .type "list", data := .seq [Value.int 36 s.toks, .int 575 (s.toks + 1), .int 91 (s.toks + 1 + 1)].toArray }).IsList s.heap.objs.size [Value.int 36 s.toks, .int 575 (s.toks + 1), .int 91 (s.toks + 1 + 1)].toArray := ⟨_, Heap.get?_push_size _ rfl, rfl, _, rfl⟩
  generalize s.heap.push { cls := .type "list", data := .seq [Value.int 36 s.toks, .int 575 (s.toks + 1), .int 91 (s.toks + 1 + 1)].toArray } = h1 at *
  have F1 := F.keeps X1
  with_unfolding_all refine Subscript_ (ev_loc (s := { s with heap := h1, toks := s.toks + 1 + 1 + 1 }) F1 rfl rfl rfl hm (by decide) (wpAny_Slice (wpAny_pure ?_)))
  rw [evalPart_some]
  refine wpAny_Constant_int (wpAny_pure ?_)
  refine slice_listK (s := { s with heap := h1, toks := s.toks + 1 + 1 + 1 + 1 }) (vl := .none) (vu := .int 14 (s.toks + 1 + 1 + 1)) (items := vs.toArray) (stays_list F1.keep hS) .none (.int 14 _) ?_ (hsz := by rw [List.size_toArray, hv.length, sizeLine_eq]; omega)
  dsimp only
  have hi2 := kmk_upto (y := 14) hv (by decide)
  have X2 : HExt h1 ((h1.push { cls := .type "slice", data := .fields #[.none, .int 14 (s.toks + 1 + 1 + 1), .none] }).push { cls := .type "list", data := .seq (slicePick vs.toArray none (some 14) none) }) := fun a o e => Heap.get?_push_of_some _ (Heap.get?_push_of_some _ e)
  have z : (h1.push { cls := .type "slice", data := .fields #[.none, .int 14 (s.toks + 1 + 1 + 1), .none] }).objs.size = h1.objs.size + 1 := Heap.size_push ..
  have hD2 : ((h1.push { cls := .type "slice", data := .fields #[.none, .int 14 (s.toks + 1 + 1 + 1), .none] }).push { cls := .type "list", data := .seq (slicePick vs.toArray none (some 14) none) }).IsList (h1.objs.size + 1) (slicePick vs.toArray none (some 14) none).toList.toArray :=
    ⟨{ cls := .type "list", data := .seq (slicePick vs.toArray none (some 14) none) }, by rw [← z]; exact Heap.get?_push_size _ rfl, rfl, 0, by rw [Array.toArray_toList]⟩
  generalize (h1.push { cls := .type "slice", data := .fields #[.none, .int 14 (s.toks + 1 + 1 + 1), .none] }).push { cls := .type "list", data := .seq (slicePick vs.toArray none (some 14) none) } = h2 at *
  have F2 := F1.keeps X2
  obtain ⟨oc, ho, hd⟩ := hc
  have N2 : News b L h2 [(c, oc)] := fun p hp => by
    rw [List.mem_singleton.mp hp]
    exact ⟨X2 _ _ (X1 _ _ ho), hcL, hcb⟩
  refine kmk_add_ints (s := { s with heap := h2, toks := s.toks + 1 + 1 + 1 + 1 }) F2 N2 (hD1.at fun o e => X2 _ _ e) hD2 (ns := [36, 575, 91]) (.cons _ _ (.cons _ _ (.cons _ _ .nil))) hi2 ?_ (by rw [sizeLine_eq]; simp; omega)
  intro D us h3 F3 N3 _ hI
  with_unfolding_all refine wpAny_storeName_cell (s := { s with heap := h3, toks := s.toks + 1 + 1 + 1 + 1 }) (c := c) rfl rfl rfl ⟨oc, (N3 _ (.tail _ (.head _))).1, hd⟩ fun h4 hc4 hs4 => ?_
  obtain ⟨oc', ho', hd'⟩ := hc4
  have hDc : D ≠ c := fun q => by
    have e1 := (N3 _ (.head _)).1
    have e2 := (N3 _ (.tail _ (.head _))).1
    dsimp only at e1 e2
    rw [q, e2] at e1
    have := congrArg Obj.data (Option.some.inj e1)
    rw [hd] at this; cases this
  refine hQ h4 _ D oc' us (F3.change hs4 hcL hcb) (fun p hp => ?_) hd' hI
  rcases List.mem_cons.mp hp with rfl | hp
  · exact ⟨hs4.extBut _ _ hDc (N3 _ (.head _)).1, fun q => (N3 _ (.head _)).2.1 (List.mem_singleton.mp q)⟩
  · rw [List.mem_singleton.mp hp]
    exact ⟨ho', fun q => hcL (List.mem_singleton.mp q)⟩
end
end Mine
end
section
open PySem.Spec PySem.Calls
set_option maxRecDepth 100000
namespace Mine
def LoT (X : Nat → List Str) : Nat → List Str
  | 0 => X 0
  | i + 1 => shR (LoT X i) (X (i + 1))
def HiT (X : Nat → List Str) : Nat → List Str
  | 0 => X 0
  | i + 1 => spR (HiT X i) (X (i + 1))
def WhT (X : Nat → List Str) : Nat → List Str
  | 0 => X 0
  | i + 1 => WhT X i ++ X (i + 1)
/-- the plain law's part in one turn -/
structure PF (l h v r : List Str) : Prop where
  r64 : prodN r < 2 ^ 64
  r0 : 0 < prodN r
  d1 : prodN (uldR l.reverse r).1 * Nat.gcd (prodN l) (prodN r) = prodN l
  d2 : prodN (uldR l.reverse r).2 * Nat.gcd (prodN l) (prodN r) = prodN r
  sh : prodN (shR l r) = Nat.gcd (prodN l) (prodN r)
  sp : prodN (spR h r) = prodN h * prodN r / Nat.gcd (prodN h) (prodN r)
  zl : l.length + r.length ≤ 200
  zh : h.length + r.length ≤ 200
  zv : v.length + r.length ≤ 200
theorem EntsIn.o {P : Params} {fs : List Addr} {h : Heap} {R : List (Addr × List (Str × Tok))} {ctx : List (Addr × Obj)} (x : EntsIn P R ctx) (at0 : At fs h ctx) {q : Addr} {es : List (Str × Tok)} (hm : (q, es) ∈ R) : EntO P fs h q es := by
  obtain ⟨k, d, ua, rl, c, cu, cd, hE⟩ := x _ hm
  exact ⟨k, d, ua, rl, c, cu, cd, fun p hp => at0 p (hE p hp)⟩
theorem EntsIn.more {P : Params} {R : List (Addr × List (Str × Tok))} {ctx ctx' : List (Addr × Obj)} (x : EntsIn P R ctx) (k : ∀ p ∈ ctx, p ∈ ctx') : EntsIn P R ctx' := fun q hq => by
  obtain ⟨k1, d, ua, rl, c, cu, cd, hE⟩ := x q hq
  exact ⟨k1, d, ua, rl, c, cu, cd, fun p hp => k _ (hE p hp)⟩
/-- between the turns -/
def LJ (P : Params) (X : Nat → List Str) (C : List (Addr × Obj)) (Rc Rw : Addr) (i : Nat) (m : Str → Option Value) (ctx : List (Addr × Obj)) : Prop :=
  ∃ lo hi wh el eh ew tl th, m (t "low") = some (.ref lo) ∧ m (t "high") = some (.ref hi) ∧ m (t "whole") = some (.ref wh) ∧ m (t "least") = some (.int (prodN (LoT X i) : Nat) tl) ∧ m (t "most") = some (.int (prodN (HiT X i) : Nat) th) ∧ m (t "records") = some (.ref Rc) ∧ m (t "rows") = some (.ref Rw) ∧
    EntsIn P [(lo, el)] ctx ∧ EntsIn P [(hi, eh)] ctx ∧ EntsIn P [(wh, ew)] ctx ∧ el.map (·.1) = LoT X i ∧ eh.map (·.1) = HiT X i ∧ ew.map (·.1) = WhT X i ∧ (∀ p ∈ C, p ∈ ctx)
section
variable {w : World} {b : Heap} {A₀ : Around} {mean : ExcName → Option Value} {mg mb : Str → Option Value} {dp un : Nat} {gd : Option (List Code)} {cn : Str} {a : Addr} {ccd : Value} {L : Addr} {m : Str → Option Value} {s : Shared} {E : Value → Shared → Prop} {cl : List (Str × Addr)}
set_option maxHeartbeats 1000000 in
theorem body_turn (cx : Cx w b A₀ mean mg mb dp un lawS) {X : Nat → List Str} {C : List (Addr × Obj)} {Rc Rw q r : Addr} {er fr : List (Str × Tok)} {i : Nat} {ctx : List (Addr × Obj)} {h : Heap} {tk : Nat} (pf : PF (LoT X i) (HiT X i) (WhT X i) (X (i + 1))) (hJ : LJ w.params X C Rc Rw i m ctx)
    (hq : EntsIn w.params [(q, er)] C) (hr : strL (r, fr) ∈ C) (eq : er.map (·.1) = X (i + 1)) (fq : fr.map (·.1) = X (i + 1))
    (F : Fr b L h (fun y => if y = t "row" then some (.ref r) else if y = t "record" then some (.ref q) else m y)) (at0 : At [L] h ctx) :
    wpAny (model PySem.Challenge.rw_ny0363_01.row.prog w) (ktrTop dp un gd cn lawS L a ccd cl []) (execs (forBody (lw 7)) (envX cn lawS L a ccd cl)) (fun f s' => f = .next ∧ ∃ h' tk' m' nw, s' = { s with heap := h', toks := tk' } ∧ Fr b L h' m' ∧ HBut [L] h h' ∧ (∀ p ∈ nw, h'.get? p.1 = some p.2 ∧ h.get? p.1 = none) ∧ LJ w.params X C Rc Rw (i + 1) m' (nw ++ ctx)) E { s with heap := h, toks := tk } := by
  obtain ⟨lo, hi, wh, el, eh, ew, tl, th, m1, m2, m3, m4, m5, m6, m7, i1, i2, i3, e1, e2, e3, hC⟩ := hJ
  have zl : el.length + er.length ≤ 200 := by
    have h1 := congrArg List.length e1; have h2 := congrArg List.length eq
    rw [List.length_map] at h1 h2; have := pf.zl; omega
  have zh : eh.length + er.length ≤ 200 := by
    have h1 := congrArg List.length e2; have h2 := congrArg List.length eq
    rw [List.length_map] at h1 h2; have := pf.zh; omega
  have zv : ew.length + er.length ≤ 200 := by
    have h1 := congrArg List.length e3; have h2 := congrArg List.length eq
    rw [List.length_map] at h1 h2; have := pf.zv; omega
  have g64 : Nat.gcd (prodN (LoT X i)) (prodN (X (i + 1))) < 2 ^ 64 := Nat.lt_of_le_of_lt (Nat.gcd_le_right _ pf.r0) pf.r64
  rw [fb_eq]
  refine wpAny_execs_cons (b0 cx (s := { s with heap := h, toks := tk }) (fr := fr) F rfl (at0 _ (hC _ hr)).1 fun h1 tk1 tv1 F1 k1 => ?_)
  rw [fq] at F1
  have at1 := at0.but k1
  refine wpAny_execs_cons (b1 cx (s := { s with heap := h1, toks := tk1 }) (i := prodN (LoT X i)) (j := prodN (X (i + 1))) (ti := tl) (tj := tv1) F1 m4 rfl fun h2 tk2 tv2 F2 k2 => ?_)
  have at2 := at1.but k2
  refine wpAny_execs_cons (b2 cx (s := { s with heap := h2, toks := tk2 }) zl F2 m1 rfl (i1.o at2 (.head _)) ((hq.more hC).o at2 (.head _)) fun h3 tk3 M R ms rs c3 c2 F3 k3 a3 em er' => ?_)
  rw [e1, eq] at em er'
  have at3 := at2.but k3
  refine wpAny_execs_cons (b3 cx (s := { s with heap := h3, toks := tk3 }) (M := M) (R := R) (ms := ms) (rs := rs) (g := Nat.gcd (prodN (LoT X i)) (prodN (X (i + 1)))) (l := prodN (LoT X i)) (v := prodN (X (i + 1))) (tg := tv2) (tl := tl) (tv := tv1) F3 rfl rfl rfl m4 rfl a3 g64 (by rw [em]; exact pf.d1) (by rw [er']; exact pf.d2) fun h4 tk4 F4 k4 => ?_)
  have at4 := at3.but k4
  refine wpAny_execs_cons (b4 (s := { s with heap := h4, toks := tk4 }) (v := .int (Nat.gcd (prodN (LoT X i)) (prodN (X (i + 1))) : Nat) tv2) F4 cx.hk rfl fun h5 tk5 F5 k5 => ?_)
  have at5 := at4.but k5
  refine wpAny_execs_cons (b5 cx (s := { s with heap := h5, toks := tk5 }) (i := prodN (HiT X i)) (j := prodN (X (i + 1))) (ti := th) (tj := tv1) F5 m5 rfl pf.r64 pf.r0 fun h6 tk6 tv6 F6 k6 => ?_)
  have at6 := at5.but k6
  refine wpAny_execs_cons (b6 cx (s := { s with heap := h6, toks := tk6 }) zl F6 m1 rfl (i1.o at6 (.head _)) ((hq.more hC).o at6 (.head _)) fun h7 tk7 r7 es7 nw7 F7 k7 f7 i7 e7 => ?_)
  rw [e1, eq] at e7
  have at7 := at6.but k7
  have off : ∀ {g : Heap} {mm : Str → Option Value} {nw : List (Addr × Obj)} {g' : Heap}, Fr b L g mm → (∀ p ∈ nw, g'.get? p.1 = some p.2 ∧ g.get? p.1 = none) → At [L] g' nw := fun Fg f p hp => ⟨(f p hp).1, fun z => by
    obtain ⟨o, _, _, ho, _⟩ := Fg.ns
    have := (f p hp).2
    rw [List.mem_singleton.mp z, ho] at this; cases this⟩
  have an7 := off F6 f7
  refine wpAny_execs_cons (b7 cx (s := { s with heap := h7, toks := tk7 }) zh F7 m2 rfl (i2.o at7 (.head _)) ((hq.more hC).o at7 (.head _)) fun h8 tk8 r8 es8 nw8 F8 k8 f8 i8 e8 => ?_)
  rw [e2, eq] at e8
  have at8 := at7.but k8
  have an8 := off F7 f8
  refine wpAny_execs_cons (b8 cx (s := { s with heap := h8, toks := tk8 }) zv F8 m3 rfl (i3.o at8 (.head _)) ((hq.more hC).o at8 (.head _)) fun h9 tk9 r9 nw9 F9 k9 f9 i9 => ?_)
  have at9 := at8.but k9
  have an9 := off F8 f9
  have s7 : prodN (LoT X (i + 1)) = Nat.gcd (prodN (LoT X i)) (prodN (X (i + 1))) := pf.sh
  have s8 : prodN (HiT X (i + 1)) = prodN (HiT X i) * prodN (X (i + 1)) / Nat.gcd (prodN (HiT X i)) (prodN (X (i + 1))) := pf.sp
  rw [← s7, ← s8] at F9
  refine wpAny_execs_cons (b9 cx (s := { s with heap := h9, toks := tk9 }) (el := es7) (eh := es8) (tl := tv2) (th := tv6) F9 rfl rfl (by rw [e7]; rfl) (by rw [e8]; rfl) (i7.o ((an7.but k8).but k9) (.head _)) (i8.o (an8.but k9) (.head _)) fun h10 tk10 F10 k10 => ?_)
  refine wpAny_execs_nil ⟨rfl, h10, tk10, _, nw9 ++ (nw8 ++ nw7), rfl, F10, ?_, ?_, ?_⟩
  · exact hbut_trans k1 (hbut_trans k2 (hbut_trans k3 (hbut_trans k4 (hbut_trans k5 (hbut_trans k6 (hbut_trans k7 (hbut_trans k8 (hbut_trans k9 k10))))))))
  · have k06 : HBut [L] h h6 := hbut_trans k1 (hbut_trans k2 (hbut_trans k3 (hbut_trans k4 (hbut_trans k5 k6))))
    intro p hp
    rcases List.mem_append.mp hp with hp | hp
    · exact ⟨((an9.but k10) p hp).1, dom_keep F8 (hbut_trans k06 (hbut_trans k7 k8)) (f9 p hp).2⟩
    rcases List.mem_append.mp hp with hp | hp
    · exact ⟨(((an8.but k9).but k10) p hp).1, dom_keep F7 (hbut_trans k06 k7) (f8 p hp).2⟩
    · exact ⟨((((an7.but k8).but k9).but k10) p hp).1, dom_keep F6 k06 (f7 p hp).2⟩
  · refine ⟨r7, r8, r9, es7, es8, ew ++ er, tv2, tv6, rfl, rfl, rfl, rfl, rfl, m6, m7, i7.more fun p hp => ?_, i8.more fun p hp => ?_, i9.more fun p hp => ?_, e7, e8, ?_, fun p hp => ?_⟩
    · exact List.mem_append_left _ (List.mem_append_right _ (List.mem_append_right _ hp))
    · exact List.mem_append_left _ (List.mem_append_right _ (List.mem_append_left _ hp))
    · exact List.mem_append_left _ (List.mem_append_left _ hp)
    · rw [List.map_append, e3, eq]; rfl
    · exact List.mem_append_right _ (hC p hp)
end
end Mine
end
section
open PySem.Spec PySem.Calls
set_option maxRecDepth 100000
namespace Mine
theorem str_app (x y : Str) : (x ++ y).cps.toList = x.cps.toList ++ y.cps.toList := by
  show (x.cps ++ y.cps).toList = _
  rw [Array.toList_append]
theorem wrap_cases (c : Nat) (n : Int) : (wrapT ⟨#[c]⟩ n).cps.toList = [c] ∨ (wrapT ⟨#[c]⟩ n).cps.toList = [39, c, 39] ∨ (wrapT ⟨#[c]⟩ n).cps.toList = [34, c, 34] ∨ (wrapT ⟨#[c]⟩ n).cps.toList = [92, c] := by
  unfold wrapT
  have h0 : 0 ≤ n.fmod 4 := Int.fmod_nonneg_of_pos n (by decide)
  have h1 : n.fmod 4 < 4 := Int.fmod_lt_of_pos n (by decide)
  have h2 : (n.fmod 4).toNat < 4 := by omega
  generalize (n.fmod 4).toNat = k at h2
  have : k = 0 ∨ k = 1 ∨ k = 2 ∨ k = 3 := by omega
  rcases this with rfl | rfl | rfl | rfl
  · exact .inl rfl
  · refine .inr (.inl ?_)
    show (t "'" ++ ⟨#[c]⟩ ++ t "'").cps.toList = _
    rw [str_app, str_app]; rfl
  · refine .inr (.inr (.inl ?_))
    show (t "\"" ++ ⟨#[c]⟩ ++ t "\"").cps.toList = _
    rw [str_app, str_app]; rfl
  · refine .inr (.inr (.inr ?_))
    show (t "\\" ++ ⟨#[c]⟩).cps.toList = _
    rw [str_app]; rfl
theorem wrap_sp {T : Str} {r' r : List Nat} {c : Nat} {n : Int} (hc : isDig c) (h : MRun T r' .wd ⟨#[c]⟩ r) : MRun T r' .sp (t "") ((wrapT ⟨#[c]⟩ n).cps.toList ++ r) := by
  have e : t "" ++ ⟨#[c]⟩ = (⟨#[c]⟩ : Str) := rfl
  rcases wrap_cases c n with q | q | q | q <;> rw [q]
  · exact .dig_sp hc h
  · exact .sq_sp (.dig_sq hc (.end_sq (e ▸ h)))
  · exact .dq_sp (.dig_dq hc (.end_dq (e ▸ h)))
  · exact .es_sp (.dig_es hc (e ▸ h))
theorem wrap_wd {T tok : Str} {r' r : List Nat} {c : Nat} {n : Int} (hc : isDig c) (h : MRun T r' .wd (tok ++ ⟨#[c]⟩) r) : MRun T r' .wd tok ((wrapT ⟨#[c]⟩ n).cps.toList ++ r) := by
  rcases wrap_cases c n with q | q | q | q <;> rw [q]
  · exact .dig_wd hc h
  · exact .sq_wd (.dig_sq hc (.end_sq h))
  · exact .dq_wd (.dig_dq hc (.end_dq h))
  · exact .es_wd (.dig_es hc h)
theorem blank (n : Int) : ∃ k, (Txt.item (t " \t\n") (n.fmod 3)).cps.toList = [k] ∧ isBl k := by
  have h0 : 0 ≤ n.fmod 3 := Int.fmod_nonneg_of_pos n (by decide)
  have h1 : n.fmod 3 < 3 := Int.fmod_lt_of_pos n (by decide)
  generalize n.fmod 3 = k at h0 h1
  have : k = 0 ∨ k = 1 ∨ k = 2 := by omega
  rcases this with rfl | rfl | rfl
  · exact ⟨32, by decide +kernel, by decide⟩
  · exact ⟨9, by decide +kernel, by decide⟩
  · exact ⟨10, by decide +kernel, by decide⟩
theorem prime_dig (x : Int) : (∃ p, primeT x = ⟨#[p]⟩ ∧ isDig p) ∨ ∃ p q, primeT x = ⟨#[p, q]⟩ ∧ isDig p ∧ isDig q := by
  rcases prime_cases x with e | e | e | e | e | e <;> rw [e]
  · exact Or.inl ⟨50, by decide +kernel, by decide⟩
  · exact Or.inl ⟨51, by decide +kernel, by decide⟩
  · exact Or.inl ⟨53, by decide +kernel, by decide⟩
  · exact Or.inl ⟨55, by decide +kernel, by decide⟩
  · exact Or.inr ⟨49, 49, by decide +kernel, by decide, by decide⟩
  · exact Or.inr ⟨49, 51, by decide +kernel, by decide, by decide⟩
theorem word_run (x : Int) (r' : List Nat) : MRun (primeT x) r' .sp (t "") ((dressX x).cps.toList ++ r') := by
  obtain ⟨k, hk, hb⟩ := blank ((x.fdiv 42).fdiv 16)
  have e0 : (t "").cps.toList = [] := rfl
  unfold dressX
  rcases prime_dig x with ⟨p, e, hp⟩ | ⟨p, q, e, hp, hq⟩ <;> rw [e]
  · show MRun _ _ _ _ ((t "" ++ wrapT ⟨#[p]⟩ _ ++ Txt.item (t " \t\n") _).cps.toList ++ r')
    rw [str_app, str_app, e0, hk, List.nil_append, List.append_assoc]
    exact wrap_sp hp (.stop hb (show (1 : Nat) ≠ 0 by decide))
  · show MRun _ _ _ _ ((t "" ++ wrapT ⟨#[p]⟩ _ ++ wrapT ⟨#[q]⟩ _ ++ Txt.item (t " \t\n") _).cps.toList ++ r')
    rw [str_app, str_app, str_app, e0, hk, List.nil_append, List.append_assoc, List.append_assoc]
    exact wrap_sp hp (wrap_wd hq (.stop hb (show (2 : Nat) ≠ 0 by decide)))
theorem join_flat : ∀ ys : List Str, (Txt.join (t "") ys).cps.toList = ys.flatMap (·.cps.toList) := fun ys => by
  show (Builtin.Str.glued (t "") ys).cps.toList = _
  rw [StrLaws.glued_eq_join]
  induction ys with
  | nil => rfl
  | cons y ys ih =>
    cases ys with
    | nil => simp [Str.join]
    | cons z zs =>
      show (y ++ t "" ++ Str.join (t "") (z :: zs)).cps.toList = _
      have e0 : (t "").cps.toList = [] := rfl
      rw [str_app, str_app, ih, e0, List.append_nil]; rfl
theorem words_of (l : List Int) : MWords (l.map primeT) ((l.map dressX).flatMap (·.cps.toList)) := by
  induction l with
  | nil => exact .nil
  | cons x l ih =>
    rw [List.map_cons, List.map_cons, List.flatMap_cons]
    exact .cons (word_run x _) ih
theorem line_words (ns : List Int) (j : Nat) : MWords (rowT primeT ns j) (lineT ns j).cps.toList := by
  unfold lineT
  rw [join_flat]
  exact words_of _
theorem line_le (ns : List Int) (j : Nat) : (lineT ns j).length ≤ 7 * ns.length := by
  have h := row_dress ns j
  show (Builtin.Str.glued (t "") _).length ≤ _
  rw [StrLaws.glued_eq_join]
  refine Nat.le_trans (StrLaws.join_length_le _ _) ?_
  have : (t "").length = 0 := rfl
  rw [this]; omega
end Mine
end
section
open PySem.Spec PySem.Calls
set_option maxRecDepth 100000
namespace Mine
section
variable {w : World} {b : Heap} {A₀ : Around} {mean : ExcName → Option Value} {mg mb : Str → Option Value} {dp un : Nat} {gd : Option (List Code)} {cn : Str} {a : Addr} {ccd : Value} {L : Addr} {m : Str → Option Value} {s : Shared} {E : Value → Shared → Prop} {Q : Flow → Shared → Prop}
/-- what the law's body reads of the script -/
abbrev numsT (ns : List Int) : List Int := [36, 575, 91] ++ ns.take 14
abbrev rowX (ns : List Int) (j : Nat) : List Str := rowT primeT (numsT ns) j
structure Plain (ns : List Int) : Prop where
  pf : ∀ i, i < 2 → PF (LoT (rowX ns) i) (HiT (rowX ns) i) (WhT (rowX ns) i) (rowX ns (i + 1))
theorem nums_len (ns : List Int) : (numsT ns).length ≤ 17 := by
  rw [List.length_append, List.length_take]; simp; omega
theorem line_len (ns : List Int) (j : Nat) : (lineT (numsT ns) j).length ≤ 1000 := by
  have h1 := line_le (numsT ns) j
  have h2 := nums_len ns
  omega
set_option maxHeartbeats 2000000 in
theorem law_body (cx : Cx w b A₀ mean mg mb dp un lawS) {S c : Addr} {vs : List Value} {ns : List Int} {v0 : Option Value} (F : Fr b L s.heap m) (hm : m (t "script") = some (.ref S)) (hS : b.IsList S vs.toArray) (hv : IntsAre vs ns) (hz : ns.length ≤ 1000) (hc : s.heap.IsCell c v0) (hcL : c ≠ L) (hcb : b.get? c = none) (pl : Plain ns)
    (hQ : ∀ h tk m', Fr b L h m' → Q (.ret (.bool true)) { s with heap := h, toks := tk }) :
    wpAny (model PySem.Challenge.rw_ny0363_01.row.prog w) (ktrTop dp un gd cn lawS L a ccd [(t "numbers", c)] []) (execs lawB (envX cn lawS L a ccd [(t "numbers", c)])) Q E s := by
  have zn := nums_len ns
  have zr : ∀ j, (rowX ns j).length ≤ 17 := fun j => Nat.le_trans (row_len _ _ _) zn
  rw [lw_eq]
  refine wpAny_execs_cons (s_num F hm hS hv hz hc hcL hcb fun h0 tk0 Nl oc us F0 at0 hoc hus => ?_)
  have zu : us.length ≤ 17 := by rw [hus.length]; exact zn
  refine wpAny_execs_cons (s_rows cx (s := { s with heap := h0, toks := tk0 }) F0 hus at0 hoc rfl rfl (by omega) fun Rw h1 tk1 q0 q1 q2 F1 at1 x0 x1 x2 => ?_)
  refine wpAny_execs_cons (s_lines cx (s := { s with heap := h1, toks := tk1 }) (ol := listOf (List.toArray us) 0) (oc := oc) (Nl := Nl) (c := c) (k := 0) (ctx := [(Rw, LCg.lst [.ref q0.1, .ref q1.1, .ref q2.1]), strL q2, strL q1, strL q0]) F1 hus (at1.sub fun p hp => ?_) hoc rfl rfl (by omega) fun Li h2 tk2 l0 l1 l2 F2 at2 y0 y1 y2 => ?_)
  · rcases List.mem_cons.mp hp with rfl | hp
    · exact .tail _ (.tail _ (.tail _ (.tail _ (.head _))))
    rcases List.mem_cons.mp hp with rfl | hp
    · exact .tail _ (.tail _ (.tail _ (.tail _ (.tail _ (.head _)))))
    · exact List.mem_append_left [(Nl, _), (c, oc)] hp
  refine wpAny_execs_cons (s_records cx (s := { s with heap := h2, toks := tk2 }) (l := [l0, l1, l2]) (X := rowX ns) F2 rfl at2 (.head _) rfl (fun j q e => ?_) fun Rc h3 tk3 e0 e1 e2 F3 at3 E0 E1 E2 z0 z1 z2 => ?_)
  · have key : ∀ j (q : Str × Tok), q.1 = lineT (numsT ns) j → MWords (rowX ns j) q.1.cps.toList ∧ q.1.length ≤ 1000 ∧ (rowX ns j).length ≤ 100 := fun j q hq => by
      rw [hq]; exact ⟨line_words _ j, line_len ns j, Nat.le_trans (zr j) (by decide)⟩
    match j with
    | 0 => cases e; exact key 0 _ y0
    | 1 => cases e; exact key 1 _ y1
    | 2 => cases e; exact key 2 _ y2
    | j + 3 => simp at e
  have mem3 : ∀ p ∈ [(Rw, LCg.lst [.ref q0.1, .ref q1.1, .ref q2.1]), strL q0, strL q1, strL q2], p ∈ (Rc, LCg.lst [.ref e0.1, .ref e1.1, .ref e2.1]) :: (Li, LCg.lst (sv [l0, l1, l2])) :: (Nl, listOf (List.toArray us) 0) :: (c, oc) :: [(Rw, LCg.lst [.ref q0.1, .ref q1.1, .ref q2.1]), strL q2, strL q1, strL q0] := fun p hp => by
    simp only [List.mem_cons, List.not_mem_nil, or_false] at hp ⊢
    rcases hp with h | h | h | h
    · exact .inr (.inr (.inr (.inr (.inl h))))
    · exact .inr (.inr (.inr (.inr (.inr (.inr (.inr h))))))
    · exact .inr (.inr (.inr (.inr (.inr (.inr (.inl h))))))
    · exact .inr (.inr (.inr (.inr (.inr (.inl h)))))
  have W3 : LW w.params L h3 Rc Rw e0.1 e1.1 e2.1 q0.1 q1.1 q2.1 e0.2 e1.2 e2.2 q0.2 q1.2 q2.2 := ⟨at3.sub fun p hp => by rw [List.mem_singleton.mp hp]; exact .head _, at3.sub mem3, E0, E1, E2⟩
  have o0 : ∀ u ∈ q0.2.map (·.1), PyData.strOk u = true := by rw [x0]; exact row_ok _ _
  have o1 : ∀ u ∈ q1.2.map (·.1), PyData.strOk u = true := by rw [x1]; exact row_ok _ _
  have o2 : ∀ u ∈ q2.2.map (·.1), PyData.strOk u = true := by rw [x2]; exact row_ok _ _
  have v0 : e0.2.map (·.1) = q0.2.map (·.1) := z0.trans x0.symm
  have v1 : e1.2.map (·.1) = q1.2.map (·.1) := z1.trans x1.symm
  have v2 : e2.2.map (·.1) = q2.2.map (·.1) := z2.trans x2.symm
  clear E0 E1 E2 at3 at2 at1 at0
  refine wpAny_execs_cons (s_if cx (s := { s with heap := h3, toks := tk3 }) F3 rfl rfl W3 v0 v1 v2 o0 o1 o2 fun h4 tk4 F4 k4 => ?_)
  have W4 := W3.but k4
  refine wpAny_execs_cons (s_three (s := { s with heap := h4, toks := tk4 }) (k := 3) F4 rfl (W4.recs _ (.head _)).1 fun h5 tk5 F5 k5 => ?_)
  have W5 := W4.but k5
  refine wpAny_execs_cons (s_two cx (s := { s with heap := h5, toks := tk5 }) (k := 3) (f0 := q0.2) F5 rfl (W5.rows _ (.head _)).1 (W5.rows _ (.tail _ (.head _))).1 fun h6 tk6 t1 t2 F6 k6 => ?_)
  have W6 := W5.but k6
  rw [prod_cast, x0] at F6
  obtain ⟨ka, da, ua, la, ca, cua, cda, Ea⟩ := W6.n0
  obtain ⟨kb, db, ub, lb, cb, cub, cdb, Eb⟩ := W6.n1
  obtain ⟨kc, dc, uc, lc, cc, cuc, cdc, Ec⟩ := W6.n2
  generalize hCd : entL w.params ka e0.1 da ua la e0.2 ca cua cda ++ (entL w.params kb e1.1 db ub lb e1.2 cb cub cdb ++ (entL w.params kc e2.1 dc uc lc e2.2 cc cuc cdc ++ ([(Rc, LCg.lst [.ref e0.1, .ref e1.1, .ref e2.1])] ++ [(Rw, LCg.lst [.ref q0.1, .ref q1.1, .ref q2.1]), strL q0, strL q1, strL q2]))) = C
  have atC : At [L] h6 C := by rw [← hCd]; exact Ea.append (Eb.append (Ec.append (W6.recs.append W6.rows)))
  have ia : EntsIn w.params [(e0.1, e0.2)] C := fun q hq => by
    rw [List.mem_singleton.mp hq]; exact ⟨ka, da, ua, la, ca, cua, cda, fun p hp => hCd ▸ List.mem_append_left _ hp⟩
  have ib : EntsIn w.params [(e1.1, e1.2)] C := fun q hq => by
    rw [List.mem_singleton.mp hq]; exact ⟨kb, db, ub, lb, cb, cub, cdb, fun p hp => hCd ▸ List.mem_append_right _ (List.mem_append_left _ hp)⟩
  have ic : EntsIn w.params [(e2.1, e2.2)] C := fun q hq => by
    rw [List.mem_singleton.mp hq]; exact ⟨kc, dc, uc, lc, cc, cuc, cdc, fun p hp => hCd ▸ List.mem_append_right _ (List.mem_append_right _ (List.mem_append_left _ hp))⟩
  have mC : ∀ p ∈ [(Rc, LCg.lst [.ref e0.1, .ref e1.1, .ref e2.1])] ++ [(Rw, LCg.lst [.ref q0.1, .ref q1.1, .ref q2.1]), strL q0, strL q1, strL q2], p ∈ C := fun p hp => hCd ▸ List.mem_append_right _ (List.mem_append_right _ (List.mem_append_right _ hp))
  refine wpAny_execs_cons (s_for cx (s := { s with heap := h6, toks := tk6 }) (J := LJ w.params (rowX ns) C Rc Rw) (ctx := C) F6 rfl rfl (W6.recs _ (.head _)).1 (W6.rows _ (.head _)).1 atC ⟨e0.1, e0.1, e0.1, e0.2, e0.2, e0.2, t1, t2, rfl, rfl, rfl, rfl, rfl, rfl, rfl, ia, ia, ia, z0, z0, z0, fun p hp => hp⟩ ?turn fun h7 tk7 m7 ctx F7 at7 hJ => ?_)
  case turn =>
    rintro i m' ctx h tk q r E (⟨rfl, rfl, rfl⟩ | ⟨rfl, rfl, rfl⟩) hJ F' at'
    · exact body_turn cx (pl.pf 0 (by decide)) hJ ib (mC _ (.tail _ (.tail _ (.tail _ (.head _))))) z1 x1 F' at'
    · exact body_turn cx (pl.pf 1 (by decide)) hJ ic (mC _ (.tail _ (.tail _ (.tail _ (.tail _ (.head _)))))) z2 x2 F' at'
  obtain ⟨lo, hi, wh, el, eh, ew, tl, th, -, -, m3, -, -, m6, m7', -, -, i3, -, -, e3, hC⟩ := hJ
  obtain ⟨kw, dw, uw, lw', cw, cuw, cdw, Ew⟩ := i3 _ (.head _)
  refine wpAny_execs_cons (s_whole cx (s := { s with heap := h7, toks := tk7 }) (ctx := ctx) (f0 := q0.2) (f1 := q1.2) (f2 := q2.2) F7 m7' m3 at7 (hC _ (mC _ (.tail _ (.head _)))) (hC _ (mC _ (.tail _ (.tail _ (.head _))))) (hC _ (mC _ (.tail _ (.tail _ (.tail _ (.head _)))))) (hC _ (mC _ (.tail _ (.tail _ (.tail _ (.tail _ (.head _))))))) Ew ?_ ?_ ?_ fun h8 tk8 F8 at8 => ?_)
  · rw [e3, x0, x1, x2]; rfl
  · rw [e3]
    intro u hu
    rcases List.mem_append.mp hu with hu | hu
    · rcases List.mem_append.mp hu with hu | hu
      · exact row_ok _ _ u hu
      · exact row_ok _ _ u hu
    · exact row_ok _ _ u hu
  · have h0 := congrArg List.length x0; have h1 := congrArg List.length x1; have h2 := congrArg List.length x2
    rw [List.length_map] at h0 h1 h2
    have g0 : (rowT primeT ([36, 575, 91] ++ ns.take 14) 0).length ≤ 17 := zr 0
    have g1 : (rowT primeT ([36, 575, 91] ++ ns.take 14) 1).length ≤ 17 := zr 1
    have g2 : (rowT primeT ([36, 575, 91] ++ ns.take 14) 2).length ≤ 17 := zr 2
    omega
  have W8 : LW w.params L h8 Rc Rw e0.1 e1.1 e2.1 q0.1 q1.1 q2.1 e0.2 e1.2 e2.2 q0.2 q1.2 q2.2 :=
    ⟨at8.sub fun p hp => hC _ (mC _ (List.mem_append_left _ hp)), at8.sub fun p hp => hC _ (mC _ (List.mem_append_right _ hp)), (ia.more hC).o at8 (.head _), (ib.more hC).o at8 (.head _), (ic.more hC).o at8 (.head _)⟩
  refine wpAny_execs_cons (s_ret cx (s := { s with heap := h8, toks := tk8 }) F8 m6 m7' W8 v0 v1 v2 o0 o1 o2 fun h9 tk9 F9 => ?_)
  exact hQ h9 tk9 _ F9
end
end Mine
end
section
set_option maxRecDepth 100000
namespace Mine
def P6 (x : Str) : Prop := x = t "2" ∨ x = t "3" ∨ x = t "5" ∨ x = t "7" ∨ x = t "11" ∨ x = t "13"
abbrev vN (x : Str) : Nat := (valOf x).toNat
theorem prod_go (l : List Str) : ∀ a, l.foldl (fun a y => a * vN y) a = a * prodN l := by
  induction l with
  | nil => intro a; simp [prodN]
  | cons x l ih =>
    intro a
    show l.foldl _ (a * vN x) = a * l.foldl _ (1 * vN x)
    rw [ih, ih, Nat.one_mul, Nat.mul_assoc]
theorem prod_cons (x : Str) (l : List Str) : prodN (x :: l) = vN x * prodN l := by
  show l.foldl _ (1 * vN x) = _
  rw [prod_go, Nat.one_mul]
theorem prod_app (l k : List Str) : prodN (l ++ k) = prodN l * prodN k := by
  induction l with
  | nil => simp [prodN]
  | cons x l ih => rw [List.cons_append, prod_cons, prod_cons, ih, Nat.mul_assoc]
theorem prod_rev (l : List Str) : prodN l.reverse = prodN l := by
  induction l with
  | nil => rfl
  | cons x l ih =>
    rw [List.reverse_cons, prod_app, ih, prod_cons, prod_cons, Nat.mul_comm]
    simp [prodN]
theorem prod_erase {x : Str} {l : List Str} (h : x ∈ l) : prodN l = vN x * prodN (l.erase x) := by
  induction l with
  | nil => cases h
  | cons y l ih =>
    rw [List.erase_cons]
    by_cases e : y = x
    · subst e; rw [if_pos (by simp)]; exact prod_cons _ _
    · rw [if_neg (by simpa using e), prod_cons, prod_cons]
      rcases List.mem_cons.mp h with q | q
      · exact absurd q.symm e
      · rw [ih q, Nat.mul_left_comm]
theorem v2 : valOf (t "2") = 2 := by decide +kernel
theorem v3 : valOf (t "3") = 3 := by decide +kernel
theorem v5 : valOf (t "5") = 5 := by decide +kernel
theorem v7 : valOf (t "7") = 7 := by decide +kernel
theorem v11 : valOf (t "11") = 11 := by decide +kernel
theorem v13 : valOf (t "13") = 13 := by decide +kernel
theorem v_pos {x : Str} (h : P6 x) : 0 < vN x := by
  rcases h with rfl | rfl | rfl | rfl | rfl | rfl <;> simp only [vN, v2, v3, v5, v7, v11, v13] <;> decide
theorem v_le (x : Str) : vN x ≤ 13 := by have := (val_bits x); unfold vN; omega
theorem v_cop {x y : Str} (hx : P6 x) (hy : P6 y) (h : x ≠ y) : Nat.Coprime (vN x) (vN y) := by
  rcases hx with rfl | rfl | rfl | rfl | rfl | rfl <;> rcases hy with rfl | rfl | rfl | rfl | rfl | rfl <;> first | exact absurd rfl h | (simp only [vN, v2, v3, v5, v7, v11, v13]; decide)
theorem prod_pos {l : List Str} (h : ∀ x ∈ l, P6 x) : 0 < prodN l := by
  induction l with
  | nil => decide
  | cons x l ih => rw [prod_cons]; exact Nat.mul_pos (v_pos (h x (.head _))) (ih fun y hy => h y (.tail _ hy))
theorem prod_le (l : List Str) : prodN l ≤ 13 ^ l.length := by
  induction l with
  | nil => decide
  | cons x l ih => rw [prod_cons, List.length_cons, Nat.pow_succ, Nat.mul_comm]; exact Nat.mul_le_mul ih (v_le x)
theorem cop_one {x : Str} {l : List Str} (hx : P6 x) (hl : ∀ y ∈ l, P6 y) (h : x ∉ l) : Nat.Coprime (vN x) (prodN l) := by
  induction l with
  | nil => exact Nat.coprime_one_right _
  | cons y l ih =>
    rw [prod_cons]
    exact Nat.Coprime.mul_right (v_cop hx (hl y (.head _)) fun e => h (e ▸ .head _)) (ih (fun z hz => hl z (.tail _ hz)) fun z => h (.tail _ z))
theorem cop_all {l k : List Str} (hl : ∀ y ∈ l, P6 y) (hk : ∀ y ∈ k, P6 y) (h : ∀ x ∈ l, x ∉ k) : Nat.Coprime (prodN l) (prodN k) := by
  induction l with
  | nil => exact Nat.coprime_one_left _
  | cons x l ih =>
    rw [prod_cons]
    exact Nat.Coprime.mul_left (cop_one (hl x (.head _)) hk (h x (.head _))) (ih (fun y hy => hl y (.tail _ hy)) fun y hy => h y (.tail _ hy))
theorem uld_sub1 : ∀ (a b : List Str), ∀ x ∈ (uldR a b).1, x ∈ a
  | [], _, _, h => h
  | y :: a, b, x, h => by
    unfold uldR at h
    split at h
    · exact .tail _ (uld_sub1 a _ x h)
    · rcases List.mem_cons.mp h with rfl | h
      · exact .head _
      · exact .tail _ (uld_sub1 a _ x h)
theorem uld_sub2 : ∀ (a b : List Str), ∀ x ∈ (uldR a b).2, x ∈ b
  | [], _, _, h => h
  | y :: a, b, x, h => by
    unfold uldR at h
    split at h
    · exact List.mem_of_mem_erase (uld_sub2 a _ x h)
    · exact uld_sub2 a _ x h
theorem uld_apart : ∀ (a b : List Str), ∀ x ∈ (uldR a b).1, x ∉ (uldR a b).2
  | [], _, _, h => nomatch h
  | y :: a, b, x, h => by
    unfold uldR at h ⊢
    split
    · rw [if_pos (by assumption)] at h
      exact uld_apart a _ x h
    · rw [if_neg (by assumption)] at h
      rcases List.mem_cons.mp h with rfl | h
      · exact fun z => absurd (uld_sub2 a b _ z) (by assumption)
      · exact uld_apart a b x h
theorem uld_prod : ∀ (a b : List Str), ∃ X, prodN a = prodN (uldR a b).1 * X ∧ prodN b = prodN (uldR a b).2 * X
  | [], b => ⟨1, rfl, by rw [Nat.mul_one]; rfl⟩
  | y :: a, b => by
    unfold uldR
    split
    · rename_i h
      obtain ⟨X, h1, h2⟩ := uld_prod a (b.erase y)
      refine ⟨vN y * X, ?_, ?_⟩
      · rw [prod_cons, h1, Nat.mul_left_comm]
      · rw [prod_erase h, h2, Nat.mul_left_comm]
    · obtain ⟨X, h1, h2⟩ := uld_prod a b
      exact ⟨X, by rw [prod_cons, prod_cons, h1, Nat.mul_assoc], h2⟩
/-- the difference's two sides, by the greatest common divisor -/
theorem uld_gcd {a b : List Str} (ha : ∀ x ∈ a, P6 x) (hb : ∀ x ∈ b, P6 x) : prodN a = prodN (uldR a b).1 * Nat.gcd (prodN a) (prodN b) ∧ prodN b = prodN (uldR a b).2 * Nat.gcd (prodN a) (prodN b) := by
  obtain ⟨X, h1, h2⟩ := uld_prod a b
  have c : Nat.gcd (prodN (uldR a b).1) (prodN (uldR a b).2) = 1 := cop_all (fun x hx => ha x (uld_sub1 a b x hx)) (fun x hx => hb x (uld_sub2 a b x hx)) (uld_apart a b)
  have g : Nat.gcd (prodN a) (prodN b) = X := by rw [h1, h2, Nat.gcd_mul_right, c, Nat.one_mul]
  rw [g]; exact ⟨h1, h2⟩
theorem all_rev {l : List Str} (h : ∀ x ∈ l, P6 x) : ∀ x ∈ l.reverse, P6 x := fun x hx => h x (List.mem_reverse.mp hx)
theorem all_app {l k : List Str} (h : ∀ x ∈ l, P6 x) (h' : ∀ x ∈ k, P6 x) : ∀ x ∈ l ++ k, P6 x := fun x hx => by
  rcases List.mem_append.mp hx with z | z
  · exact h x z
  · exact h' x z
/-- where the first side divides the second -/
theorem uld_div {a b : List Str} (ha : ∀ x ∈ a, P6 x) (hb : ∀ x ∈ b, P6 x) (hd : prodN a ∣ prodN b) : prodN ((uldR a b).1 ++ (uldR a b).2) * prodN a = prodN b := by
  obtain ⟨h1, h2⟩ := uld_gcd ha hb
  rw [Nat.gcd_eq_left hd] at h1 h2
  have h3 : prodN (uldR a b).1 = 1 := by
    have p := prod_pos ha
    have e : 1 * prodN a = prodN (uldR a b).1 * prodN a := by rw [Nat.one_mul]; exact h1
    exact (Nat.eq_of_mul_eq_mul_right p e).symm
  rw [prod_app, h3, Nat.one_mul]; exact h2.symm
theorem sh_all {l r : List Str} (hl : ∀ x ∈ l, P6 x) : ∀ x ∈ shR l r, P6 x := by
  unfold shR
  have h1 : ∀ x ∈ (uldR l.reverse r).1.reverse, P6 x := all_rev fun x hx => all_rev hl x (uld_sub1 _ _ x hx)
  exact all_app (fun x hx => h1 x (uld_sub1 _ _ x hx)) fun x hx => hl x (uld_sub2 _ _ x hx)
theorem sh_prod {l r : List Str} (hl : ∀ x ∈ l, P6 x) (hr : ∀ x ∈ r, P6 x) : prodN (shR l r) = Nat.gcd (prodN l) (prodN r) := by
  have h1 : ∀ x ∈ (uldR l.reverse r).1.reverse, P6 x := all_rev fun x hx => all_rev hl x (uld_sub1 _ _ x hx)
  obtain ⟨e1, _⟩ := uld_gcd (all_rev hl) hr
  rw [prod_rev] at e1
  have d : prodN (uldR l.reverse r).1.reverse ∣ prodN l := by rw [prod_rev]; exact ⟨_, e1⟩
  have e2 := uld_div h1 hl d
  rw [prod_rev] at e2
  have p := prod_pos (fun x hx => all_rev hl x (uld_sub1 l.reverse r x hx))
  show prodN ((uldR (uldR l.reverse r).1.reverse l).1 ++ (uldR (uldR l.reverse r).1.reverse l).2) = _
  refine Nat.eq_of_mul_eq_mul_right p (e2.trans ?_)
  rw [Nat.mul_comm]; exact e1
theorem sp_all {h r : List Str} (hh : ∀ x ∈ h, P6 x) (hr : ∀ x ∈ r, P6 x) : ∀ x ∈ spR h r, P6 x := by
  unfold spR
  exact all_app (fun x hx => all_rev (sh_all hh) x (uld_sub1 _ _ x hx)) fun x hx => all_app hh hr x (uld_sub2 _ _ x hx)
theorem sp_prod {h r : List Str} (hh : ∀ x ∈ h, P6 x) (hr : ∀ x ∈ r, P6 x) : prodN (spR h r) = prodN h * prodN r / Nat.gcd (prodN h) (prodN r) := by
  have es : prodN (shR h r).reverse = Nat.gcd (prodN h) (prodN r) := by rw [prod_rev]; exact sh_prod hh hr
  have d : prodN (shR h r).reverse ∣ prodN (h ++ r) := by
    rw [es, prod_app]
    exact Nat.dvd_trans (Nat.gcd_dvd_left _ _) (Nat.dvd_mul_right _ _)
  have e2 := uld_div (all_rev (sh_all hh)) (all_app hh hr) d
  rw [es, prod_app h r] at e2
  have p : 0 < Nat.gcd (prodN h) (prodN r) := Nat.gcd_pos_of_pos_left _ (prod_pos hh)
  show prodN ((uldR (shR h r).reverse (h ++ r)).1 ++ (uldR (shR h r).reverse (h ++ r)).2) = _
  exact (Nat.div_eq_of_eq_mul_left p e2.symm).symm
theorem pf_of {l h v r : List Str} (hl : ∀ x ∈ l, P6 x) (hh : ∀ x ∈ h, P6 x) (hr : ∀ x ∈ r, P6 x) (z : r.length ≤ 17) (zl : l.length + r.length ≤ 200) (zh : h.length + r.length ≤ 200) (zv : v.length + r.length ≤ 200) : PF l h v r := by
  obtain ⟨e1, e2⟩ := uld_gcd (all_rev hl) hr
  rw [prod_rev] at e1 e2
  refine ⟨?_, prod_pos hr, e1.symm, e2.symm, sh_prod hl hr, sp_prod hh hr, zl, zh, zv⟩
  refine Nat.lt_of_le_of_lt (Nat.le_trans (prod_le r) (Nat.pow_le_pow_right (by decide) z)) (by decide)
end Mine
end
section
set_option maxRecDepth 100000
namespace Mine
theorem row_p6 (ns : List Int) (j : Nat) : ∀ x ∈ rowT primeT ns j, P6 x := fun x hx => by
  obtain ⟨y, _, rfl⟩ := List.mem_map.mp hx
  exact prime_cases y
theorem sp_len (a b : List Str) : (spR a b).length ≤ 3 * a.length + b.length := by
  unfold spR
  rw [List.length_append]
  have h1 := uld_len1 (shR a b).reverse (a ++ b)
  have h2 := uld_len2 (shR a b).reverse (a ++ b)
  have h3 := sh_len a b
  rw [List.length_reverse] at h1
  rw [List.length_append] at h2
  omega
theorem plain (ns : List Int) : Plain ns := by
  have z : ∀ j, (rowX ns j).length ≤ 17 := fun j => Nat.le_trans (row_len _ _ _) (nums_len ns)
  have p : ∀ j, ∀ x ∈ rowX ns j, P6 x := fun j => row_p6 _ j
  refine ⟨fun i hi => ?_⟩
  match i, hi with
  | 0, _ =>
    have h0 := z 0; have h1 := z 1
    refine pf_of (p 0) (p 0) (p 1) (z 1) ?_ ?_ ?_
    · show (rowX ns 0).length + (rowX ns 1).length ≤ 200; omega
    · show (rowX ns 0).length + (rowX ns 1).length ≤ 200; omega
    · show (rowX ns 0).length + (rowX ns 1).length ≤ 200; omega
  | 1, _ =>
    have h0 := z 0; have h1 := z 1; have h2 := z 2
    have a1 := sh_len (rowX ns 0) (rowX ns 1)
    have a2 := sp_len (rowX ns 0) (rowX ns 1)
    refine pf_of (sh_all (p 0)) (sp_all (p 0) (p 1)) (p 2) (z 2) ?_ ?_ ?_
    · show (shR (rowX ns 0) (rowX ns 1)).length + (rowX ns 2).length ≤ 200; omega
    · show (spR (rowX ns 0) (rowX ns 1)).length + (rowX ns 2).length ≤ 200; omega
    · show (rowX ns 0 ++ rowX ns 1).length + (rowX ns 2).length ≤ 200
      rw [List.length_append]; omega
end Mine
end
section
set_option maxRecDepth 1000000
set_option maxHeartbeats 4000000
namespace Mine
theorem args_of {cl : Str → Option Addr} {h : Heap} {w : World} {args : List WData} {vals : List Value} {as : List Addr} (hpre : PySem.Challenge.rw_ny0363_01.row.toRowW.claim.pre args = true) (hlay : WData.layableAll args = true) (hrd : ReadsAllW PySem.Challenge.rw_ny0363_01.row.toRowW.records cl h vals args as) (hwl : WellAll w.params h vals args) (hlo : ∀ a ∈ as, (a == sysModules) = false) :
    ∃ S vs ns, args = [ofPy (.list (ns.map PyData.int))] ∧ vals = [.ref S] ∧ h.IsList S (List.toArray vs) ∧ IntsAre vs ns ∧ ns.length ≤ 1000 := by
  w_on
  wrow_args hpre hlay hrd hwl hlo
  exact ⟨_, _, _, rfl, rfl, by assumption, by assumption, by omega⟩
def fnParams : Stmt → Arguments
  | .FunctionDef _ args _ _ _ _ _ _ _ _ => args
  | _ => default
theorem walk {d : DefRec} {kwd : List (Str × Expr)} (h1 : d.name = t "law") (h2 : d.params = fnParams (st 36)) (h3 : d.body = lawB) (h4 : d.scope = lawS) (h5 : kwd = []) : WalkO (qOf PySem.Challenge.pw_ny0363_01) loose (XL (qOf PySem.Challenge.pw_ny0363_01) []) (InK K) PySem.Challenge.rw_ny0363_01.row.toRowW d kwd (fun f vs => PySem.call f vs) := by
  intro w s₀ s₁ mg mb G Y fa o pm cd doc dV kV ho hd hcd hD hmg hg args vals as hpre hlay hrd hwl hlo
  have KX : (K w.params).In s₁.heap := Y
  obtain ⟨S, vs, ns, rfl, rfl, hS, hI, hz⟩ := args_of hpre hlay hrd hwl hlo
  refine Ground.open G ?_
  intro T B D TE TW
  clear G B D TE TW hmg hlay hrd hwl hlo Y
  rw [h1, h2, h3, h4] at hd
  rw [h1] at hcd
  rw [h2] at hD
  clear h1 h2 h3 h4
  have hdV : dV = .none := by
    rcases hD.pos with z | z
    · exact z.2
    · exact absurd (by with_unfolding_all rfl) z.1
  have hkV : kV = .none := by
    rcases hD.kw with z | z
    · exact z.2
    · exact absurd h5 z.1
  clear hD
  subst hdV hkV
  refine enter_call (codeAny_mono ?_ fun _ _ g => GoodW.toG g)
  have cx : Cx w s₁.heap callerA (ExcName.means s₀.heap) mg mb (callerA.depth + 1) (callerA.units + 3) lawS := ⟨below_caller _, KX, T, by with_unfolding_all rfl, by decide +kernel, by decide +kernel⟩
  refine codeAny_call_cells (binds := [(t "script", .ref S)]) (by decide +kernel) ho hd T.nolimit hcd rfl ?bind rfl ?kind (fun s₂ IC => ?_) rfl rfl rfl
  case bind => with_unfolding_all rfl
  case kind =>
    intro x hx
    rw [List.mem_singleton.mp hx]
    exact .inl (by with_unfolding_all rfl)
  obtain ⟨h2, tk2, rfl⟩ := IC.toInCall.same
  have F : Fr s₁.heap s₁.heap.objs.size h2 _ := ⟨IC.toInCall.ns, IC.toInCall.keep, Nat.le_refl _⟩
  have hc := IC.cell (t "numbers") (s₁.heap.objs.size + 1) (by with_unfolding_all rfl)
  have hn : ∀ cls, PySem.Challenge.rw_ny0363_01.row.claim.raises [ofPy (PyData.list (List.map PyData.int ns))] cls = false := fun cls => rfl
  clear IC hd
  refine law_body (L := s₁.heap.objs.size) (s := { s₁ with heap := h2, toks := tk2 }) (cn := t "law") (a := fa) (ccd := cd) (c := s₁.heap.objs.size + 1) (dp := callerA.depth + 1) (un := callerA.units + 3) (gd := callerA.guards) cx F (by with_unfolding_all rfl) hS hI hz hc (Nat.succ_ne_self _) (Heap.get?_none_of_le (Nat.le_succ _)) (plain ns) ?_
  intro h tk m' F'
  exact goodW_bool F' hg hn (by with_unfolding_all rfl)
end Mine
end
section
set_option maxRecDepth 1000000
set_option maxHeartbeats 0
namespace Mine
theorem holds : PySem.Challenge.rw_ny0363_01.Holds := by
  refine holds_law said fun sd => ?_
  refine holds_open (q := qOf PySem.Challenge.pw_ny0363_01) (loose := loose) (Xt := Xt (qOf PySem.Challenge.pw_ny0363_01)) (XP := XL (qOf PySem.Challenge.pw_ny0363_01) []) (Yf := Yf) (Ya := Ya) (YP := InK K) (N := 6000) left (InK.of addrs_eq) InK.keeps (fun s e => xl_of s (Bool.and_eq_true_iff.mp e).1) XL.keeps (by rfl) (by rfl) (by rfl) (fun s e => recFacts_of (Bool.and_eq_true_iff.mp e).2) (by rfl) sd (by decide +kernel) ⟨rfl, rfl, rfl, rfl, rfl, by decide +kernel⟩ ?hw (walk rfl rfl rfl rfl rfl)
  case hw => w_witness2
end Mine
end
theorem PySem.Challenge.cw_ny0363_01_holds : PySem.Challenge.rw_ny0363_01.Holds :=
  Mine.holds
