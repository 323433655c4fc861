import PyProof.Rows.All
import Wide.All
import OpenK.AllK
import Wide.FinOn
import PySem.Challenge.RW_ki0004_01

section
open PySem PySem.W PySem.Calls PyProof.Rows
set_option Elab.async false
set_option maxRecDepth 100000
namespace Mine
def nth : List Stmt → Nat → Stmt
  | [], _ => .Pass ⟨0, 0, 0, 0⟩
  | s :: _, 0 => s
  | _ :: r, n + 1 => nth r n
def inner : Stmt → List Stmt
  | .ClassDef _ _ _ b _ _ _ _ _ _ _ => b
  | _ => []
def parts : Stmt → Arguments × List Stmt × Scope
  | .FunctionDef _ a b _ _ _ sc _ _ _ => (a, b, sc)
  | _ => default
noncomputable def o2 (P : Params) : Obj := ⟨.none, none, (.dict (List.toArray [⟨(PyData.keyHash P "\x69mport.loaded._collections"), (.str "\x69mport.loaded._collections" 185), (.bool true)⟩, ⟨(PyData.keyHash P "class._frozen_importlib.BuiltinImporter"), (.str "class._frozen_importlib.BuiltinImporter" 187), (.ref 15)⟩, ⟨(PyData.keyHash P "watched.\x69mport"), (.str "watched.\x69mport" 208), (.ref 19)⟩, ⟨(PyData.keyHash P "class._frozen_importlib.ModuleSpec"), (.str "class._frozen_importlib.ModuleSpec" 218), (.ref 23)⟩, ⟨(PyData.keyHash P "sys.modules.booked-epoch"), (.str "sys.modules.booked-epoch" 247), (.int 3 0)⟩, ⟨(PyData.keyHash P "sys.modules.landed._collections"), (.str "sys.modules.landed._collections" 248), (.bool true)⟩, ⟨(PyData.keyHash P "\x69mport.later-laid._collections"), (.str "\x69mport.later-laid._collections" 263), (.bool true)⟩, ⟨(PyData.keyHash P "watched.library"), (.str "watched.library" 265), (.ref 28)⟩, ⟨(PyData.keyHash P "watched.library-objects"), (.str "watched.library-objects" 0), (.str "\x0d" 0)⟩, ⟨(PyData.keyHash P "watched.library-deep._collections"), (.str "watched.library-deep._collections" 266), (.str "\x04\x00\x00\x0c\x04\x00\x00\x0c\x04\x00\x00\x03\x04\x00\x00\x0c\x08\x04dict\x02" 0)⟩]) 10), (List.toArray [])⟩
noncomputable def o3 (P : Params) : Obj := ⟨(.type "dict"), none, (.dict (List.toArray [⟨(PyData.keyHash P "__name__"), (.str "__name__" 165), (.str "law_ki0004_01" 1447)⟩, ⟨(PyData.keyHash P "__doc__"), (.str "__doc__" 166), .none⟩, ⟨(PyData.keyHash P "__package__"), (.str "__package__" 167), .none⟩, ⟨(PyData.keyHash P "__loader__"), (.str "__loader__" 168), (.builtin "__main__.__loader__#opaque")⟩, ⟨(PyData.keyHash P "__spec__"), (.str "__spec__" 169), .none⟩, ⟨(PyData.keyHash P "__annotations__"), (.str "__annotations__" 170), (.ref 6)⟩, ⟨(PyData.keyHash P "__builtins__"), (.str "__builtins__" 171), (.ref 4)⟩, ⟨(PyData.keyHash P "__file__"), (.str "__file__" 173), (.str "/claim/cut.py" 172)⟩, ⟨(PyData.keyHash P "__cached__"), (.str "__cached__" 174), .none⟩, ⟨(PyData.keyHash P "deque"), (.str "deque" 272), (.type "collections.deque")⟩, ⟨(PyData.keyHash P "_wall"), (.str "_wall" 285), (.ref 39)⟩, ⟨(PyData.keyHash P "ABCMeta"), (.str "ABCMeta" 311), (.ref 56)⟩, ⟨(PyData.keyHash P "_ABCLike"), (.str "_ABCLike" 354), (.ref 89)⟩, ⟨(PyData.keyHash P "_abc_plain_meta"), (.str "_abc_plain_meta" 361), (.ref 98)⟩, ⟨(PyData.keyHash P "_abc_has_iter"), (.str "_abc_has_iter" 368), (.ref 105)⟩, ⟨(PyData.keyHash P "_abc_has_len"), (.str "_abc_has_len" 375), (.ref 112)⟩, ⟨(PyData.keyHash P "_abc_has_contains"), (.str "_abc_has_contains" 382), (.ref 119)⟩, ⟨(PyData.keyHash P "_abc_is_mappingproxy"), (.str "_abc_is_mappingproxy" 389), (.ref 126)⟩, ⟨(PyData.keyHash P "_abc_is_builtin_collection"), (.str "_abc_is_builtin_collection" 396), (.ref 133)⟩, ⟨(PyData.keyHash P "Iterable"), (.str "Iterable" 437), (.ref 166)⟩, ⟨(PyData.keyHash P "Sized"), (.str "Sized" 474), (.ref 196)⟩, ⟨(PyData.keyHash P "Container"), (.str "Container" 521), (.ref 232)⟩, ⟨(PyData.keyHash P "Collection"), (.str "Collection" 551), (.ref 255)⟩, ⟨(PyData.keyHash P "Set"), (.str "Set" 708), (.ref 371)⟩, ⟨(PyData.keyHash P "Mapping"), (.str "Mapping" 796), (.ref 443)⟩, ⟨(PyData.keyHash P "MappingView"), (.str "MappingView" 864), (.ref 493)⟩, ⟨(PyData.keyHash P "KeysView"), (.str "KeysView" 924), (.ref 540)⟩, ⟨(PyData.keyHash P "ItemsView"), (.str "ItemsView" 988), (.ref 585)⟩, ⟨(PyData.keyHash P "ValuesView"), (.str "ValuesView" 1031), (.ref 620)⟩, ⟨(PyData.keyHash P "MutableMapping"), (.str "MutableMapping" 1118), (.ref 695)⟩, ⟨(PyData.keyHash P "Cache"), (.str "Cache" 1306), (.ref 830)⟩, ⟨(PyData.keyHash P "LFUCache"), (.str "LFUCache" 1446), (.ref 929)⟩, ⟨(PyData.keyHash P "_law_size"), (.str "_law_size" 1455), (.ref 938)⟩, ⟨(PyData.keyHash P "_law_without"), (.str "_law_without" 1461), (.ref 943)⟩, ⟨(PyData.keyHash P "_law_value"), (.str "_law_value" 1470), (.ref 950)⟩, ⟨(PyData.keyHash P "_law_room"), (.str "_law_room" 1476), (.ref 955)⟩, ⟨(PyData.keyHash P "_law_counted"), (.str "_law_counted" 1482), (.ref 960)⟩, ⟨(PyData.keyHash P "_law_least"), (.str "_law_least" 1491), (.ref 967)⟩, ⟨(PyData.keyHash P "_law_put"), (.str "_law_put" 1497), (.ref 972)⟩, ⟨(PyData.keyHash P "_law_deed"), (.str "_law_deed" 1507), (.ref 979)⟩, ⟨(PyData.keyHash P "_law_due"), (.str "_law_due" 1513), (.ref 984)⟩, ⟨(PyData.keyHash P "law"), (.str "law" 1519), (.ref 989)⟩]) 42), (List.toArray [])⟩
noncomputable def o55 (P : Params) : Obj := ⟨(.type "dict"), none, (.dict (List.toArray [⟨(PyData.keyHash P "__module__"), (.str "__module__" 295), (.str "abc" 286)⟩, ⟨(PyData.keyHash P "__firstlineno__"), (.str "__firstlineno__" 299), (.int 6 298)⟩, ⟨(PyData.keyHash P "register"), (.str "register" 307), (.ref 53)⟩, ⟨(PyData.keyHash P "__static_attributes__"), (.str "__static_attributes__" 308), (.ref 54)⟩, ⟨(PyData.keyHash P "__doc__"), (.str "__doc__" 309), .none⟩]) 2), (List.toArray [])⟩
noncomputable def o56 : Obj := ⟨(.type "type"), none, (.cls ⟨"ABCMeta", [(.type "type")], [(.ref 56), (.type "type"), (.type "object")], 55, "ABCMeta", true, [], [(.ref 89)], false, none, false⟩), (List.toArray [(some (.ref 40)), none, (some (.str "ABCMeta" 288)), (some (.str "ABCMeta" 296)), (some (.builtin "type.__new__")), (some (.bool true))])⟩
noncomputable def o88 (P : Params) : Obj := ⟨(.type "dict"), none, (.dict (List.toArray [⟨(PyData.keyHash P "__module__"), (.str "__module__" 321), (.str "collections.abc" 312)⟩, ⟨(PyData.keyHash P "__firstlineno__"), (.str "__firstlineno__" 325), (.int 11 324)⟩, ⟨(PyData.keyHash P "__instancecheck__"), (.str "__instancecheck__" 334), (.ref 72)⟩, ⟨(PyData.keyHash P "__subclasscheck__"), (.str "__subclasscheck__" 342), (.ref 79)⟩, ⟨(PyData.keyHash P "register"), (.str "register" 350), (.ref 86)⟩, ⟨(PyData.keyHash P "__static_attributes__"), (.str "__static_attributes__" 351), (.ref 87)⟩, ⟨(PyData.keyHash P "__doc__"), (.str "__doc__" 352), .none⟩]) 2), (List.toArray [])⟩
noncomputable def o89 : Obj := ⟨(.type "type"), none, (.cls ⟨"_ABCLike", [(.ref 56)], [(.ref 89), (.ref 56), (.type "type"), (.type "object")], 88, "_ABCLike", true, [], [], false, none, false⟩), (List.toArray [(some (.ref 59)), none, (some (.str "_ABCLike" 314)), (some (.str "_ABCLike" 322)), (some (.builtin "type.__new__")), (some (.bool true))])⟩
noncomputable def o165 (P : Params) : Obj := ⟨(.type "dict"), none, (.dict (List.toArray [⟨(PyData.keyHash P "__module__"), (.str "__module__" 404), (.str "collections.abc" 312)⟩, ⟨(PyData.keyHash P "__firstlineno__"), (.str "__firstlineno__" 408), (.int 42 407)⟩, ⟨(PyData.keyHash P "__slots__"), (.str "__slots__" 409), (.ref 141)⟩, ⟨(PyData.keyHash P "__iter__"), (.str "__iter__" 416), (.ref 148)⟩, ⟨(PyData.keyHash P "_abc_kind"), (.str "_abc_kind" 424), (.ref 155)⟩, ⟨(PyData.keyHash P "__class_getitem__"), (.str "__class_getitem__" 432), (.ref 167)⟩, ⟨(PyData.keyHash P "__static_attributes__"), (.str "__static_attributes__" 433), (.ref 163)⟩, ⟨(PyData.keyHash P "__doc__"), (.str "__doc__" 435), .none⟩, ⟨(PyData.keyHash P "__abstractmethods__"), (.str "__abstractmethods__" 442), (.ref 170)⟩]) 3), (List.toArray [])⟩
noncomputable def o166 : Obj := ⟨(.ref 89), none, (.cls ⟨"Iterable", [(.type "object")], [(.ref 166), (.type "object")], 165, "Iterable", false, [], [(.ref 255)], true, none, false⟩), (List.toArray [none, none, (some (.str "Iterable" 397)), (some (.str "Iterable" 405)), (some (.builtin "object.__new__")), (some (.bool false))])⟩
noncomputable def o195 (P : Params) : Obj := ⟨(.type "dict"), none, (.dict (List.toArray [⟨(PyData.keyHash P "__module__"), (.str "__module__" 450), (.str "collections.abc" 312)⟩, ⟨(PyData.keyHash P "__firstlineno__"), (.str "__firstlineno__" 454), (.int 58 453)⟩, ⟨(PyData.keyHash P "__slots__"), (.str "__slots__" 455), (.ref 178)⟩, ⟨(PyData.keyHash P "__len__"), (.str "__len__" 462), (.ref 185)⟩, ⟨(PyData.keyHash P "_abc_kind"), (.str "_abc_kind" 470), (.ref 192)⟩, ⟨(PyData.keyHash P "__static_attributes__"), (.str "__static_attributes__" 471), (.ref 193)⟩, ⟨(PyData.keyHash P "__doc__"), (.str "__doc__" 472), .none⟩, ⟨(PyData.keyHash P "__abstractmethods__"), (.str "__abstractmethods__" 479), (.ref 199)⟩]) 3), (List.toArray [])⟩
noncomputable def o196 : Obj := ⟨(.ref 89), none, (.cls ⟨"Sized", [(.type "object")], [(.ref 196), (.type "object")], 195, "Sized", false, [], [(.ref 255), (.ref 493)], true, none, false⟩), (List.toArray [none, none, (some (.str "Sized" 443)), (some (.str "Sized" 451)), (some (.builtin "object.__new__")), (some (.bool false))])⟩
noncomputable def o231 (P : Params) : Obj := ⟨(.type "dict"), none, (.dict (List.toArray [⟨(PyData.keyHash P "__module__"), (.str "__module__" 487), (.str "collections.abc" 312)⟩, ⟨(PyData.keyHash P "__firstlineno__"), (.str "__firstlineno__" 491), (.int 70 490)⟩, ⟨(PyData.keyHash P "__slots__"), (.str "__slots__" 492), (.ref 207)⟩, ⟨(PyData.keyHash P "__contains__"), (.str "__contains__" 500), (.ref 214)⟩, ⟨(PyData.keyHash P "_abc_kind"), (.str "_abc_kind" 508), (.ref 221)⟩, ⟨(PyData.keyHash P "__class_getitem__"), (.str "__class_getitem__" 516), (.ref 233)⟩, ⟨(PyData.keyHash P "__static_attributes__"), (.str "__static_attributes__" 517), (.ref 229)⟩, ⟨(PyData.keyHash P "__doc__"), (.str "__doc__" 519), .none⟩, ⟨(PyData.keyHash P "__abstractmethods__"), (.str "__abstractmethods__" 526), (.ref 236)⟩]) 3), (List.toArray [])⟩
noncomputable def o232 : Obj := ⟨(.ref 89), none, (.cls ⟨"Container", [(.type "object")], [(.ref 232), (.type "object")], 231, "Container", false, [], [(.ref 255)], true, none, false⟩), (List.toArray [none, none, (some (.str "Container" 480)), (some (.str "Container" 488)), (some (.builtin "object.__new__")), (some (.bool false))])⟩
noncomputable def o254 (P : Params) : Obj := ⟨(.type "dict"), none, (.dict (List.toArray [⟨(PyData.keyHash P "__module__"), (.str "__module__" 534), (.str "collections.abc" 312)⟩, ⟨(PyData.keyHash P "__firstlineno__"), (.str "__firstlineno__" 538), (.int 85 537)⟩, ⟨(PyData.keyHash P "__slots__"), (.str "__slots__" 539), (.ref 244)⟩, ⟨(PyData.keyHash P "_abc_kind"), (.str "_abc_kind" 547), (.ref 251)⟩, ⟨(PyData.keyHash P "__static_attributes__"), (.str "__static_attributes__" 548), (.ref 252)⟩, ⟨(PyData.keyHash P "__doc__"), (.str "__doc__" 549), .none⟩, ⟨(PyData.keyHash P "__abstractmethods__"), (.str "__abstractmethods__" 558), (.ref 258)⟩]) 3), (List.toArray [])⟩
noncomputable def o255 : Obj := ⟨(.ref 89), none, (.cls ⟨"Collection", [(.ref 196), (.ref 166), (.ref 232)], [(.ref 255), (.ref 196), (.ref 166), (.ref 232), (.type "object")], 254, "Collection", false, [], [(.ref 371), (.ref 443), (.ref 620)], true, none, false⟩), (List.toArray [(some (.ref 237)), none, (some (.str "Collection" 527)), (some (.str "Collection" 535)), (some (.builtin "object.__new__")), (some (.bool false))])⟩
noncomputable def o442 (P : Params) : Obj := ⟨(.type "dict"), none, (.dict (List.toArray [⟨(PyData.keyHash P "__module__"), (.str "__module__" 723), (.str "collections.abc" 312)⟩, ⟨(PyData.keyHash P "__firstlineno__"), (.str "__firstlineno__" 727), (.int 185 726)⟩, ⟨(PyData.keyHash P "__slots__"), (.str "__slots__" 728), (.ref 382)⟩, ⟨(PyData.keyHash P "__getitem__"), (.str "__getitem__" 736), (.ref 389)⟩, ⟨(PyData.keyHash P "get"), (.str "get" 745), (.ref 397)⟩, ⟨(PyData.keyHash P "__contains__"), (.str "__contains__" 753), (.ref 404)⟩, ⟨(PyData.keyHash P "keys"), (.str "keys" 760), (.ref 411)⟩, ⟨(PyData.keyHash P "items"), (.str "items" 767), (.ref 418)⟩, ⟨(PyData.keyHash P "values"), (.str "values" 774), (.ref 425)⟩, ⟨(PyData.keyHash P "__eq__"), (.str "__eq__" 782), (.ref 432)⟩, ⟨(PyData.keyHash P "__reversed__"), (.str "__reversed__" 783), .none⟩, ⟨(PyData.keyHash P "_abc_kind"), (.str "_abc_kind" 791), (.ref 439)⟩, ⟨(PyData.keyHash P "__static_attributes__"), (.str "__static_attributes__" 792), (.ref 440)⟩, ⟨(PyData.keyHash P "__doc__"), (.str "__doc__" 793), .none⟩, ⟨(PyData.keyHash P "__hash__"), (.str "__hash__" 794), .none⟩, ⟨(PyData.keyHash P "__abstractmethods__"), (.str "__abstractmethods__" 803), (.ref 446)⟩]) 4), (List.toArray [])⟩
noncomputable def o443 : Obj := ⟨(.ref 89), none, (.cls ⟨"Mapping", [(.ref 255)], [(.ref 443), (.ref 255), (.ref 196), (.ref 166), (.ref 232), (.type "object")], 442, "Mapping", false, [], [(.ref 695)], true, none, false⟩), (List.toArray [(some (.ref 375)), none, (some (.str "Mapping" 716)), (some (.str "Mapping" 724)), (some (.builtin "object.__new__")), (some (.bool false))])⟩
noncomputable def o694 (P : Params) : Obj := ⟨(.type "dict"), none, (.dict (List.toArray [⟨(PyData.keyHash P "__module__"), (.str "__module__" 1039), (.str "collections.abc" 312)⟩, ⟨(PyData.keyHash P "__firstlineno__"), (.str "__firstlineno__" 1043), (.int 309 1042)⟩, ⟨(PyData.keyHash P "__slots__"), (.str "__slots__" 1044), (.ref 630)⟩, ⟨(PyData.keyHash P "__setitem__"), (.str "__setitem__" 1053), (.ref 637)⟩, ⟨(PyData.keyHash P "__delitem__"), (.str "__delitem__" 1061), (.ref 644)⟩, ⟨(PyData.keyHash P "_MutableMapping__marker"), (.str "_MutableMapping__marker" 1062), (.ref 645)⟩, ⟨(PyData.keyHash P "pop"), (.str "pop" 1072), (.ref 653)⟩, ⟨(PyData.keyHash P "popitem"), (.str "popitem" 1081), (.ref 660)⟩, ⟨(PyData.keyHash P "clear"), (.str "clear" 1088), (.ref 667)⟩, ⟨(PyData.keyHash P "update"), (.str "update" 1097), (.ref 676)⟩, ⟨(PyData.keyHash P "setdefault"), (.str "setdefault" 1106), (.ref 684)⟩, ⟨(PyData.keyHash P "_abc_kind"), (.str "_abc_kind" 1114), (.ref 691)⟩, ⟨(PyData.keyHash P "__static_attributes__"), (.str "__static_attributes__" 1115), (.ref 692)⟩, ⟨(PyData.keyHash P "__doc__"), (.str "__doc__" 1116), .none⟩, ⟨(PyData.keyHash P "__abstractmethods__"), (.str "__abstractmethods__" 1127), (.ref 698)⟩]) 3), (List.toArray [])⟩
noncomputable def o695 : Obj := ⟨(.ref 89), none, (.cls ⟨"MutableMapping", [(.ref 443)], [(.ref 695), (.ref 443), (.ref 255), (.ref 196), (.ref 166), (.ref 232), (.type "object")], 694, "MutableMapping", false, [], [(.ref 830)], true, none, false⟩), (List.toArray [(some (.ref 623)), none, (some (.str "MutableMapping" 1032)), (some (.str "MutableMapping" 1040)), (some (.builtin "object.__new__")), (some (.bool false))])⟩
noncomputable def o706 : Obj := ⟨(.type "object"), none, .plain, (List.toArray [])⟩
noncomputable def o707 : Obj := ⟨(.type "tuple"), none, (.seq (List.toArray [.none]) 0), (List.toArray [])⟩
noncomputable def o713 : Obj := ⟨(.type "code"), none, (.fields (List.toArray [(.str "__init__" 1144), (.str "Cache.__init__" 1145), (.str "/claim/cut.py" 1146), (.int 367 0), (.int 3 0), (.int 0 0), (.int 0 0), (.int 3 0), (.ref 708), (.bool true), (.int 273 0), (.ref 709), .none, (.ref 710), (.ref 711), (.ref 712), (.int 1150 0), (.int 367 0), (.str "/claim/cut.py" 1151)])), (List.toArray [])⟩
@[reducible] noncomputable def f714 : { x : Arguments × List Stmt × Scope // x = parts (nth (inner (nth PySem.Challenge.pw_ki0004_01.main.body 31)) 2) } := ⟨_, by conv => rhs; whnf⟩
noncomputable def o714 : Obj := ⟨(.type "function"), none, (.func ⟨"__init__", "Cache.__init__", f714.1.1, .stmts f714.1.2.1, f714.1.2.2, 3, [], (.ref 707), .none, .none, (.str "cachetools" 1128), none, (.ref 713), .none, 0⟩), (List.toArray [])⟩
noncomputable def o727 : Obj := ⟨(.type "code"), none, (.fields (List.toArray [(.str "__getitem__" 1160), (.str "Cache.__getitem__" 1161), (.str "/claim/cut.py" 1162), (.int 381 0), (.int 2 0), (.int 0 0), (.int 0 0), (.int 3 0), (.ref 722), (.bool true), (.int 273 0), (.ref 723), .none, (.ref 724), (.ref 725), (.ref 726), (.int 1165 0), (.int 381 0), (.str "/claim/cut.py" 1166)])), (List.toArray [])⟩
@[reducible] noncomputable def f728 : { x : Arguments × List Stmt × Scope // x = parts (nth (inner (nth PySem.Challenge.pw_ki0004_01.main.body 31)) 4) } := ⟨_, by conv => rhs; whnf⟩
noncomputable def o728 : Obj := ⟨(.type "function"), none, (.func ⟨"__getitem__", "Cache.__getitem__", f728.1.1, .stmts f728.1.2.1, f728.1.2.2, 3, [], .none, .none, .none, (.str "cachetools" 1128), none, (.ref 727), .none, 0⟩), (List.toArray [])⟩
noncomputable def o734 : Obj := ⟨(.type "code"), none, (.fields (List.toArray [(.str "__setitem__" 1168), (.str "Cache.__setitem__" 1169), (.str "/claim/cut.py" 1170), (.int 387 0), (.int 3 0), (.int 0 0), (.int 0 0), (.int 3 0), (.ref 729), (.bool true), (.int 273 0), (.ref 730), .none, (.ref 731), (.ref 732), (.ref 733), (.int 1179 0), (.int 387 0), (.str "/claim/cut.py" 1180)])), (List.toArray [])⟩
@[reducible] noncomputable def f735 : { x : Arguments × List Stmt × Scope // x = parts (nth (inner (nth PySem.Challenge.pw_ki0004_01.main.body 31)) 5) } := ⟨_, by conv => rhs; whnf⟩
noncomputable def o735 : Obj := ⟨(.type "function"), none, (.func ⟨"__setitem__", "Cache.__setitem__", f735.1.1, .stmts f735.1.2.1, f735.1.2.2, 3, [], .none, .none, .none, (.str "cachetools" 1128), none, (.ref 734), .none, 0⟩), (List.toArray [])⟩
noncomputable def o741 : Obj := ⟨(.type "code"), none, (.fields (List.toArray [(.str "__delitem__" 1182), (.str "Cache.__delitem__" 1183), (.str "/claim/cut.py" 1184), (.int 421 0), (.int 2 0), (.int 0 0), (.int 0 0), (.int 3 0), (.ref 736), (.bool true), (.int 273 0), (.ref 737), .none, (.ref 738), (.ref 739), (.ref 740), (.int 1189 0), (.int 421 0), (.str "/claim/cut.py" 1190)])), (List.toArray [])⟩
@[reducible] noncomputable def f742 : { x : Arguments × List Stmt × Scope // x = parts (nth (inner (nth PySem.Challenge.pw_ki0004_01.main.body 31)) 6) } := ⟨_, by conv => rhs; whnf⟩
noncomputable def o742 : Obj := ⟨(.type "function"), none, (.func ⟨"__delitem__", "Cache.__delitem__", f742.1.1, .stmts f742.1.2.1, f742.1.2.2, 3, [], .none, .none, .none, (.str "cachetools" 1128), none, (.ref 741), .none, 0⟩), (List.toArray [])⟩
noncomputable def o748 : Obj := ⟨(.type "code"), none, (.fields (List.toArray [(.str "__contains__" 1192), (.str "Cache.__contains__" 1193), (.str "/claim/cut.py" 1194), (.int 431 0), (.int 2 0), (.int 0 0), (.int 0 0), (.int 3 0), (.ref 743), (.bool true), (.int 273 0), (.ref 744), .none, (.ref 745), (.ref 746), (.ref 747), (.int 1197 0), (.int 431 0), (.str "/claim/cut.py" 1198)])), (List.toArray [])⟩
@[reducible] noncomputable def f749 : { x : Arguments × List Stmt × Scope // x = parts (nth (inner (nth PySem.Challenge.pw_ki0004_01.main.body 31)) 7) } := ⟨_, by conv => rhs; whnf⟩
noncomputable def o749 : Obj := ⟨(.type "function"), none, (.func ⟨"__contains__", "Cache.__contains__", f749.1.1, .stmts f749.1.2.1, f749.1.2.2, 3, [], .none, .none, .none, (.str "cachetools" 1128), none, (.ref 748), .none, 0⟩), (List.toArray [])⟩
noncomputable def o755 : Obj := ⟨(.type "code"), none, (.fields (List.toArray [(.str "__missing__" 1200), (.str "Cache.__missing__" 1201), (.str "/claim/cut.py" 1202), (.int 434 0), (.int 2 0), (.int 0 0), (.int 0 0), (.int 3 0), (.ref 750), (.bool true), (.int 273 0), (.ref 751), .none, (.ref 752), (.ref 753), (.ref 754), (.int 1205 0), (.int 434 0), (.str "/claim/cut.py" 1206)])), (List.toArray [])⟩
@[reducible] noncomputable def f756 : { x : Arguments × List Stmt × Scope // x = parts (nth (inner (nth PySem.Challenge.pw_ki0004_01.main.body 31)) 8) } := ⟨_, by conv => rhs; whnf⟩
noncomputable def o756 : Obj := ⟨(.type "function"), none, (.func ⟨"__missing__", "Cache.__missing__", f756.1.1, .stmts f756.1.2.1, f756.1.2.2, 3, [], .none, .none, .none, (.str "cachetools" 1128), none, (.ref 755), .none, 0⟩), (List.toArray [])⟩
noncomputable def o762 : Obj := ⟨(.type "code"), none, (.fields (List.toArray [(.str "__iter__" 1208), (.str "Cache.__iter__" 1209), (.str "/claim/cut.py" 1210), (.int 437 0), (.int 1 0), (.int 0 0), (.int 0 0), (.int 3 0), (.ref 757), (.bool true), (.int 273 0), (.ref 758), .none, (.ref 759), (.ref 760), (.ref 761), (.int 1212 0), (.int 437 0), (.str "/claim/cut.py" 1213)])), (List.toArray [])⟩
@[reducible] noncomputable def f763 : { x : Arguments × List Stmt × Scope // x = parts (nth (inner (nth PySem.Challenge.pw_ki0004_01.main.body 31)) 9) } := ⟨_, by conv => rhs; whnf⟩
noncomputable def o763 : Obj := ⟨(.type "function"), none, (.func ⟨"__iter__", "Cache.__iter__", f763.1.1, .stmts f763.1.2.1, f763.1.2.2, 3, [], .none, .none, .none, (.str "cachetools" 1128), none, (.ref 762), .none, 0⟩), (List.toArray [])⟩
noncomputable def o769 : Obj := ⟨(.type "code"), none, (.fields (List.toArray [(.str "__len__" 1215), (.str "Cache.__len__" 1216), (.str "/claim/cut.py" 1217), (.int 440 0), (.int 1 0), (.int 0 0), (.int 0 0), (.int 3 0), (.ref 764), (.bool true), (.int 273 0), (.ref 765), .none, (.ref 766), (.ref 767), (.ref 768), (.int 1219 0), (.int 440 0), (.str "/claim/cut.py" 1220)])), (List.toArray [])⟩
@[reducible] noncomputable def f770 : { x : Arguments × List Stmt × Scope // x = parts (nth (inner (nth PySem.Challenge.pw_ki0004_01.main.body 31)) 10) } := ⟨_, by conv => rhs; whnf⟩
noncomputable def o770 : Obj := ⟨(.type "function"), none, (.func ⟨"__len__", "Cache.__len__", f770.1.1, .stmts f770.1.2.1, f770.1.2.2, 3, [], .none, .none, .none, (.str "cachetools" 1128), none, (.ref 769), .none, 0⟩), (List.toArray [])⟩
noncomputable def o771 : Obj := ⟨(.type "tuple"), none, (.seq (List.toArray [.none]) 0), (List.toArray [])⟩
noncomputable def o777 : Obj := ⟨(.type "code"), none, (.fields (List.toArray [(.str "get" 1222), (.str "Cache.get" 1223), (.str "/claim/cut.py" 1224), (.int 443 0), (.int 3 0), (.int 0 0), (.int 0 0), (.int 3 0), (.ref 772), (.bool true), (.int 273 0), (.ref 773), .none, (.ref 774), (.ref 775), (.ref 776), (.int 1228 0), (.int 443 0), (.str "/claim/cut.py" 1229)])), (List.toArray [])⟩
@[reducible] noncomputable def f778 : { x : Arguments × List Stmt × Scope // x = parts (nth (inner (nth PySem.Challenge.pw_ki0004_01.main.body 31)) 11) } := ⟨_, by conv => rhs; whnf⟩
noncomputable def o778 : Obj := ⟨(.type "function"), none, (.func ⟨"get", "Cache.get", f778.1.1, .stmts f778.1.2.1, f778.1.2.2, 3, [], (.ref 771), .none, .none, (.str "cachetools" 1128), none, (.ref 777), .none, 0⟩), (List.toArray [])⟩
noncomputable def o779 : Obj := ⟨(.type "tuple"), none, (.seq (List.toArray [(.ref 706)]) 0), (List.toArray [])⟩
noncomputable def o785 : Obj := ⟨(.type "code"), none, (.fields (List.toArray [(.str "pop" 1231), (.str "Cache.pop" 1232), (.str "/claim/cut.py" 1233), (.int 449 0), (.int 3 0), (.int 0 0), (.int 0 0), (.int 3 0), (.ref 780), (.bool true), (.int 273 0), (.ref 781), .none, (.ref 782), (.ref 783), (.ref 784), (.int 1238 0), (.int 449 0), (.str "/claim/cut.py" 1239)])), (List.toArray [])⟩
@[reducible] noncomputable def f786 : { x : Arguments × List Stmt × Scope // x = parts (nth (inner (nth PySem.Challenge.pw_ki0004_01.main.body 31)) 12) } := ⟨_, by conv => rhs; whnf⟩
noncomputable def o786 : Obj := ⟨(.type "function"), none, (.func ⟨"pop", "Cache.pop", f786.1.1, .stmts f786.1.2.1, f786.1.2.2, 3, [], (.ref 779), .none, .none, (.str "cachetools" 1128), none, (.ref 785), .none, 0⟩), (List.toArray [])⟩
noncomputable def o787 : Obj := ⟨(.type "tuple"), none, (.seq (List.toArray [.none]) 0), (List.toArray [])⟩
noncomputable def o793 : Obj := ⟨(.type "code"), none, (.fields (List.toArray [(.str "setdefault" 1241), (.str "Cache.setdefault" 1242), (.str "/claim/cut.py" 1243), (.int 459 0), (.int 3 0), (.int 0 0), (.int 0 0), (.int 3 0), (.ref 788), (.bool true), (.int 273 0), (.ref 789), .none, (.ref 790), (.ref 791), (.ref 792), (.int 1248 0), (.int 459 0), (.str "/claim/cut.py" 1249)])), (List.toArray [])⟩
@[reducible] noncomputable def f794 : { x : Arguments × List Stmt × Scope // x = parts (nth (inner (nth PySem.Challenge.pw_ki0004_01.main.body 31)) 13) } := ⟨_, by conv => rhs; whnf⟩
noncomputable def o794 : Obj := ⟨(.type "function"), none, (.func ⟨"setdefault", "Cache.setdefault", f794.1.1, .stmts f794.1.2.1, f794.1.2.2, 3, [], (.ref 787), .none, .none, (.str "cachetools" 1128), none, (.ref 793), .none, 0⟩), (List.toArray [])⟩
noncomputable def o800 : Obj := ⟨(.type "code"), none, (.fields (List.toArray [(.str "clear" 1251), (.str "Cache.clear" 1252), (.str "/claim/cut.py" 1253), (.int 466 0), (.int 1 0), (.int 0 0), (.int 0 0), (.int 3 0), (.ref 795), (.bool true), (.int 273 0), (.ref 796), .none, (.ref 797), (.ref 798), (.ref 799), (.int 1256 0), (.int 466 0), (.str "/claim/cut.py" 1257)])), (List.toArray [])⟩
@[reducible] noncomputable def f801 : { x : Arguments × List Stmt × Scope // x = parts (nth (inner (nth PySem.Challenge.pw_ki0004_01.main.body 31)) 14) } := ⟨_, by conv => rhs; whnf⟩
noncomputable def o801 : Obj := ⟨(.type "function"), none, (.func ⟨"clear", "Cache.clear", f801.1.1, .stmts f801.1.2.1, f801.1.2.2, 3, [], .none, .none, .none, (.str "cachetools" 1128), none, (.ref 800), .none, 0⟩), (List.toArray [])⟩
noncomputable def o807 : Obj := ⟨(.type "code"), none, (.fields (List.toArray [(.str "maxsize" 1259), (.str "Cache.maxsize" 1260), (.str "/claim/cut.py" 1261), (.int 473 0), (.int 1 0), (.int 0 0), (.int 0 0), (.int 3 0), (.ref 802), (.bool true), (.int 273 0), (.ref 803), .none, (.ref 804), (.ref 805), (.ref 806), (.int 1263 0), (.int 473 0), (.str "/claim/cut.py" 1264)])), (List.toArray [])⟩
@[reducible] noncomputable def f808 : { x : Arguments × List Stmt × Scope // x = parts (nth (inner (nth PySem.Challenge.pw_ki0004_01.main.body 31)) 15) } := ⟨_, by conv => rhs; whnf⟩
noncomputable def o808 : Obj := ⟨(.type "function"), none, (.func ⟨"maxsize", "Cache.maxsize", f808.1.1, .stmts f808.1.2.1, f808.1.2.2, 3, [], .none, .none, .none, (.str "cachetools" 1128), none, (.ref 807), .none, 0⟩), (List.toArray [])⟩
noncomputable def o809 : Obj := ⟨(.type "property"), none, (.fields (List.toArray [(.ref 808), .none, .none, .none, (.str "maxsize" 1266), (.bool false)])), (List.toArray [])⟩
noncomputable def o815 : Obj := ⟨(.type "code"), none, (.fields (List.toArray [(.str "currsize" 1267), (.str "Cache.currsize" 1268), (.str "/claim/cut.py" 1269), (.int 477 0), (.int 1 0), (.int 0 0), (.int 0 0), (.int 3 0), (.ref 810), (.bool true), (.int 273 0), (.ref 811), .none, (.ref 812), (.ref 813), (.ref 814), (.int 1271 0), (.int 477 0), (.str "/claim/cut.py" 1272)])), (List.toArray [])⟩
@[reducible] noncomputable def f816 : { x : Arguments × List Stmt × Scope // x = parts (nth (inner (nth PySem.Challenge.pw_ki0004_01.main.body 31)) 16) } := ⟨_, by conv => rhs; whnf⟩
noncomputable def o816 : Obj := ⟨(.type "function"), none, (.func ⟨"currsize", "Cache.currsize", f816.1.1, .stmts f816.1.2.1, f816.1.2.2, 3, [], .none, .none, .none, (.str "cachetools" 1128), none, (.ref 815), .none, 0⟩), (List.toArray [])⟩
noncomputable def o817 : Obj := ⟨(.type "property"), none, (.fields (List.toArray [(.ref 816), .none, .none, .none, (.str "currsize" 1274), (.bool false)])), (List.toArray [])⟩
noncomputable def o823 : Obj := ⟨(.type "code"), none, (.fields (List.toArray [(.str "getsizeof" 1275), (.str "Cache.getsizeof" 1276), (.str "/claim/cut.py" 1277), (.int 481 0), (.int 1 0), (.int 0 0), (.int 0 0), (.int 3 0), (.ref 818), (.bool true), (.int 273 0), (.ref 819), .none, (.ref 820), (.ref 821), (.ref 822), (.int 1279 0), (.int 481 0), (.str "/claim/cut.py" 1280)])), (List.toArray [])⟩
@[reducible] noncomputable def f824 : { x : Arguments × List Stmt × Scope // x = parts (nth (inner (nth PySem.Challenge.pw_ki0004_01.main.body 31)) 17) } := ⟨_, by conv => rhs; whnf⟩
noncomputable def o824 : Obj := ⟨(.type "function"), none, (.func ⟨"getsizeof", "Cache.getsizeof", f824.1.1, .stmts f824.1.2.1, f824.1.2.2, 3, [], .none, .none, .none, (.str "cachetools" 1128), (some 827), (.ref 823), .none, 0⟩), (List.toArray [])⟩
noncomputable def o826 : Obj := ⟨(.type "staticmethod"), (some 825), (.fields (List.toArray [(.ref 824), (.bool false)])), (List.toArray [])⟩
noncomputable def o829 (P : Params) : Obj := ⟨(.type "dict"), none, (.dict (List.toArray [⟨(PyData.keyHash P "__module__"), (.str "__module__" 1137), (.str "cachetools" 1128)⟩, ⟨(PyData.keyHash P "__firstlineno__"), (.str "__firstlineno__" 1141), (.int 363 1140)⟩, ⟨(PyData.keyHash P "_Cache__marker"), (.str "_Cache__marker" 1142), (.ref 706)⟩, ⟨(PyData.keyHash P "_Cache__size"), (.str "_Cache__size" 1143), .none⟩, ⟨(PyData.keyHash P "__init__"), (.str "__init__" 1152), (.ref 714)⟩, ⟨(PyData.keyHash P "__repr__"), (.str "__repr__" 1159), (.ref 721)⟩, ⟨(PyData.keyHash P "__getitem__"), (.str "__getitem__" 1167), (.ref 728)⟩, ⟨(PyData.keyHash P "__setitem__"), (.str "__setitem__" 1181), (.ref 735)⟩, ⟨(PyData.keyHash P "__delitem__"), (.str "__delitem__" 1191), (.ref 742)⟩, ⟨(PyData.keyHash P "__contains__"), (.str "__contains__" 1199), (.ref 749)⟩, ⟨(PyData.keyHash P "__missing__"), (.str "__missing__" 1207), (.ref 756)⟩, ⟨(PyData.keyHash P "__iter__"), (.str "__iter__" 1214), (.ref 763)⟩, ⟨(PyData.keyHash P "__len__"), (.str "__len__" 1221), (.ref 770)⟩, ⟨(PyData.keyHash P "get"), (.str "get" 1230), (.ref 778)⟩, ⟨(PyData.keyHash P "pop"), (.str "pop" 1240), (.ref 786)⟩, ⟨(PyData.keyHash P "setdefault"), (.str "setdefault" 1250), (.ref 794)⟩, ⟨(PyData.keyHash P "clear"), (.str "clear" 1258), (.ref 801)⟩, ⟨(PyData.keyHash P "maxsize"), (.str "maxsize" 1266), (.ref 809)⟩, ⟨(PyData.keyHash P "currsize"), (.str "currsize" 1274), (.ref 817)⟩, ⟨(PyData.keyHash P "getsizeof"), (.str "getsizeof" 1293), (.ref 826)⟩, ⟨(PyData.keyHash P "__static_attributes__"), (.str "__static_attributes__" 1299), (.ref 828)⟩, ⟨(PyData.keyHash P "__dict__"), (.str "__dict__" 1301), (.ref 831)⟩, ⟨(PyData.keyHash P "__weakref__"), (.str "__weakref__" 1303), (.ref 832)⟩, ⟨(PyData.keyHash P "__doc__"), (.str "__doc__" 1304), .none⟩]) 4), (List.toArray [])⟩
noncomputable def o830 : Obj := ⟨(.ref 89), none, (.cls ⟨"Cache", [(.ref 695)], [(.ref 830), (.ref 695), (.ref 443), (.ref 255), (.ref 196), (.ref 166), (.ref 232), (.type "object")], 829, "Cache", true, [], [(.ref 929)], false, none, false⟩), (List.toArray [(some (.ref 699)), none, (some (.str "Cache" 1130)), (some (.str "Cache" 1138)), (some (.builtin "object.__new__")), (some (.bool true))])⟩
noncomputable def o831 : Obj := ⟨(.type "getset_descriptor"), none, (.fields (List.toArray [(.str "__dict__" 1300), (.ref 830), (.builtin "function.__dict__"), (.builtin "function.__dict__#set")])), (List.toArray [])⟩
noncomputable def o832 : Obj := ⟨(.type "getset_descriptor"), none, (.fields (List.toArray [(.str "__weakref__" 1302), (.ref 830), (.builtin "ExceptionGroup.__weakref__"), .none])), (List.toArray [])⟩
noncomputable def o855 : Obj := ⟨(.type "code"), none, (.fields (List.toArray [(.str "__init__" 1336), (.str "LFUCache._Link.__init__" 1337), (.str "/claim/cut.py" 1338), (.int 489 0), (.int 2 0), (.int 0 0), (.int 0 0), (.int 3 0), (.ref 850), (.bool true), (.int 273 0), (.ref 851), .none, (.ref 852), (.ref 853), (.ref 854), (.int 1341 0), (.int 489 0), (.str "/claim/cut.py" 1342)])), (List.toArray [])⟩
@[reducible] noncomputable def f856 : { x : Arguments × List Stmt × Scope // x = parts (nth (inner (nth (inner (nth PySem.Challenge.pw_ki0004_01.main.body 32)) 0)) 1) } := ⟨_, by conv => rhs; whnf⟩
noncomputable def o856 : Obj := ⟨(.type "function"), none, (.func ⟨"__init__", "LFUCache._Link.__init__", f856.1.1, .stmts f856.1.2.1, f856.1.2.2, 3, [], .none, .none, .none, (.str "cachetools" 1128), none, (.ref 855), .none, 0⟩), (List.toArray [])⟩
noncomputable def o862 : Obj := ⟨(.type "code"), none, (.fields (List.toArray [(.str "unlink" 1344), (.str "LFUCache._Link.unlink" 1345), (.str "/claim/cut.py" 1346), (.int 493 0), (.int 1 0), (.int 0 0), (.int 0 0), (.int 3 0), (.ref 857), (.bool true), (.int 273 0), (.ref 858), .none, (.ref 859), (.ref 860), (.ref 861), (.int 1350 0), (.int 493 0), (.str "/claim/cut.py" 1351)])), (List.toArray [])⟩
@[reducible] noncomputable def f863 : { x : Arguments × List Stmt × Scope // x = parts (nth (inner (nth (inner (nth PySem.Challenge.pw_ki0004_01.main.body 32)) 0)) 2) } := ⟨_, by conv => rhs; whnf⟩
noncomputable def o863 : Obj := ⟨(.type "function"), none, (.func ⟨"unlink", "LFUCache._Link.unlink", f863.1.1, .stmts f863.1.2.1, f863.1.2.2, 3, [], .none, .none, .none, (.str "cachetools" 1128), none, (.ref 862), .none, 0⟩), (List.toArray [])⟩
noncomputable def o866 (P : Params) : Obj := ⟨(.type "dict"), none, (.dict (List.toArray [⟨(PyData.keyHash P "__module__"), (.str "__module__" 1326), (.str "cachetools" 1128)⟩, ⟨(PyData.keyHash P "__firstlineno__"), (.str "__firstlineno__" 1330), (.int 486 1329)⟩, ⟨(PyData.keyHash P "__slots__"), (.str "__slots__" 1335), (.ref 849)⟩, ⟨(PyData.keyHash P "__init__"), (.str "__init__" 1343), (.ref 856)⟩, ⟨(PyData.keyHash P "unlink"), (.str "unlink" 1352), (.ref 863)⟩, ⟨(PyData.keyHash P "__static_attributes__"), (.str "__static_attributes__" 1355), (.ref 864)⟩, ⟨(PyData.keyHash P "count"), (.str "count" 1357), (.ref 868)⟩, ⟨(PyData.keyHash P "keys"), (.str "keys" 1359), (.ref 869)⟩, ⟨(PyData.keyHash P "next"), (.str "next" 1361), (.ref 870)⟩, ⟨(PyData.keyHash P "prev"), (.str "prev" 1363), (.ref 871)⟩, ⟨(PyData.keyHash P "__doc__"), (.str "__doc__" 1364), .none⟩]) 6), (List.toArray [])⟩
noncomputable def o867 : Obj := ⟨(.type "type"), none, (.cls ⟨"_Link", [(.type "object")], [(.ref 867), (.type "object")], 866, "LFUCache._Link", false, ["count", "keys", "next", "prev"], [], false, none, false⟩), (List.toArray [none, none, (some (.str "_Link" 1319)), (some (.str "LFUCache._Link" 1327)), (some (.builtin "object.__new__")), (some (.bool false))])⟩
noncomputable def o868 : Obj := ⟨(.type "member_descriptor"), none, (.fields (List.toArray [(.str "count" 1356), (.ref 867), (.builtin "proto.slot"), (.builtin "proto.slot#set"), (.int 3 0)])), (List.toArray [])⟩
noncomputable def o869 : Obj := ⟨(.type "member_descriptor"), none, (.fields (List.toArray [(.str "keys" 1358), (.ref 867), (.builtin "proto.slot"), (.builtin "proto.slot#set"), (.int 2 0)])), (List.toArray [])⟩
noncomputable def o870 : Obj := ⟨(.type "member_descriptor"), none, (.fields (List.toArray [(.str "next" 1360), (.ref 867), (.builtin "proto.slot"), (.builtin "proto.slot#set"), (.int 1 0)])), (List.toArray [])⟩
noncomputable def o871 : Obj := ⟨(.type "member_descriptor"), none, (.fields (List.toArray [(.str "prev" 1362), (.ref 867), (.builtin "proto.slot"), (.builtin "proto.slot#set"), (.int 0 0)])), (List.toArray [])⟩
noncomputable def o874 : Obj := ⟨(.type "tuple"), none, (.seq (List.toArray [.none]) 0), (List.toArray [])⟩
noncomputable def o880 : Obj := ⟨(.type "code"), none, (.fields (List.toArray [(.str "__init__" 1367), (.str "LFUCache.__init__" 1368), (.str "/claim/cut.py" 1369), (.int 499 0), (.int 3 0), (.int 0 0), (.int 0 0), (.int 3 0), (.ref 875), (.bool true), (.int 273 0), (.ref 876), .none, (.ref 877), (.ref 878), (.ref 879), (.int 1374 0), (.int 499 0), (.str "/claim/cut.py" 1375)])), (List.toArray [])⟩
@[reducible] noncomputable def f881 : { x : Arguments × List Stmt × Scope // x = parts (nth (inner (nth PySem.Challenge.pw_ki0004_01.main.body 32)) 1) } := ⟨_, by conv => rhs; whnf⟩
noncomputable def o881 : Obj := ⟨(.type "function"), none, (.func ⟨"__init__", "LFUCache.__init__", f881.1.1, .stmts f881.1.2.1, f881.1.2.2, 3, [], (.ref 874), .none, .none, (.str "cachetools" 1128), none, (.ref 880), .none, 0⟩), (List.toArray [])⟩
noncomputable def o882 : Obj := ⟨(.type "tuple"), none, (.seq (List.toArray [(.ref 728)]) 0), (List.toArray [])⟩
noncomputable def o888 : Obj := ⟨(.type "code"), none, (.fields (List.toArray [(.str "__getitem__" 1378), (.str "LFUCache.__getitem__" 1379), (.str "/claim/cut.py" 1380), (.int 505 0), (.int 3 0), (.int 0 0), (.int 0 0), (.int 3 0), (.ref 883), (.bool true), (.int 273 0), (.ref 884), .none, (.ref 885), (.ref 886), (.ref 887), (.int 1385 0), (.int 505 0), (.str "/claim/cut.py" 1386)])), (List.toArray [])⟩
@[reducible] noncomputable def f889 : { x : Arguments × List Stmt × Scope // x = parts (nth (inner (nth PySem.Challenge.pw_ki0004_01.main.body 32)) 2) } := ⟨_, by conv => rhs; whnf⟩
noncomputable def o889 : Obj := ⟨(.type "function"), none, (.func ⟨"__getitem__", "LFUCache.__getitem__", f889.1.1, .stmts f889.1.2.1, f889.1.2.2, 3, [], (.ref 882), .none, .none, (.str "cachetools" 1128), none, (.ref 888), .none, 0⟩), (List.toArray [])⟩
noncomputable def o890 : Obj := ⟨(.type "tuple"), none, (.seq (List.toArray [(.ref 735)]) 0), (List.toArray [])⟩
noncomputable def o896 : Obj := ⟨(.type "code"), none, (.fields (List.toArray [(.str "__setitem__" 1389), (.str "LFUCache.__setitem__" 1390), (.str "/claim/cut.py" 1391), (.int 511 0), (.int 4 0), (.int 0 0), (.int 0 0), (.int 3 0), (.ref 891), (.bool true), (.int 273 0), (.ref 892), .none, (.ref 893), (.ref 894), (.ref 895), (.int 1398 0), (.int 511 0), (.str "/claim/cut.py" 1399)])), (List.toArray [])⟩
@[reducible] noncomputable def f897 : { x : Arguments × List Stmt × Scope // x = parts (nth (inner (nth PySem.Challenge.pw_ki0004_01.main.body 32)) 3) } := ⟨_, by conv => rhs; whnf⟩
noncomputable def o897 : Obj := ⟨(.type "function"), none, (.func ⟨"__setitem__", "LFUCache.__setitem__", f897.1.1, .stmts f897.1.2.1, f897.1.2.2, 3, [], (.ref 890), .none, .none, (.str "cachetools" 1128), none, (.ref 896), .none, 0⟩), (List.toArray [])⟩
noncomputable def o898 : Obj := ⟨(.type "tuple"), none, (.seq (List.toArray [(.ref 742)]) 0), (List.toArray [])⟩
noncomputable def o904 : Obj := ⟨(.type "code"), none, (.fields (List.toArray [(.str "__delitem__" 1402), (.str "LFUCache.__delitem__" 1403), (.str "/claim/cut.py" 1404), (.int 526 0), (.int 3 0), (.int 0 0), (.int 0 0), (.int 3 0), (.ref 899), (.bool true), (.int 273 0), (.ref 900), .none, (.ref 901), (.ref 902), (.ref 903), (.int 1409 0), (.int 526 0), (.str "/claim/cut.py" 1410)])), (List.toArray [])⟩
@[reducible] noncomputable def f905 : { x : Arguments × List Stmt × Scope // x = parts (nth (inner (nth PySem.Challenge.pw_ki0004_01.main.body 32)) 4) } := ⟨_, by conv => rhs; whnf⟩
noncomputable def o905 : Obj := ⟨(.type "function"), none, (.func ⟨"__delitem__", "LFUCache.__delitem__", f905.1.1, .stmts f905.1.2.1, f905.1.2.2, 3, [], (.ref 898), .none, .none, (.str "cachetools" 1128), none, (.ref 904), .none, 0⟩), (List.toArray [])⟩
noncomputable def o911 : Obj := ⟨(.type "code"), none, (.fields (List.toArray [(.str "popitem" 1412), (.str "LFUCache.popitem" 1413), (.str "/claim/cut.py" 1414), (.int 533 0), (.int 1 0), (.int 0 0), (.int 0 0), (.int 3 0), (.ref 906), (.bool true), (.int 273 0), (.ref 907), .none, (.ref 908), (.ref 909), (.ref 910), (.int 1420 0), (.int 533 0), (.str "/claim/cut.py" 1421)])), (List.toArray [])⟩
@[reducible] noncomputable def f912 : { x : Arguments × List Stmt × Scope // x = parts (nth (inner (nth PySem.Challenge.pw_ki0004_01.main.body 32)) 5) } := ⟨_, by conv => rhs; whnf⟩
noncomputable def o912 : Obj := ⟨(.type "function"), none, (.func ⟨"popitem", "LFUCache.popitem", f912.1.1, .stmts f912.1.2.1, f912.1.2.2, 3, [], .none, .none, .none, (.str "cachetools" 1128), none, (.ref 911), .none, 0⟩), (List.toArray [])⟩
noncomputable def o918 : Obj := ⟨(.type "code"), none, (.fields (List.toArray [(.str "clear" 1423), (.str "LFUCache.clear" 1424), (.str "/claim/cut.py" 1425), (.int 543 0), (.int 1 0), (.int 0 0), (.int 0 0), (.int 3 0), (.ref 913), (.bool true), (.int 273 0), (.ref 914), .none, (.ref 915), (.ref 916), (.ref 917), (.int 1428 0), (.int 543 0), (.str "/claim/cut.py" 1429)])), (List.toArray [])⟩
@[reducible] noncomputable def f919 : { x : Arguments × List Stmt × Scope // x = parts (nth (inner (nth PySem.Challenge.pw_ki0004_01.main.body 32)) 6) } := ⟨_, by conv => rhs; whnf⟩
noncomputable def o919 : Obj := ⟨(.type "function"), none, (.func ⟨"clear", "LFUCache.clear", f919.1.1, .stmts f919.1.2.1, f919.1.2.2, 3, [], .none, .none, .none, (.str "cachetools" 1128), none, (.ref 918), .none, 0⟩), (List.toArray [])⟩
noncomputable def o925 : Obj := ⟨(.type "code"), none, (.fields (List.toArray [(.str "__touch" 1431), (.str "LFUCache.__touch" 1432), (.str "/claim/cut.py" 1433), (.int 549 0), (.int 2 0), (.int 0 0), (.int 0 0), (.int 3 0), (.ref 920), (.bool true), (.int 273 0), (.ref 921), .none, (.ref 922), (.ref 923), (.ref 924), (.int 1438 0), (.int 549 0), (.str "/claim/cut.py" 1439)])), (List.toArray [])⟩
@[reducible] noncomputable def f926 : { x : Arguments × List Stmt × Scope // x = parts (nth (inner (nth PySem.Challenge.pw_ki0004_01.main.body 32)) 7) } := ⟨_, by conv => rhs; whnf⟩
noncomputable def o926 : Obj := ⟨(.type "function"), none, (.func ⟨"__touch", "LFUCache.__touch", f926.1.1, .stmts f926.1.2.1, f926.1.2.2, 3, [], .none, .none, .none, (.str "cachetools" 1128), none, (.ref 925), .none, 0⟩), (List.toArray [])⟩
noncomputable def o928 (P : Params) : Obj := ⟨(.type "dict"), none, (.dict (List.toArray [⟨(PyData.keyHash P "__module__"), (.str "__module__" 1314), (.str "cachetools" 1128)⟩, ⟨(PyData.keyHash P "__firstlineno__"), (.str "__firstlineno__" 1318), (.int 484 1317)⟩, ⟨(PyData.keyHash P "_Link"), (.str "_Link" 1366), (.ref 867)⟩, ⟨(PyData.keyHash P "__init__"), (.str "__init__" 1376), (.ref 881)⟩, ⟨(PyData.keyHash P "__getitem__"), (.str "__getitem__" 1387), (.ref 889)⟩, ⟨(PyData.keyHash P "__setitem__"), (.str "__setitem__" 1400), (.ref 897)⟩, ⟨(PyData.keyHash P "__delitem__"), (.str "__delitem__" 1411), (.ref 905)⟩, ⟨(PyData.keyHash P "popitem"), (.str "popitem" 1422), (.ref 912)⟩, ⟨(PyData.keyHash P "clear"), (.str "clear" 1430), (.ref 919)⟩, ⟨(PyData.keyHash P "_LFUCache__touch"), (.str "_LFUCache__touch" 1440), (.ref 926)⟩, ⟨(PyData.keyHash P "__static_attributes__"), (.str "__static_attributes__" 1443), (.ref 927)⟩, ⟨(PyData.keyHash P "__doc__"), (.str "__doc__" 1444), .none⟩]) 2), (List.toArray [])⟩
noncomputable def o929 : Obj := ⟨(.ref 89), none, (.cls ⟨"LFUCache", [(.ref 830)], [(.ref 929), (.ref 830), (.ref 695), (.ref 443), (.ref 255), (.ref 196), (.ref 166), (.ref 232), (.type "object")], 928, "LFUCache", true, [], [], false, none, false⟩), (List.toArray [(some (.ref 835)), none, (some (.str "LFUCache" 1307)), (some (.str "LFUCache" 1315)), (some (.builtin "object.__new__")), (some (.bool true))])⟩
noncomputable def o937 : Obj := ⟨(.type "code"), none, (.fields (List.toArray [(.str "_law_size" 1449), (.str "_law_size" 1450), (.str "/claim/cut.py" 1451), (.int 566 0), (.int 1 0), (.int 0 0), (.int 0 0), (.int 3 0), (.ref 932), (.bool true), (.int 273 0), (.ref 933), .none, (.ref 934), (.ref 935), (.ref 936), (.int 1453 0), (.int 566 0), (.str "/claim/cut.py" 1454)])), (List.toArray [])⟩
@[reducible] noncomputable def f938 : { x : Arguments × List Stmt × Scope // x = parts (nth PySem.Challenge.pw_ki0004_01.main.body 34) } := ⟨_, by conv => rhs; whnf⟩
noncomputable def o938 : Obj := ⟨(.type "function"), none, (.func ⟨"_law_size", "_law_size", f938.1.1, .stmts f938.1.2.1, f938.1.2.2, 3, [], .none, .none, .none, (.str "law_ki0004_01" 1447), none, (.ref 937), .none, 0⟩), (List.toArray [])⟩
noncomputable def o942 : Obj := ⟨(.type "code"), none, (.fields (List.toArray [(.str "_law_without" 1456), (.str "_law_without" 1457), (.str "/claim/cut.py" 1458), (.int 568 0), (.int 2 0), (.int 0 0), (.int 0 0), (.int 3 0), (.ref 939), (.bool true), (.int 273 0), (.ref 940), .none, .none, .none, (.ref 941), (.int 1459 0), (.int 568 0), (.str "/claim/cut.py" 1460)])), (List.toArray [])⟩
@[reducible] noncomputable def f943 : { x : Arguments × List Stmt × Scope // x = parts (nth PySem.Challenge.pw_ki0004_01.main.body 35) } := ⟨_, by conv => rhs; whnf⟩
noncomputable def o943 : Obj := ⟨(.type "function"), none, (.func ⟨"_law_without", "_law_without", f943.1.1, .stmts f943.1.2.1, f943.1.2.2, 3, [], .none, .none, .none, (.str "law_ki0004_01" 1447), none, (.ref 942), .none, 0⟩), (List.toArray [])⟩
noncomputable def o949 : Obj := ⟨(.type "code"), none, (.fields (List.toArray [(.str "_law_value" 1462), (.str "_law_value" 1463), (.str "/claim/cut.py" 1464), (.int 570 0), (.int 2 0), (.int 0 0), (.int 0 0), (.int 3 0), (.ref 944), (.bool true), (.int 273 0), (.ref 945), .none, (.ref 946), (.ref 947), (.ref 948), (.int 1468 0), (.int 570 0), (.str "/claim/cut.py" 1469)])), (List.toArray [])⟩
@[reducible] noncomputable def f950 : { x : Arguments × List Stmt × Scope // x = parts (nth PySem.Challenge.pw_ki0004_01.main.body 36) } := ⟨_, by conv => rhs; whnf⟩
noncomputable def o950 : Obj := ⟨(.type "function"), none, (.func ⟨"_law_value", "_law_value", f950.1.1, .stmts f950.1.2.1, f950.1.2.2, 3, [], .none, .none, .none, (.str "law_ki0004_01" 1447), none, (.ref 949), .none, 0⟩), (List.toArray [])⟩
noncomputable def o954 : Obj := ⟨(.type "code"), none, (.fields (List.toArray [(.str "_law_room" 1471), (.str "_law_room" 1472), (.str "/claim/cut.py" 1473), (.int 575 0), (.int 2 0), (.int 0 0), (.int 0 0), (.int 3 0), (.ref 951), (.bool true), (.int 273 0), (.ref 952), .none, .none, .none, (.ref 953), (.int 1474 0), (.int 575 0), (.str "/claim/cut.py" 1475)])), (List.toArray [])⟩
@[reducible] noncomputable def f955 : { x : Arguments × List Stmt × Scope // x = parts (nth PySem.Challenge.pw_ki0004_01.main.body 37) } := ⟨_, by conv => rhs; whnf⟩
noncomputable def o955 : Obj := ⟨(.type "function"), none, (.func ⟨"_law_room", "_law_room", f955.1.1, .stmts f955.1.2.1, f955.1.2.2, 3, [], .none, .none, .none, (.str "law_ki0004_01" 1447), none, (.ref 954), .none, 0⟩), (List.toArray [])⟩
noncomputable def o959 : Obj := ⟨(.type "code"), none, (.fields (List.toArray [(.str "_law_counted" 1477), (.str "_law_counted" 1478), (.str "/claim/cut.py" 1479), (.int 577 0), (.int 3 0), (.int 0 0), (.int 0 0), (.int 3 0), (.ref 956), (.bool true), (.int 273 0), (.ref 957), .none, .none, .none, (.ref 958), (.int 1480 0), (.int 577 0), (.str "/claim/cut.py" 1481)])), (List.toArray [])⟩
@[reducible] noncomputable def f960 : { x : Arguments × List Stmt × Scope // x = parts (nth PySem.Challenge.pw_ki0004_01.main.body 38) } := ⟨_, by conv => rhs; whnf⟩
noncomputable def o960 : Obj := ⟨(.type "function"), none, (.func ⟨"_law_counted", "_law_counted", f960.1.1, .stmts f960.1.2.1, f960.1.2.2, 3, [], .none, .none, .none, (.str "law_ki0004_01" 1447), none, (.ref 959), .none, 0⟩), (List.toArray [])⟩
noncomputable def o966 : Obj := ⟨(.type "code"), none, (.fields (List.toArray [(.str "_law_least" 1483), (.str "_law_least" 1484), (.str "/claim/cut.py" 1485), (.int 581 0), (.int 1 0), (.int 0 0), (.int 0 0), (.int 3 0), (.ref 961), (.bool true), (.int 273 0), (.ref 962), .none, (.ref 963), (.ref 964), (.ref 965), (.int 1489 0), (.int 581 0), (.str "/claim/cut.py" 1490)])), (List.toArray [])⟩
@[reducible] noncomputable def f967 : { x : Arguments × List Stmt × Scope // x = parts (nth PySem.Challenge.pw_ki0004_01.main.body 39) } := ⟨_, by conv => rhs; whnf⟩
noncomputable def o967 : Obj := ⟨(.type "function"), none, (.func ⟨"_law_least", "_law_least", f967.1.1, .stmts f967.1.2.1, f967.1.2.2, 3, [], .none, .none, .none, (.str "law_ki0004_01" 1447), none, (.ref 966), .none, 0⟩), (List.toArray [])⟩
noncomputable def o971 : Obj := ⟨(.type "code"), none, (.fields (List.toArray [(.str "_law_put" 1492), (.str "_law_put" 1493), (.str "/claim/cut.py" 1494), (.int 587 0), (.int 7 0), (.int 0 0), (.int 0 0), (.int 3 0), (.ref 968), (.bool true), (.int 273 0), (.ref 969), .none, .none, .none, (.ref 970), (.int 1495 0), (.int 587 0), (.str "/claim/cut.py" 1496)])), (List.toArray [])⟩
@[reducible] noncomputable def f972 : { x : Arguments × List Stmt × Scope // x = parts (nth PySem.Challenge.pw_ki0004_01.main.body 40) } := ⟨_, by conv => rhs; whnf⟩
noncomputable def o972 : Obj := ⟨(.type "function"), none, (.func ⟨"_law_put", "_law_put", f972.1.1, .stmts f972.1.2.1, f972.1.2.2, 3, [], .none, .none, .none, (.str "law_ki0004_01" 1447), none, (.ref 971), .none, 0⟩), (List.toArray [])⟩
noncomputable def o978 : Obj := ⟨(.type "code"), none, (.fields (List.toArray [(.str "_law_deed" 1498), (.str "_law_deed" 1499), (.str "/claim/cut.py" 1500), (.int 600 0), (.int 4 0), (.int 0 0), (.int 0 0), (.int 3 0), (.ref 973), (.bool true), (.int 273 0), (.ref 974), .none, (.ref 975), (.ref 976), (.ref 977), (.int 1505 0), (.int 600 0), (.str "/claim/cut.py" 1506)])), (List.toArray [])⟩
@[reducible] noncomputable def f979 : { x : Arguments × List Stmt × Scope // x = parts (nth PySem.Challenge.pw_ki0004_01.main.body 41) } := ⟨_, by conv => rhs; whnf⟩
noncomputable def o979 : Obj := ⟨(.type "function"), none, (.func ⟨"_law_deed", "_law_deed", f979.1.1, .stmts f979.1.2.1, f979.1.2.2, 3, [], .none, .none, .none, (.str "law_ki0004_01" 1447), none, (.ref 978), .none, 0⟩), (List.toArray [])⟩
noncomputable def o983 : Obj := ⟨(.type "code"), none, (.fields (List.toArray [(.str "_law_due" 1508), (.str "_law_due" 1509), (.str "/claim/cut.py" 1510), (.int 628 0), (.int 8 0), (.int 0 0), (.int 0 0), (.int 3 0), (.ref 980), (.bool true), (.int 273 0), (.ref 981), .none, .none, .none, (.ref 982), (.int 1511 0), (.int 628 0), (.str "/claim/cut.py" 1512)])), (List.toArray [])⟩
@[reducible] noncomputable def f984 : { x : Arguments × List Stmt × Scope // x = parts (nth PySem.Challenge.pw_ki0004_01.main.body 42) } := ⟨_, by conv => rhs; whnf⟩
noncomputable def o984 : Obj := ⟨(.type "function"), none, (.func ⟨"_law_due", "_law_due", f984.1.1, .stmts f984.1.2.1, f984.1.2.2, 3, [], .none, .none, .none, (.str "law_ki0004_01" 1447), none, (.ref 983), .none, 0⟩), (List.toArray [])⟩
noncomputable def o988 : Obj := ⟨(.type "code"), none, (.fields (List.toArray [(.str "law" 1514), (.str "law" 1515), (.str "/claim/cut.py" 1516), (.int 650 0), (.int 1 0), (.int 0 0), (.int 0 0), (.int 3 0), (.ref 985), (.bool true), (.int 273 0), (.ref 986), .none, .none, .none, (.ref 987), (.int 1517 0), (.int 650 0), (.str "/claim/cut.py" 1518)])), (List.toArray [])⟩
@[reducible] noncomputable def f989 : { x : Arguments × List Stmt × Scope // x = parts (nth PySem.Challenge.pw_ki0004_01.main.body 43) } := ⟨_, by conv => rhs; whnf⟩
noncomputable def o989 : Obj := ⟨(.type "function"), none, (.func ⟨"law", "law", f989.1.1, .stmts f989.1.2.1, f989.1.2.2, 3, [], .none, .none, .none, (.str "law_ki0004_01" 1447), none, (.ref 988), .none, 0⟩), (List.toArray [])⟩
noncomputable def K (P : Params) : Frag := [(nat_lit 2, o2 P), (nat_lit 3, o3 P), (nat_lit 55, o55 P), (nat_lit 56, o56), (nat_lit 88, o88 P), (nat_lit 89, o89), (nat_lit 165, o165 P), (nat_lit 166, o166), (nat_lit 195, o195 P), (nat_lit 196, o196), (nat_lit 231, o231 P), (nat_lit 232, o232), (nat_lit 254, o254 P), (nat_lit 255, o255), (nat_lit 442, o442 P), (nat_lit 443, o443), (nat_lit 694, o694 P), (nat_lit 695, o695), (nat_lit 706, o706), (nat_lit 707, o707), (nat_lit 713, o713), (nat_lit 714, o714), (nat_lit 727, o727), (nat_lit 728, o728), (nat_lit 734, o734), (nat_lit 735, o735), (nat_lit 741, o741), (nat_lit 742, o742), (nat_lit 748, o748), (nat_lit 749, o749), (nat_lit 755, o755), (nat_lit 756, o756), (nat_lit 762, o762), (nat_lit 763, o763), (nat_lit 769, o769), (nat_lit 770, o770), (nat_lit 771, o771), (nat_lit 777, o777), (nat_lit 778, o778), (nat_lit 779, o779), (nat_lit 785, o785), (nat_lit 786, o786), (nat_lit 787, o787), (nat_lit 793, o793), (nat_lit 794, o794), (nat_lit 800, o800), (nat_lit 801, o801), (nat_lit 807, o807), (nat_lit 808, o808), (nat_lit 809, o809), (nat_lit 815, o815), (nat_lit 816, o816), (nat_lit 817, o817), (nat_lit 823, o823), (nat_lit 824, o824), (nat_lit 826, o826), (nat_lit 829, o829 P), (nat_lit 830, o830), (nat_lit 831, o831), (nat_lit 832, o832), (nat_lit 855, o855), (nat_lit 856, o856), (nat_lit 862, o862), (nat_lit 863, o863), (nat_lit 866, o866 P), (nat_lit 867, o867), (nat_lit 868, o868), (nat_lit 869, o869), (nat_lit 870, o870), (nat_lit 871, o871), (nat_lit 874, o874), (nat_lit 880, o880), (nat_lit 881, o881), (nat_lit 882, o882), (nat_lit 888, o888), (nat_lit 889, o889), (nat_lit 890, o890), (nat_lit 896, o896), (nat_lit 897, o897), (nat_lit 898, o898), (nat_lit 904, o904), (nat_lit 905, o905), (nat_lit 911, o911), (nat_lit 912, o912), (nat_lit 918, o918), (nat_lit 919, o919), (nat_lit 925, o925), (nat_lit 926, o926), (nat_lit 928, o928 P), (nat_lit 929, o929), (nat_lit 937, o937), (nat_lit 938, o938), (nat_lit 942, o942), (nat_lit 943, o943), (nat_lit 949, o949), (nat_lit 950, o950), (nat_lit 954, o954), (nat_lit 955, o955), (nat_lit 959, o959), (nat_lit 960, o960), (nat_lit 966, o966), (nat_lit 967, o967), (nat_lit 971, o971), (nat_lit 972, o972), (nat_lit 978, o978), (nat_lit 979, o979), (nat_lit 983, o983), (nat_lit 984, o984), (nat_lit 988, o988), (nat_lit 989, o989)]
def addrs : List Nat := [nat_lit 2, nat_lit 3, nat_lit 55, nat_lit 56, nat_lit 88, nat_lit 89, nat_lit 165, nat_lit 166, nat_lit 195, nat_lit 196, nat_lit 231, nat_lit 232, nat_lit 254, nat_lit 255, nat_lit 442, nat_lit 443, nat_lit 694, nat_lit 695, nat_lit 706, nat_lit 707, nat_lit 713, nat_lit 714, nat_lit 727, nat_lit 728, nat_lit 734, nat_lit 735, nat_lit 741, nat_lit 742, nat_lit 748, nat_lit 749, nat_lit 755, nat_lit 756, nat_lit 762, nat_lit 763, nat_lit 769, nat_lit 770, nat_lit 771, nat_lit 777, nat_lit 778, nat_lit 779, nat_lit 785, nat_lit 786, nat_lit 787, nat_lit 793, nat_lit 794, nat_lit 800, nat_lit 801, nat_lit 807, nat_lit 808, nat_lit 809, nat_lit 815, nat_lit 816, nat_lit 817, nat_lit 823, nat_lit 824, nat_lit 826, nat_lit 829, nat_lit 830, nat_lit 831, nat_lit 832, nat_lit 855, nat_lit 856, nat_lit 862, nat_lit 863, nat_lit 866, nat_lit 867, nat_lit 868, nat_lit 869, nat_lit 870, nat_lit 871, nat_lit 874, nat_lit 880, nat_lit 881, nat_lit 882, nat_lit 888, nat_lit 889, nat_lit 890, nat_lit 896, nat_lit 897, nat_lit 898, nat_lit 904, nat_lit 905, nat_lit 911, nat_lit 912, nat_lit 918, nat_lit 919, nat_lit 925, nat_lit 926, nat_lit 928, nat_lit 929, nat_lit 937, nat_lit 938, nat_lit 942, nat_lit 943, nat_lit 949, nat_lit 950, nat_lit 954, nat_lit 955, nat_lit 959, nat_lit 960, nat_lit 966, nat_lit 967, nat_lit 971, nat_lit 972, nat_lit 978, nat_lit 979, nat_lit 983, nat_lit 984, nat_lit 988, nat_lit 989]

end Mine
end
section
open PySem PySem.W PySem.Calls PyProof.Rows
set_option Elab.async false
set_option maxRecDepth 100000
set_option linter.unusedVariables false
namespace Mine

abbrev Loc := Str → Option Value
abbrev FP := List (Addr × Obj)

/-- an exceptional end that leaves all but heap and tokens as they were -/
abbrev XS (X : Value → Heap → Prop) (s : Shared) : Value → Shared → Prop := fun e s' => ∃ h' t', s' = { s with heap := h', toks := t' } ∧ X e h'

/-- from a state where the frame holds `m` and the ledger `fp`, the tree ends, and what it ends in is `Q` of the new ones -/
@[irreducible] def Op (prog : Program) (w : World) (A : Around) (g : Heap) (L : Addr) (E : Value → Heap → Prop) {α : Type} (t : Sem α)
    (Q : α → Loc → FP → Prop) (m : Loc) (fp : FP) : Prop :=
  ∀ s : Shared, Fr g L s.heap m → News g L s.heap fp →
    wpAny (model prog w) A t (fun a s' => ∃ h' t' m' fp', s' = { s with heap := h', toks := t' } ∧ Fr g L h' m' ∧ News g L h' fp' ∧ Q a m' fp') (XS E s) s

section
variable {prog : Program} {w : World} {A : Around} {g : Heap} {L : Addr} {E : Value → Heap → Prop} {α β : Type} {m : Loc} {fp : FP}

theorem Op.intro {t : Sem α} {Q : α → Loc → FP → Prop} (h : ∀ s : Shared, Fr g L s.heap m → News g L s.heap fp →
    wpAny (model prog w) A t (fun a s' => ∃ h' t' m' fp', s' = { s with heap := h', toks := t' } ∧ Fr g L h' m' ∧ News g L h' fp' ∧ Q a m' fp') (XS E s) s) : Op prog w A g L E t Q m fp := by unfold Op; exact h
theorem Op.run {t : Sem α} {Q : α → Loc → FP → Prop} (h : Op prog w A g L E t Q m fp) : ∀ s : Shared, Fr g L s.heap m → News g L s.heap fp →
    wpAny (model prog w) A t (fun a s' => ∃ h' t' m' fp', s' = { s with heap := h', toks := t' } ∧ Fr g L h' m' ∧ News g L h' fp' ∧ Q a m' fp') (XS E s) s := by unfold Op at h; exact h

theorem Op.use {t : Sem α} {Q : α → Loc → FP → Prop} (h : Op prog w A g L E t Q m fp) {s s₀ : Shared} (F : Fr g L s.heap m) (N : News g L s.heap fp)
    {Q' : α → Shared → Prop} (k : ∀ a h' t' m' fp', Fr g L h' m' → News g L h' fp' → Q a m' fp' → Q' a { s with heap := h', toks := t' }) (tie : XS E s = XS E s₀ := by rfl) :
    wpAny (model prog w) A t Q' (XS E s₀) s := by
  rw [← tie]
  exact wpAny_mono (h.run s F N) (fun a s' ⟨h', t', m', fp', e, F', N', q⟩ => by subst e; exact k a h' t' m' fp' F' N' q) fun _ _ x => x

theorem Op.mono {t : Sem α} {Q Q' : α → Loc → FP → Prop} (h : Op prog w A g L E t Q m fp) (k : ∀ a m fp, Q a m fp → Q' a m fp) :
    Op prog w A g L E t Q' m fp := .intro fun _ F N => h.use F N fun a h' t' m' fp' F' N' q => ⟨h', t', m', fp', rfl, F', N', k _ _ _ q⟩

theorem Op.weaken {t : Sem α} {Q : α → Loc → FP → Prop} {fp' : FP} (h : Op prog w A g L E t Q m fp') (k : ∀ p ∈ fp', p ∈ fp) :
    Op prog w A g L E t Q m fp := .intro fun s F N => h.run s F fun p hp => N p (k p hp)

/-- a rule of the kit, lifted: the tree's own rule wants the parts' rules -/
theorem Op.of {t : Sem α} {Q : α → Loc → FP → Prop}
    (h : ∀ s, Fr g L s.heap m → News g L s.heap fp → ∀ Q' : α → Shared → Prop,
      (∀ a h' t' m' fp', Fr g L h' m' → News g L h' fp' → Q a m' fp' → Q' a { s with heap := h', toks := t' }) → wpAny (model prog w) A t Q' (XS E s) s) :
    Op prog w A g L E t Q m fp := .intro fun s F N => h s F N _ fun a h' t' m' fp' F' N' q => ⟨h', t', m', fp', rfl, F', N', q⟩

end

-- what is still to come, as named continuations: they keep the terms of long walks small
section
variable (prog : Program) (w : World) (A : Around) (g : Heap) (L : Addr) (E : Value → Heap → Prop) (env : Env)
@[reducible] def seqK (rest : List Stmt) (Q : Flow → Loc → FP → Prop) : Flow → Loc → FP → Prop := fun f m fp => match f with | .next => Op prog w A g L E (execs rest env) Q m fp | f => Q f m fp
@[reducible] def retK (Q : Flow → Loc → FP → Prop) : Value → Loc → FP → Prop := fun v => Q (.ret v)
@[reducible] def nextK {α : Type} (Q : Flow → Loc → FP → Prop) : α → Loc → FP → Prop := fun _ => Q .next
@[reducible] def truthK (Q : Bool → Loc → FP → Prop) : Value → Loc → FP → Prop := fun c => Op prog w A g L E (truthy c) Q
@[reducible] def cmp2K (op : CmpOp) (a : Value) (Q : Value → Loc → FP → Prop) : Value → Loc → FP → Prop := fun b => Op prog w A g L E (compareOp op a b) Q
@[reducible] def cmp1K (op : CmpOp) (r : PySem.Expr) (Q : Value → Loc → FP → Prop) : Value → Loc → FP → Prop := fun a => Op prog w A g L E (eval r env) (cmp2K prog w A g L E op a Q)
@[reducible] def bin2K (op : Operator) (a : Value) (Q : Value → Loc → FP → Prop) : Value → Loc → FP → Prop := fun b => Op prog w A g L E (binaryOp op a b) Q
@[reducible] def bin1K (op : Operator) (r : PySem.Expr) (Q : Value → Loc → FP → Prop) : Value → Loc → FP → Prop := fun a => Op prog w A g L E (eval r env) (bin2K prog w A g L E op a Q)
@[reducible] def attrK (attr : Str) (Q : Value → Loc → FP → Prop) : Value → Loc → FP → Prop := fun o => Op prog w A g L E (getAttr o attr true) Q
@[reducible] def sub2K (value slice : PySem.Expr) (o : Value) (Q : Value → Loc → FP → Prop) : Value → Loc → FP → Prop := fun i => Op prog w A g L E (subscriptTail value slice o i) Q
@[reducible] def sub1K (value slice : PySem.Expr) (Q : Value → Loc → FP → Prop) : Value → Loc → FP → Prop := fun o => Op prog w A g L E (eval slice env) (sub2K prog w A g L E value slice o Q)
@[reducible] def asgK (x : Str) (Q : Flow → Loc → FP → Prop) : Value → Loc → FP → Prop := fun v => Op prog w A g L E (storeName env x v) (nextK Q)
end

section
variable {prog : Program} {w : World} {A : Around} {g : Heap} {L : Addr} {E : Value → Heap → Prop} {m : Loc} {fp : FP} {env : Env}

theorem o_nil {Q : Flow → Loc → FP → Prop} (h : Q .next m fp) : Op prog w A g L E (execs [] env) Q m fp :=
  Op.of fun s F N _ k => wpAny_execs_nil (k _ s.heap s.toks m fp F N h)

theorem o_cons {st : Stmt} {rest : List Stmt} {Q : Flow → Loc → FP → Prop}
    (h : Op prog w A g L E (exec st env) (seqK prog w A g L E env rest Q) m fp) :
    Op prog w A g L E (execs (st :: rest) env) Q m fp :=
  Op.of fun s F N Q' k => wpAny_execs_cons (h.use F N fun f h' t' m' fp' F' N' q => by
    cases f with
    | next => exact q.use F' N' k
    | brk => exact k _ _ _ _ _ F' N' q
    | cont => exact k _ _ _ _ _ F' N' q
    | ret v => exact k _ _ _ _ _ F' N' q)

theorem o_int {i : Int} {k : Nat} {pos : Pos} {Q : Value → Loc → FP → Prop} (h : ∀ t, Q (.int i t) m fp) :
    Op prog w A g L E (eval (.Constant (.int i) k pos) env) Q m fp :=
  Op.of fun s F N _ k => wpAny_Constant_int (k _ s.heap (s.toks + 1) m fp F N (h _))
theorem o_str {x : Str} {k : Nat} {pos : Pos} {Q : Value → Loc → FP → Prop} (h : ∀ t, Q (.str x t) m fp) :
    Op prog w A g L E (eval (.Constant (.str x) k pos) env) Q m fp :=
  Op.of fun s F N _ k => wpAny_Constant_str (k _ s.heap (s.toks + 1) m fp F N (h _))
theorem o_none {k : Nat} {pos : Pos} {Q : Value → Loc → FP → Prop} (h : Q .none m fp) :
    Op prog w A g L E (eval (.Constant .none k pos) env) Q m fp :=
  Op.of fun s F N _ k => wpAny_Constant_none (k _ s.heap s.toks m fp F N h)
theorem o_ret {e : PySem.Expr} {pos : Pos} {Q : Flow → Loc → FP → Prop} (h : Op prog w A g L E (eval e env) (retK Q) m fp) :
    Op prog w A g L E (exec (.Return (some e) pos) env) Q m fp :=
  Op.of fun s F N _ k => wpAny_Return_some (h.use F N fun v h' t' m' fp' F' N' q => k _ _ _ _ _ F' N' q)
theorem o_retNone {pos : Pos} {Q : Flow → Loc → FP → Prop} (h : Q (.ret .none) m fp) : Op prog w A g L E (exec (.Return none pos) env) Q m fp :=
  Op.of fun s F N _ k => wpAny_Return_none (k _ s.heap s.toks m fp F N h)

theorem o_compare {l r : PySem.Expr} {op : CmpOp} {pos : Pos} {Q : Value → Loc → FP → Prop}
    (h : Op prog w A g L E (eval l env) (cmp1K prog w A g L E env op r Q) m fp)
    (hm : behindInMarks op r = false := by with_unfolding_all rfl) : Op prog w A g L E (eval (.Compare l [op] [r] pos) env) Q m fp :=
  Op.of fun s F N _ k => wpAny_Compare1 (h.use F N fun _ _ _ _ _ F1 N1 q1 => q1.use F1 N1 fun _ _ _ _ _ F2 N2 q2 => q2.use F2 N2 k) hm
theorem o_isCompare {l r : PySem.Expr} {op : CmpOp} {pos : Pos} {whole : Sem Value} {Q : Bool → Loc → FP → Prop}
    (h : Op prog w A g L E (eval l env) (cmp1K prog w A g L E env op r (truthK prog w A g L E Q)) m fp)
    (hm : behindInMarks op r = false := by with_unfolding_all rfl) : Op prog w A g L E (isTrue (.Compare l [op] [r] pos) env whole) Q m fp :=
  Op.of fun s F N _ k => wpAny_isTrue_Compare1 (h.use F N fun _ _ _ _ _ F1 N1 q1 => q1.use F1 N1 fun _ _ _ _ _ F2 N2 q2 => q2.use F2 N2 fun _ _ _ _ _ F3 N3 q3 => q3.use F3 N3 k) hm
theorem o_binop {l r : PySem.Expr} {op : Operator} {pos : Pos} {Q : Value → Loc → FP → Prop}
    (h : Op prog w A g L E (eval l env) (bin1K prog w A g L E env op r Q) m fp) :
    Op prog w A g L E (eval (.BinOp l op r pos) env) Q m fp :=
  Op.of fun s F N _ k => wpAny_BinOp (h.use F N fun _ _ _ _ _ F1 N1 q1 => q1.use F1 N1 fun _ _ _ _ _ F2 N2 q2 => q2.use F2 N2 k)
theorem o_if {test : PySem.Expr} {body orelse : List Stmt} {pos : Pos} {Q : Flow → Loc → FP → Prop}
    (h : Op prog w A g L E (isTrue test env (eval test env)) (fun b m fp => if b then Op prog w A g L E (execs body env) Q m fp else Op prog w A g L E (execs orelse env) Q m fp) m fp) :
    Op prog w A g L E (exec (.If test body orelse pos) env) Q m fp :=
  Op.of fun s F N _ k => wpAny_If (h.use F N fun b _ _ _ _ F1 N1 q1 => by
    cases b with
    | true => exact Op.use (show Op prog w A g L E (execs body env) Q _ _ from q1) F1 N1 k
    | false => exact Op.use (show Op prog w A g L E (execs orelse env) Q _ _ from q1) F1 N1 k)
theorem o_attr {value : PySem.Expr} {attr : Str} {pos : Pos} {Q : Value → Loc → FP → Prop}
    (h : Op prog w A g L E (eval value env) (attrK prog w A g L E attr Q) m fp)
    (he : eval (.Attribute value attr pos) env = (do
      let o ← eval value env
      standAt pos.atName
      let r ← holding [o] (getAttr o attr true)
      letTemporaryGo value o r
      Pure.pure r) := by with_unfolding_all rfl) : Op prog w A g L E (eval (.Attribute value attr pos) env) Q m fp :=
  Op.of fun s F N _ k => Attribute_any_ (h.use F N fun _ _ _ _ _ F1 N1 q1 => q1.use F1 N1 k) he
theorem o_subscript {value slice : PySem.Expr} {pos : Pos} {Q : Value → Loc → FP → Prop}
    (h : Op prog w A g L E (eval value env) (sub1K prog w A g L E env value slice Q) m fp) :
    Op prog w A g L E (eval (.Subscript value slice pos) env) Q m fp :=
  Op.of fun s F N _ k => Subscript_ (h.use F N fun _ _ _ _ _ F1 N1 q1 => q1.use F1 N1 fun _ _ _ _ _ F2 N2 q2 => q2.use F2 N2 k)
theorem o_assign {x : Str} {pos' pos : Pos} {value : PySem.Expr} {Q : Flow → Loc → FP → Prop}
    (h : Op prog w A g L E (eval value env) (asgK prog w A g L E env x Q) m fp)
    (hs : swapsWith value (some (.Name x pos')) pos.line env = Pure.pure false := by rfl) :
    Op prog w A g L E (exec (.Assign [.Name x pos'] value pos) env) Q m fp :=
  Op.of fun s F N _ k => wpAny_Assign_Name (h.use F N fun _ _ _ _ _ F1 N1 q1 => q1.use F1 N1 fun _ => k _) hs
theorem o_truthyBool {b : Bool} {Q : Bool → Loc → FP → Prop} (h : Q b m fp) : Op prog w A g L E (truthy (.bool b)) Q m fp :=
  Op.of fun s F N _ k => wpAny_truthy_bool (k _ s.heap s.toks m fp F N h)
end
end Mine
end
section
open PySem PySem.W PySem.Calls PyProof.Rows
set_option Elab.async false
set_option maxRecDepth 100000
set_option linter.unusedVariables false
namespace Mine

/-- what a frame stands on -/
structure Cx (w : World) (base : Heap) (outer : List Env) (g : Heap) (L : Addr) (A : Around) (env : Env) (n : Nat) : Prop where
  X : (K w.params).In g
  T : ∃ p loose mg mb, TopRead p loose mg mb g
  B : ∃ A₀, Below A₀ base outer g
  hA : A.frames = some (env :: outer)
  hf : env.frame = some L
  hke : env.scope.kind = .function
  depth : A.depth + n ≤ 600
  units : A.units + 20 * n ≤ 6000
  handled : A.handled = none
  XB : (K w.params).In base
  TB : ∃ p loose mg mb, TopRead p loose mg mb base

def retOf : Flow → Value
  | .ret v => v
  | _ => .none

/-- what a call's body leaves to its caller -/
@[reducible] def backK (Q : Value → Loc → FP → Prop) (m : Loc) : Flow → Loc → FP → Prop := fun fl _ fp' => Q (retOf fl) m fp'
def put (d : Addr) (o : Obj) (fp : FP) : FP := (d, o) :: fp.filter fun p => p.1 != d
theorem put_self {d : Addr} {o : Obj} {fp : FP} : (d, o) ∈ put d o fp := .head _
theorem put_ne {d x : Addr} {o ox : Obj} {fp : FP} (h : (x, ox) ∈ fp) (hn : x ≠ d) : (x, ox) ∈ put d o fp :=
  .tail _ (List.mem_filter.mpr ⟨h, by simpa using hn⟩)
theorem mem_put {d : Addr} {o : Obj} {fp : FP} {p : Addr × Obj} (h : p ∈ put d o fp) : p = (d, o) ∨ (p ∈ fp ∧ p.1 ≠ d) := by
  rcases List.mem_cons.mp h with h | h
  · exact .inl h
  · obtain ⟨a, b⟩ := List.mem_filter.mp h
    exact .inr ⟨a, by simpa using b⟩
theorem put_upd {d : Addr} {o o' : Obj} {fp : FP} : Upd d o o' ((d, o) :: fp.filter fun p => p.1 != d) (put d o' fp) :=
  .head fun p hp => by simpa using (List.mem_filter.mp hp).2
theorem put_sub {d : Addr} {o : Obj} {fp : FP} (h : (d, o) ∈ fp) : ∀ p ∈ ((d, o) :: fp.filter fun p => p.1 != d), p ∈ fp := fun p hp => by
  rcases List.mem_cons.mp hp with rfl | hp
  · exact h
  · exact (List.mem_filter.mp hp).1
theorem News.sub {g h : Heap} {L : Addr} {fp fp' : FP} (N : News g L h fp) (k : ∀ p ∈ fp', p ∈ fp) : News g L h fp' := fun p hp => N p (k p hp)

section
variable {prog : Program} {w : World} {A : Around} {g base : Heap} {outer : List Env} {L : Addr} {E : Value → Heap → Prop} {m : Loc} {fp : FP} {n : Nat}
  {qn : Str} {sc : Scope} {fa : Addr} {cd : Value} {cl : List (Str × Addr)}

theorem o_loc {x : Str} {pos : Pos} {v : Value} {Q : Value → Loc → FP → Prop} (hv : m x = some v) (h : Q v m fp)
    (hk : sc.kind = .function := by rfl) (hx : (envX qn sc L fa cd cl).kindOf x = some .local := by rfl) (hd : (x == ("__debug__" : Str)) = false := by decide) :
    Op prog w A g L E (eval (.Name x pos) (envX qn sc L fa cd cl)) Q m fp :=
  Op.of fun s F N _ k => nameX_L F hv (k _ s.heap s.toks m fp F N h) hk hx hd
theorem o_glob {env : Env} {x : Str} {pos : Pos} {v : Value} {Q : Value → Loc → FP → Prop} (cx : Cx w base outer g L A env n) (e : nsIn (K w.params) mainGlobals x = some (some v)) (h : Q v m fp)
    (hk : sc.kind = .function := by rfl) (hx : (envX qn sc L fa cd cl).kindOf x = some .globalImplicit := by rfl) (hd : (x == ("__debug__" : Str)) = false := by decide) :
    Op prog w A g L E (eval (.Name x pos) (envX qn sc L fa cd cl)) Q m fp :=
  Op.of fun s F N _ k => let ⟨_, _, _, _, T⟩ := cx.T; nameX_K F cx.X T e (k _ s.heap s.toks m fp F N h) hk hx hd
theorem o_built {env : Env} {x : Str} {pos : Pos} {v : Value} {Q : Value → Loc → FP → Prop} (cx : Cx w base outer g L A env n) (e : nsIn (K w.params) mainGlobals x = some none)
    (hv : bootBuiltins x = some v) (hn : x ≠ "__name__") (h : Q v m fp)
    (hk : sc.kind = .function := by rfl) (hx : (envX qn sc L fa cd cl).kindOf x = some .globalImplicit := by rfl) (hd : (x == ("__debug__" : Str)) = false := by decide) :
    Op prog w A g L E (eval (.Name x pos) (envX qn sc L fa cd cl)) Q m fp :=
  Op.of fun s F N _ k => let ⟨_, _, _, _, T⟩ := cx.T; nameX_B F cx.X T e hv hn (k _ s.heap s.toks m fp F N h) hk hx hd
theorem o_cell {x : Str} {pos : Pos} {v : Value} {c : Addr} {o : Obj} {Q : Value → Loc → FP → Prop} (hc : cl.lookup x = some c) (hm : (c, o) ∈ fp) (hd : o.data = .cell (some v)) (h : Q v m fp)
    (hk : sc.kind = .function := by rfl) (hx : (envX qn sc L fa cd cl).kindOf x = some .cell := by rfl) (hb : (x == ("__debug__" : Str)) = false := by decide) :
    Op prog w A g L E (eval (.Name x pos) (envX qn sc L fa cd cl)) Q m fp :=
  Op.of fun s F N _ k => nameX_C N hc hm hd (k _ s.heap s.toks m fp F N h) hk hx hb
theorem o_store {x : Str} {v : Value} {Q : Unit → Loc → FP → Prop} (h : Q () (fun y => if y = x then some v else m y) fp)
    (hk : sc.kind = .function := by rfl) (hx : (envX qn sc L fa cd cl).kindOf x = some .local := by rfl) : Op prog w A g L E (storeName (envX qn sc L fa cd cl) x v) Q m fp :=
  Op.of fun s F N _ k => storeX_L F N (fun h' F' N' => k _ h' (s.toks + 1) _ fp F' N' h) hk hx

/-- a def of the written part, called -/
theorem o_call {env : Env} {name qual : Str} {params : Arguments} {body : List Stmt} {scope : Scope} {dV kV doc pm cdv ct oc : Value} {an od : Option Addr} {osl : Array (Option Value)} {f : Addr} {pos : List Value} {kw : List (Str × Value)} {binds : List (Str × Value)}
    {Q : Value → Loc → FP → Prop} (cx : Cx w base outer g L A env (n + 1))
    (ho : (K w.params).lookup f = some ⟨oc, od, .func (fnOf name qual params body scope dV kV doc pm an cdv ct), osl⟩) (hcd : codeIn (K w.params) cdv qual = true)
    (hbind : ∀ s : Shared, (K w.params).In s.heap → BindsTo s (fnOf name qual params body scope dV kV doc pm an cdv ct) ⟨pos, kw⟩ binds)
    (hloc : ∀ y ∈ binds, scope.names.lookup y.1 = some .local) (hcell : ∀ x ∈ scope.names, x.2 ≠ .cell)
    (h : ∀ g' L' E', Cx w base (env :: outer) g' L' (A.deeper (envX qual scope L' f cdv [])) (envX qual scope L' f cdv []) n → g.StaysIn g' → (∀ p ∈ fp, p.1 < L') →
      Op prog w (A.deeper (envX qual scope L' f cdv [])) g' L' E' (execs body (envX qual scope L' f cdv [])) (backK Q m) (fun y => binds.reverse.lookup y) fp)
    (hco : scope.isCoroutine = false := by rfl) (hgen : scope.isGenerator = false := by rfl) (hk : scope.kind = .function := by rfl) :
    Op prog w A g L E (call (.ref f) pos kw) Q m fp := .intro fun s F N => by
  obtain ⟨A₀, B⟩ := cx.B
  obtain ⟨p, loose, mg, mb, T⟩ := cx.T
  have X := cx.X.keeps F.keep
  refine wpAny_call (callX_plain (cl := []) B F N T.nolimit cx.hA cx.hf cx.hke (X _ _ ho) rfl (codeRec_of X hcd) (by have := cx.depth; simp only [recursionLimit]; omega) (hbind s X) hloc (fun g' L' h₁ FG F' N' B' st lt => ?_) hcell hco hgen hk)
  refine wpAny_mono (E := XS (fun _ _ => False) s) ?_ (fun _ _ z => z) fun _ _ ⟨_, _, _, z⟩ => z.elim
  refine (h g' L' (fun _ _ => False) ⟨cx.X.keeps st, ⟨p, loose, mg, mb, T.keeps st⟩, ⟨A, B'⟩, Around.frames_deeper cx.hA, rfl, hk, ?_, ?_, ?_, cx.XB, cx.TB⟩ st lt).use F' N' fun fl h' t' m' fp' F1 N1 q => ?_
  · have := cx.depth; show A.depth + 1 + n ≤ 600; omega
  · have := cx.units; show A.units + 3 + 20 * n ≤ 6000; omega
  · exact cx.handled
  · cases fl <;> exact leaveK_ F1 N1 fun F2 N2 => ⟨h', t', m, fp', rfl, F2, N2, q⟩
end
end Mine
end
section
open PySem PySem.W PySem.Calls PyProof.Rows
set_option Elab.async false
set_option maxRecDepth 100000
set_option linter.unusedVariables false
namespace Mine
section
variable {prog : Program} {w : World} {A : Around} {g base : Heap} {outer : List Env} {L : Addr} {E : Value → Heap → Prop} {m : Loc} {fp : FP} {n : Nat} {env env' : Env}
  {x C dx f : Addr} {es es' : List DictEntry} {ep ep' : Nat} {sl : Array (Option Value)} {name : Str} {v : Value} {attr : Option Value}

abbrev inst (C dx : Addr) : Obj := ⟨.ref C, some dx, .plain, #[]⟩

theorem o_getOwn {ex : Bool} {Q : Value → Loc → FP → Prop} (cx : Cx w base outer g L A env n) (h1 : (x, (⟨.ref C, some dx, .plain, sl⟩ : Obj)) ∈ fp) (h2 : (dx, dictOf es ep) ∈ fp)
    (hg : plainGet (K w.params) C name = true) (hh : hasDictIn (K w.params) C = true) (ha : findIn (K w.params) (.ref C) name = some attr) (hn : noGet (K w.params) attr = true)
    (hl : getL name es = some (some v)) (hv : handedIn v = true) (h : Q v m fp) : Op prog w A g L E (getAttr (.ref x) name ex) Q m fp :=
  Op.of fun s F N _ k => get_own F cx.X (InstAt.of_news N h1 h2) hg hh ha hn hl hv (k _ s.heap (s.toks + 1) m fp F N h)
theorem o_getCls {ex : Bool} {a : Value} {Q : Value → Loc → FP → Prop} (cx : Cx w base outer g L A env n) (h1 : (x, (⟨.ref C, some dx, .plain, sl⟩ : Obj)) ∈ fp) (h2 : (dx, dictOf es ep) ∈ fp)
    (hg : plainGet (K w.params) C name = true) (hh : hasDictIn (K w.params) C = true) (ha : findIn (K w.params) (.ref C) name = some (some a)) (hn : specialIn (K w.params) a "__get__" = some none) (hv : handedIn a = true)
    (hc : copiedNames.contains name = false) (hl : getL name es = some none) (h : Q a m fp) : Op prog w A g L E (getAttr (.ref x) name ex) Q m fp :=
  Op.of fun s F N _ k => get_cls F cx.X (InstAt.of_news N h1 h2) hg hh ha hn hv hc hl (k _ s.heap (s.toks + 1) m fp F N h)
theorem o_meth {pl : Sem Bool} {Q : Value × List Value → Loc → FP → Prop} (cx : Cx w base outer g L A env n) (h1 : (x, (⟨.ref C, some dx, .plain, sl⟩ : Obj)) ∈ fp) (h2 : (dx, dictOf es ep) ∈ fp)
    (hg : plainGet (K w.params) C name = true) (hf : findIn (K w.params) (.ref C) name = some (some (.ref f))) (ht : isFn (K w.params) (.ref f) = true) (hl : getL name es = some none)
    (h : Q (.ref f, [.ref x]) m fp) : Op prog w A g L E (getMethod (.ref x) name pl) Q m fp :=
  Op.of fun s F N _ k => method_inst F cx.X (InstAt.of_news N h1 h2) hg hf ht hl (k _ s.heap s.toks m fp F N h)
theorem o_setOwn {Q : Unit → Loc → FP → Prop} (cx : Cx w base outer g L A env n) (h1 : (x, (⟨.ref C, some dx, .plain, sl⟩ : Obj)) ∈ fp) (h2 : (dx, dictOf es ep) ∈ fp)
    (hs : findIn (K w.params) (.ref C) "__setattr__" = some (some (.builtin "object.__setattr__"))) (hp : plainOver (K w.params) C = true) (ht : takerIn (K w.params) C name = some none)
    (hh : hasDictIn (K w.params) C = true) (hl : (getL name es).isSome = true) (hz : ∀ t, (putL name (PyData.keyHash w.params name) (.str name t) v es).length ≤ 1000)
    (h : ∀ t, Q () m (put dx (dictOf (putL name (PyData.keyHash w.params name) (.str name t) v es) (putN name es ep)) fp)) : Op prog w A g L E (setAttr (.ref x) name v) Q m fp :=
  Op.of fun s F N _ k => set_dict F cx.X (Mine.News.sub N (put_sub h2)) (InstAt.of_news N h1 h2) rfl hs hp ht hh hl rfl put_upd (hz _)
    fun h' F' N' => k _ h' (s.toks + 2) m _ F' N' (h _)
theorem o_slot {ex : Bool} {p : Addr} {i : Nat} {od : Obj} {Q : Value → Loc → FP → Prop} (cx : Cx w base outer g L A env n) (h1 : (x, (⟨.ref C, some dx, .plain, sl⟩ : Obj)) ∈ fp) (h2 : (dx, od) ∈ fp)
    (hg : plainGet (K w.params) C name = true) (hc : isClsIn (K w.params) C = true) (ha : findIn (K w.params) (.ref C) name = some (some (.ref p)))
    (hn : specialIn (K w.params) (.ref p) "__get__" = some (some (.builtin "member_descriptor.__get__"))) (ht : takesIn (K w.params) (.ref p) = some true) (hp : slotIn (K w.params) p C = some i)
    (hv : (sl[i]?).join = some v) (hh : handedIn v = true) (h : Q v m fp) : Op prog w A g L E (getAttr (.ref x) name ex) Q m fp :=
  Op.of fun s F N _ k => get_slot F cx.X (InstAt.of_news N h1 h2) hg hc ha hn ht hp hv hh (k _ s.heap (s.toks + 1) m fp F N h)
theorem o_setSlot {p : Addr} {i : Nat} {od : Obj} {sl' : Array (Option Value)} {Q : Unit → Loc → FP → Prop} (cx : Cx w base outer g L A env n) (h1 : (x, (⟨.ref C, some dx, .plain, sl⟩ : Obj)) ∈ fp) (h2 : (dx, od) ∈ fp)
    (hs : findIn (K w.params) (.ref C) "__setattr__" = some (some (.builtin "object.__setattr__"))) (hp : plainOver (K w.params) C = true) (ht : takerIn (K w.params) C name = some (some (.ref p)))
    (hT : typeIn (K w.params) (.ref p) = some (.type "member_descriptor")) (hi : slotIn (K w.params) p C = some i) (hz : i < 1000)
    (e : (sl ++ Array.replicate (i + 1 - sl.size) none).setIfInBounds i (some v) = sl')
    (h : Q () m (put x ⟨.ref C, some dx, .plain, sl'⟩ fp)) : Op prog w A g L E (setAttr (.ref x) name v) Q m fp :=
  Op.of fun s F N _ k => set_slot (ox' := ⟨.ref C, some dx, .plain, sl'⟩) F cx.X (Mine.News.sub N (put_sub h1)) (InstAt.of_news N h1 h2) hs hp ht hT hi hz (by subst e; rfl) rfl put_upd
    fun h' F' N' => k _ h' (s.toks + 1) m _ F' N' h
theorem o_clsVal {ex : Bool} {mc a : Value} {Q : Value → Loc → FP → Prop} (cx : Cx w base outer g L A env n) (hm : typeIn (K w.params) (.ref C) = some mc) (hr : readsIn (K w.params) C mc = true)
    (e : findCls (K w.params) (.ref C) mc name = some (.val a)) (hh : handedIn a = true) (h : Q a m fp) : Op prog w A g L E (getAttr (.ref C) name ex) Q m fp :=
  Op.of fun s F N _ k => cls_val F cx.X hm hr e hh (k _ s.heap (s.toks + 1) m fp F N h)
theorem o_clsSm {ex : Bool} {mc : Value} {p : Addr} {f : Value} {rest : List Value} {Q : Value → Loc → FP → Prop} (cx : Cx w base outer g L A env n) (hm : typeIn (K w.params) (.ref C) = some mc) (hr : readsIn (K w.params) C mc = true)
    (e : findCls (K w.params) (.ref C) mc name = some (.get (.builtin "staticmethod.__get__") (.ref p) .none (.ref C))) (hp : recIn (K w.params) p "staticmethod" = some (f :: rest)) (hv : handedIn f = true)
    (h : Q f m fp) : Op prog w A g L E (getAttr (.ref C) name ex) Q m fp :=
  Op.of fun s F N _ k => cls_sm F cx.X hm hr e hp hv (k _ s.heap (s.toks + 1) m fp F N h)
theorem o_methCls {pl : Sem Bool} {Q : Value × List Value → Loc → FP → Prop} (cx : Cx w base outer g L A env n) (hg : specialIn (K w.params) (.ref C) "__getattribute__" = some (some (.builtin "type.__getattribute__")))
    (h : Op prog w A g L E (getAttr (.ref C) name) (fun v => Q (v, [])) m fp) : Op prog w A g L E (getMethod (.ref C) name pl) Q m fp :=
  Op.of fun s F N _ k => method_of_cls F cx.X hg (h.use F N fun a h' t' m' fp' F' N' q => k _ _ _ _ _ F' N' q)

-- calls
@[reducible] def consK (Q : List Value → Loc → FP → Prop) (v : Value) : List Value → Loc → FP → Prop := fun vs => Q (v :: vs)
@[reducible] def argK (prog : Program) (w : World) (A : Around) (g : Heap) (L : Addr) (E : Value → Heap → Prop) (env : Env) (pos : Pos) (rest : List PySem.Expr) (Q : List Value → Loc → FP → Prop) : Value → Loc → FP → Prop := fun v => Op prog w A g L E (spliced (backTo pos (starEach rest env))) (consK Q v)
@[reducible] def callVK (prog : Program) (w : World) (A : Around) (g : Heap) (L : Addr) (E : Value → Heap → Prop) (f : Value) (first : List Value) (Q : Value → Loc → FP → Prop) : List Value → Loc → FP → Prop := fun vs => Op prog w A g L E (call f (first ++ vs)) Q
@[reducible] def nameK (prog : Program) (w : World) (A : Around) (g : Heap) (L : Addr) (E : Value → Heap → Prop) (env : Env) (pos : Pos) (args : List PySem.Expr) (Q : Value → Loc → FP → Prop) : Value → Loc → FP → Prop := fun f => Op prog w A g L E (callWith pos f [] (backTo pos (starEach args env)) []) Q
@[reducible] def meth2K (prog : Program) (w : World) (A : Around) (g : Heap) (L : Addr) (E : Value → Heap → Prop) (env : Env) (pos : Pos) (args : List PySem.Expr) (Q : Value → Loc → FP → Prop) : Value × List Value → Loc → FP → Prop := fun fx => Op prog w A g L E (callWith pos fx.1 fx.2 (backTo pos (starEach args env)) (backToKw pos (keywordEach [] env))) Q
@[reducible] def methK (prog : Program) (w : World) (A : Around) (g : Heap) (L : Addr) (E : Value → Heap → Prop) (env : Env) (name : Str) (pl : Sem Bool) (pos : Pos) (args : List PySem.Expr) (Q : Value → Loc → FP → Prop) : Value → Loc → FP → Prop := fun ov => Op prog w A g L E (getMethod ov name pl) (meth2K prog w A g L E env pos args Q)
theorem o_argsNil {pos : Pos} {Q : List Value → Loc → FP → Prop} (h : Q [] m fp) : Op prog w A g L E (spliced (backTo pos (starEach [] env'))) Q m fp :=
  Op.of fun s F N _ k => args_nil (k _ s.heap s.toks m fp F N h)
theorem o_argsCons {e : PySem.Expr} {rest : List PySem.Expr} {pos : Pos} {Q : List Value → Loc → FP → Prop}
    (h : Op prog w A g L E (eval e env') (argK prog w A g L E env' pos rest Q) m fp)
    (he : starEach (e :: rest) env' = (false, eval e env') :: starEach rest env' := by rfl) : Op prog w A g L E (spliced (backTo pos (starEach (e :: rest) env'))) Q m fp :=
  Op.of fun s F N _ k => args_cons (h.use F N fun v _ _ _ _ F1 N1 q1 => q1.use F1 N1 fun vs => k _) he
theorem o_methodCall {o : PySem.Expr} {apos pos : Pos} {args : List PySem.Expr} {Q : Value → Loc → FP → Prop} (pl : Sem Bool)
    (h : Op prog w A g L E (eval o env') (methK prog w A g L E env' name pl pos args Q) m fp)
    (he : eval (.Call (.Attribute o name apos) args [] pos) env' = (do
      let ov ← eval o env'
      standAt apos.atName
      let (f, first) ← holding [ov] (getMethod ov name pl)
      callWith pos f first (backTo pos (starEach args env')) (backToKw pos (keywordEach [] env'))) := by rfl) : Op prog w A g L E (eval (.Call (.Attribute o name apos) args [] pos) env') Q m fp :=
  Op.of fun s F N _ k => methodCall_KW (h.use F N fun _ _ _ _ _ F1 N1 q1 => q1.use F1 N1 fun _ _ _ _ _ F2 N2 q2 => q2.use F2 N2 k) he
theorem o_nameCall {func : PySem.Expr} {args : List PySem.Expr} {pos : Pos} {Q : Value → Loc → FP → Prop}
    (h : Op prog w A g L E (eval func env') (nameK prog w A g L E env' pos args Q) m fp)
    (he : eval (.Call func args [] pos) env' = (do callWith pos (← eval func env') [] (backTo pos (starEach args env')) (backToKw pos (keywordEach [] env'))) := by rfl) :
    Op prog w A g L E (eval (.Call func args [] pos) env') Q m fp :=
  Op.of fun s F N _ k => Call_ (h.use F N fun _ _ _ _ _ F1 N1 q1 => q1.use F1 N1 k) he
theorem o_callK {e : PySem.Expr} {rest : List PySem.Expr} {pos : Pos} {f : Value} {first : List Value} {Q : Value → Loc → FP → Prop} (cx : Cx w base outer g L A env n) (hk : keepIn (K w.params) f = true)
    (h : Op prog w A g L E (spliced (backTo pos (starEach (e :: rest) env'))) (callVK prog w A g L E f first Q) m fp)
    (he : starEach (e :: rest) env' = (false, eval e env') :: starEach rest env' := by rfl) (hplain : (backTo pos (starEach rest env')).any (·.1) = false := by rfl) :
    Op prog w A g L E (callWith pos f first (backTo pos (starEach (e :: rest) env')) []) Q m fp :=
  Op.of fun s F N _ k => callWith_K cx.X hk (h.use F N fun _ _ _ _ _ F1 N1 q1 => ⟨cx.X.keeps F1.keep, q1.use F1 N1 k⟩) he hplain
theorem o_callK0 {pos : Pos} {f : Value} {first : List Value} {Q : Value → Loc → FP → Prop} (cx : Cx w base outer g L A env n) (hk : keepIn (K w.params) f = true)
    (h : Op prog w A g L E (call f (first ++ [])) Q m fp) : Op prog w A g L E (callWith pos f first (backTo pos (starEach [] env')) []) Q m fp :=
  Op.of fun s F N _ k => callWith_K0 (cx.X.keeps F.keep) hk (h.use F N k)
theorem o_callB {id : String} {e : PySem.Expr} {rest : List PySem.Expr} {pos : Pos} {first : List Value} {Q : Value → Loc → FP → Prop}
    (h : Op prog w A g L E (spliced (backTo pos (starEach (e :: rest) env'))) (callVK prog w A g L E (.builtin id) first Q) m fp)
    (he : starEach (e :: rest) env' = (false, eval e env') :: starEach rest env' := by rfl) (hplain : (backTo pos (starEach rest env')).any (·.1) = false := by rfl) :
    Op prog w A g L E (callWith pos (.builtin id) first (backTo pos (starEach (e :: rest) env')) []) Q m fp :=
  Op.of fun s F N _ k => by
    rw [he] at h ⊢
    exact callWith_builtin (by show (false || (backTo pos (starEach rest env')).any (·.1)) = false; rw [hplain]; rfl) (evalArgs_plain (h.use F N fun _ _ _ _ _ F1 N1 q1 => q1.use F1 N1 k))
theorem o_callB0 {id : String} {pos : Pos} {first : List Value} {Q : Value → Loc → FP → Prop}
    (h : Op prog w A g L E (call (.builtin id) (first ++ [])) Q m fp) : Op prog w A g L E (callWith pos (.builtin id) first (backTo pos (starEach [] env')) []) Q m fp :=
  Op.of fun s F N _ k => callWith_builtin rfl (PyProof.Rows.evalArgs_none (h.use F N k))
theorem o_callT {T : String} {e : PySem.Expr} {rest : List PySem.Expr} {pos : Pos} {first : List Value} {Q : Value → Loc → FP → Prop}
    (h : Op prog w A g L E (spliced (backTo pos (starEach (e :: rest) env'))) (callVK prog w A g L E (.type T) first Q) m fp)
    (he : starEach (e :: rest) env' = (false, eval e env') :: starEach rest env' := by rfl) (hplain : (backTo pos (starEach rest env')).any (·.1) = false := by rfl) :
    Op prog w A g L E (callWith pos (.type T) first (backTo pos (starEach (e :: rest) env')) []) Q m fp :=
  Op.of fun s F N _ k => by
    rw [he] at h ⊢
    exact PySem.callWith_type (by show (false || (backTo pos (starEach rest env')).any (·.1)) = false; rw [hplain]; rfl) (evalArgs_plain (h.use F N fun _ _ _ _ _ F1 N1 q1 => q1.use F1 N1 k))
end
end Mine
end
section
open PySem PySem.W PySem.Calls PyProof.Rows
set_option Elab.async false
set_option maxRecDepth 100000
set_option linter.unusedVariables false
namespace Mine
section
variable {prog : Program} {w : World} {A : Around} {g base : Heap} {outer : List Env} {L : Addr} {E : Value → Heap → Prop} {m : Loc} {fp : FP} {n : Nat} {env env' : Env}

theorem put_updF {d : Addr} {o : Obj} {fp : FP} : UpdF d o ((d, o) :: fp.filter fun p => p.1 != d) (fun o' => put d o' fp) :=
  .head fun p hp => by simpa using (List.mem_filter.mp hp).2

/-- an int-keyed dict that holds these pairs, in this order -/
abbrev IsD (prog : Program) (w : World) (o : Obj) (kvs : List (Int × Value)) : Prop := o.IsDictOf (PySem.intKind prog w) kvs

variable {d : Addr} {o : Obj} {kvs : List (Int × Value)} {k : Int} {t : Tok} {v : Value}

theorem o_in {b : Bool} {Q : Value → Loc → FP → Prop} (hm : (d, o) ∈ fp) (hd : IsD prog w o kvs) (lo : (d == sysModules) = false) (hb : (valueAt kvs k).isSome = b) (h : Q (.bool b) m fp) :
    Op prog w A g L E (compareOp .In (.int k t) (.ref d)) Q m fp :=
  Op.of fun s F N _ kk => kda_in (knd := PySem.intKind prog w) N hm hd lo (intKind_is _ _ _ _) b hb (kk _ s.heap (s.toks + 1) m fp F N h)
theorem o_item {value slice : PySem.Expr} {Q : Value → Loc → FP → Prop} (hm : (d, o) ∈ fp) (hd : IsD prog w o kvs) (hl : valueAt kvs k = some v) (h : Q v m fp)
    (hs : subscripted slice false (.ref d) (.int k t) = operate [.ref d, .int k t] (getItem (.ref d) (.int k t)) := by with_unfolding_all rfl) :
    Op prog w A g L E (subscriptTail value slice (.ref d) (.int k t)) Q m fp :=
  Op.of fun s F N _ kk => have hD := kda_dict (knd := PySem.intKind prog w) N hm hd
    tail_any hD.typeIs slot_dict_getitem.lookup (wpAny_getItem_of (intKind_is _ _ _ _) hD.mapOf hl (kk _ s.heap (s.toks + 1) m fp F N h)) hs
theorem o_setItem {Q : Unit → Loc → FP → Prop} (hm : (d, o) ∈ fp) (hd : IsD prog w o kvs) (hsz : kvs.length ≤ 1000)
    (h : ∀ o', IsD prog w o' (stored kvs k v) → Q () m (put d o' fp)) : Op prog w A g L E (setItem (.ref d) (.int k t) v) Q m fp :=
  Op.of fun s F N _ kk => kda_set (knd := PySem.intKind prog w) F (Mine.News.sub N (put_sub hm)) put_updF hd (intKind_is _ _ _ _) (Nat.le_trans hsz (by rw [sizeLine_eq]; decide))
    fun h' o' F' N' hd' => kk _ h' (s.toks + 1) m _ F' N' (h o' hd')
theorem o_delItem {Q : Unit → Loc → FP → Prop} (hm : (d, o) ∈ fp) (hd : IsD prog w o kvs) (hl : (valueAt kvs k).isSome = true) (hsz : kvs.length ≤ 1000)
    (h : ∀ o', IsD prog w o' (without kvs k) → Q () m (put d o' fp)) : Op prog w A g L E (delItem (.ref d) (.int k t)) Q m fp :=
  Op.of fun s F N _ kk => kob_del (knd := PySem.intKind prog w) F (Mine.News.sub N (put_sub hm)) put_updF hd (intKind_is _ _ _ _) hl (Nat.le_trans hsz (by rw [sizeLine_eq]; decide))
    fun h' o' F' N' hd' => kk _ h' (s.toks + 1) m _ F' N' (h o' hd')
theorem o_dictMeth {name : Str} {id : String} {pl : Sem Bool} {Q : Value × List Value → Loc → FP → Prop} (slot : Slot "dict" name id) (ty : typeOf (.builtin id) = Pure.pure (.type "method_descriptor"))
    (hm : (d, o) ∈ fp) (hd : IsD prog w o kvs) (h : Q (.builtin id, [.ref d]) m fp) : Op prog w A g L E (getMethod (.ref d) name pl) Q m fp :=
  Op.of fun s F N _ kk => kob_method slot ty N hm hd (kk _ s.heap s.toks m fp F N h)
theorem o_pop {Q : Value → Loc → FP → Prop} (hm : (d, o) ∈ fp) (hd : IsD prog w o kvs) (hl : valueAt kvs k = some v) (hsz : kvs.length ≤ 1000)
    (h : ∀ o', IsD prog w o' (without kvs k) → Q v m (put d o' fp)) (hargs : argsOk "dict.pop" ⟨[.ref d, .int k t], []⟩ := by unfold argsOk; kernel_rfl) :
    Op prog w A g L E (call (.builtin "dict.pop") [.ref d, .int k t]) Q m fp :=
  Op.of fun s F N _ kk => kob_pop (knd := PySem.intKind prog w) (more := []) F (Mine.News.sub N (put_sub hm)) put_updF hd (intKind_is _ _ _ _) (.inl rfl) rfl hargs hl (Nat.le_trans hsz (by rw [sizeLine_eq]; decide))
    fun h' o' F' N' hd' => kk _ h' (s.toks + 1) m _ F' N' (h o' hd')
theorem o_clear {Q : Value → Loc → FP → Prop} (hm : (d, o) ∈ fp) (hd : IsD prog w o kvs) (hsz : kvs.length ≤ 1000)
    (h : ∀ o', IsD prog w o' [] → Q .none m (put d o' fp)) : Op prog w A g L E (call (.builtin "dict.clear") [.ref d]) Q m fp :=
  Op.of fun s F N _ kk => call_clear_madeIn (knd := PySem.intKind prog w) (enc := PyData.int) (own := []) (rest := fp.filter fun p => p.1 != d) F (Mine.News.sub N (put_sub hm)) (fun _ h => nomatch h)
    (fun p hp => by simpa using (List.mem_filter.mp hp).2) hd
    (fun h' o' F' N' hd' _ => kk _ h' s.toks m _ F' N' (h o' hd')) (Nat.le_trans hsz (by rw [sizeLine_eq]; decide))
theorem o_len {Q : Value → Loc → FP → Prop} (hm : (d, o) ∈ fp) (hd : IsD prog w o kvs) (lo : (d == sysModules) = false) (hsz : kvs.length ≤ 1000)
    (h : ∀ t, Q (.int kvs.length t) m fp) : Op prog w A g L E (call (.builtin "len") [.ref d]) Q m fp :=
  Op.of fun s F N _ kk => kda_len (knd := PySem.intKind prog w) N hm hd lo (Nat.le_trans hsz (by decide)) (kk _ s.heap (s.toks + 1 + 1) m fp F N (h _))
theorem o_iter {Q : Value → Loc → FP → Prop} (hm : (d, o) ∈ fp) (hd : IsD prog w o kvs) (lo : (d == sysModules) = false)
    (h : ∀ I oI ep, (∀ p ∈ fp, p.1 < I) → KdkIter oI d 0 kvs.length ep → KdkAt (PySem.intKind prog w) o kvs ep → Q (.ref I) m ((I, oI) :: fp)) :
    Op prog w A g L E (call (.builtin "iter") [.ref d]) Q m fp :=
  Op.of fun s F N _ kk => kdk_iter (knd := PySem.intKind prog w) F N hm hd lo fun I h' oI ep F' N' lt hi ha => kk _ h' s.toks m _ F' N' (h I oI ep lt hi ha)
theorem o_next {it : Addr} {io : Obj} {i ep : Nat} {x : Value} {Q : Value → Loc → FP → Prop} (hit : (it, io) ∈ fp) (hi : KdkIter io d i kvs.length ep) (ha : KdkAt (PySem.intKind prog w) o kvs ep) (hm : (d, o) ∈ fp)
    (hne : d ≠ it) (hx : kvs[i]? = some (k, x)) (h : ∀ o' t, KdkIter o' d (i + 1) kvs.length ep → Q (.int k t) m (put it o' fp)) :
    Op prog w A g L E (call (.builtin "next") [.ref it]) Q m fp :=
  Op.of fun s F N _ kk => kdk_next (knd := PySem.intKind prog w) F (Mine.News.sub N (put_sub hit)) put_updF hi ha (List.Mem.tail _ (List.mem_filter.mpr ⟨hm, by simpa using hne⟩)) hx
    fun h' o' key hkey F' N' hi' => by
      cases key with
      | int k' t' =>
        have : k' = k := by simpa [PySem.intKind, Value.isInt] using hkey
        subst this
        exact kk _ h' s.toks m _ F' N' (h o' t' hi')
      | _ => simp [PySem.intKind, Value.isInt] at hkey

-- ints
variable {a b : Int} {u : Tok}
theorem o_add {Q : Value → Loc → FP → Prop} (h : ∀ r, Q (.int (a + b) r) m fp) : Op prog w A g L E (binaryOp .Add (.int a t) (.int b u)) Q m fp :=
  Op.of fun s F N _ kk => PyProof.Rows.add_int (kk _ s.heap (s.toks + 1) m fp F N (h _))
theorem o_sub {Q : Value → Loc → FP → Prop} (h : ∀ r, Q (.int (a - b) r) m fp) : Op prog w A g L E (binaryOp .Sub (.int a t) (.int b u)) Q m fp :=
  Op.of fun s F N _ kk => PyProof.Rows.sub_int (kk _ s.heap (s.toks + 1) m fp F N (h _))
theorem o_eqI {Q : Value → Loc → FP → Prop} (h : Q (.bool (a == b)) m fp) : Op prog w A g L E (compareOp .Eq (.int a t) (.int b u)) Q m fp :=
  Op.of fun s F N _ kk => PyProof.Rows.eq_int (kk _ s.heap s.toks m fp F N h)
theorem o_neI {Q : Value → Loc → FP → Prop} (h : Q (.bool (a != b)) m fp) : Op prog w A g L E (compareOp .NotEq (.int a t) (.int b u)) Q m fp :=
  Op.of fun s F N _ kk => PyProof.Rows.ne_int (kk _ s.heap s.toks m fp F N h)
theorem o_ltI {Q : Value → Loc → FP → Prop} (h : Q (.bool (decide (a < b))) m fp) : Op prog w A g L E (compareOp .Lt (.int a t) (.int b u)) Q m fp :=
  Op.of fun s F N _ kk => PyProof.Rows.lt_int (kk _ s.heap s.toks m fp F N h)
theorem o_gtI {Q : Value → Loc → FP → Prop} (h : Q (.bool (decide (b < a))) m fp) : Op prog w A g L E (compareOp .Gt (.int a t) (.int b u)) Q m fp :=
  Op.of fun s F N _ kk => PyProof.Rows.gt_int (kk _ s.heap s.toks m fp F N h)
theorem o_isNone {v : Value} {Q : Value → Loc → FP → Prop} (h : Q (.bool (v == .none)) m fp) : Op prog w A g L E (compareOp .Is v .none) Q m fp :=
  Op.of fun s F N _ kk => PySem.is_none (kk _ s.heap s.toks m fp F N h)
theorem o_isNotNone {v : Value} {Q : Value → Loc → FP → Prop} (h : Q (.bool (!(v == .none))) m fp) : Op prog w A g L E (compareOp .IsNot v .none) Q m fp :=
  Op.of fun s F N _ kk => PySem.isNot_none (kk _ s.heap s.toks m fp F N h)
end
end Mine
end
section
open PySem PySem.W PySem.Calls PyProof.Rows
set_option Elab.async false
set_option maxRecDepth 100000
set_option linter.unusedVariables false
namespace Mine
section
variable {prog : Program} {w : World} {A : Around} {g base : Heap} {outer : List Env} {L : Addr} {E : Value → Heap → Prop} {m : Loc} {fp : FP} {n : Nat}

/-- a def of the written part as a code: what it hands back -/
theorem c_call {env : Env} {name qual : Str} {params : Arguments} {body : List Stmt} {scope : Scope} {dV kV doc pm cdv ct oc : Value} {an od : Option Addr} {osl : Array (Option Value)} {f : Addr} {pos : List Value} {kw : List (Str × Value)} {binds : List (Str × Value)}
    {Q : Value → Loc → FP → Prop} {R : Result → Shared → Prop} {s : Shared} (cx : Cx w base outer g L A env (n + 1))
    (ho : (K w.params).lookup f = some ⟨oc, od, .func (fnOf name qual params body scope dV kV doc pm an cdv ct), osl⟩) (hcd : codeIn (K w.params) cdv qual = true)
    (hbind : ∀ s : Shared, (K w.params).In s.heap → BindsTo s (fnOf name qual params body scope dV kV doc pm an cdv ct) ⟨pos, kw⟩ binds)
    (hloc : ∀ y ∈ binds, scope.names.lookup y.1 = some .local) (hcell : ∀ x ∈ scope.names, x.2 ≠ .cell)
    (F : Fr g L s.heap m) (N : News g L s.heap fp)
    (h : ∀ g' L' E', Cx w base (env :: outer) g' L' (A.deeper (envX qual scope L' f cdv [])) (envX qual scope L' f cdv []) n → g.StaysIn g' → (∀ p ∈ fp, p.1 < L') →
      Op prog w (A.deeper (envX qual scope L' f cdv [])) g' L' E' (execs body (envX qual scope L' f cdv [])) (fun fl _ fp' => Q (retOf fl) m fp') (fun y => binds.reverse.lookup y) fp)
    (k : ∀ v h' t' fp', Fr g L h' m → News g L h' fp' → Q v m fp' → R (.ok (.ret v)) { s with heap := h', toks := t' })
    (hco : scope.isCoroutine = false := by rfl) (hgen : scope.isGenerator = false := by rfl) (hk : scope.kind = .function := by rfl) :
    codeAny (model prog w) A (.call (.ref f) ⟨pos, kw⟩) R s := by
  obtain ⟨A₀, B⟩ := cx.B
  obtain ⟨p, loose, mg, mb, T⟩ := cx.T
  have X := cx.X.keeps F.keep
  refine callX_plain (cl := []) B F N T.nolimit cx.hA cx.hf cx.hke (X _ _ ho) rfl (codeRec_of X hcd) (by have := cx.depth; simp only [recursionLimit]; omega) (hbind s X) hloc (fun g' L' h₁ FG F' N' B' st lt => ?_) hcell hco hgen hk
  refine wpAny_mono (E := XS (fun _ _ => False) s) ?_ (fun _ _ z => z) fun _ _ ⟨_, _, _, z⟩ => z.elim
  refine (h g' L' (fun _ _ => False) ⟨cx.X.keeps st, ⟨p, loose, mg, mb, T.keeps st⟩, ⟨A, B'⟩, Around.frames_deeper cx.hA, rfl, hk, ?_, ?_, ?_, cx.XB, cx.TB⟩ st lt).use F' N' fun fl h' t' m' fp' F1 N1 q => ?_
  · have := cx.depth; show A.depth + 1 + n ≤ 600; omega
  · have := cx.units; show A.units + 3 + 20 * n ≤ 6000; omega
  · exact cx.handled
  · cases fl <;> exact leaveK_ F1 N1 fun F2 N2 => k _ h' t' fp' F2 N2 q

/-- an object of a class of the written part: made, then its own __init__ -/
theorem o_make {env : Env} {name qual : Str} {params : Arguments} {body : List Stmt} {scope : Scope} {dV kV doc pm cdv ct oc : Value} {an od : Option Addr} {osl : Array (Option Value)} {C fI : Addr} {pos : List Value}
    {Q : Value → Loc → FP → Prop} (cx : Cx w base outer g L A env (n + 2))
    (hm : makesIn (K w.params) C = true) (hi : findIn (K w.params) (.ref C) "__init__" = some (some (.ref fI))) (hf : isFn (K w.params) (.ref fI) = true)
    (ho : (K w.params).lookup fI = some ⟨oc, od, .func (fnOf name qual params body scope dV kV doc pm an cdv ct), osl⟩) (hcd : codeIn (K w.params) cdv qual = true)
    (binds : Addr → List (Str × Value))
    (hbind : ∀ x, ∀ s : Shared, (K w.params).In s.heap → BindsTo s (fnOf name qual params body scope dV kV doc pm an cdv ct) ⟨.ref x :: pos, []⟩ (binds x))
    (hloc : ∀ x, ∀ y ∈ binds x, scope.names.lookup y.1 = some .local) (hcell : ∀ x ∈ scope.names, x.2 ≠ .cell)
    (h : ∀ x dx g' L' E' A', Cx w base (env :: outer) g' L' A' (envX qual scope L' fI cdv []) n → g.StaysIn g' → (∀ p ∈ fp, p.1 < dx) → dx < x →
      Op prog w A' g' L' E' (execs body (envX qual scope L' fI cdv [])) (fun fl _ fp' => retOf fl = .none ∧ Q (.ref x) m fp') (fun y => (binds x).reverse.lookup y) ((x, inst C dx) :: (dx, dictOf [] 0) :: fp))
    (hco : scope.isCoroutine = false := by rfl) (hgen : scope.isGenerator = false := by rfl) (hk : scope.kind = .function := by rfl) :
    Op prog w A g L E (call (.ref C) pos) Q m fp := .intro fun s F N => by
  refine wpAny_call (PySem.W.make_K (rest := pos) (kw := []) F N (cx.X.keeps F.keep) hm hi (beq_iff_eq.mp hf) fun x dx h' F' N' lt lt2 => ?_)
  have cx' : Cx w base outer g L (A.under (.builtin "type.__call__" ⟨.ref C :: pos, []⟩)) env (n + 1) :=
    ⟨cx.X, cx.T, cx.B, cx.hA, cx.hf, cx.hke, by have := cx.depth; show A.depth + 1 + (n + 1) ≤ 600; omega, by have := cx.units; show A.units + 1 + 20 * (n + 1) ≤ 6000; omega, cx.handled, cx.XB, cx.TB⟩
  refine c_call (Q := fun v m' fp' => v = .none ∧ Q (.ref x) m' fp') cx' ho hcd (hbind x) (hloc x) hcell F' N' (fun g' L' E' c1 st lt' => ?_) (fun v h'' t'' fp'' F2 N2 q => ?_) hco hgen hk
  · exact h x dx g' L' E' _ c1 st lt lt2
  · exact ⟨q.1, h'', t'', m, fp'', rfl, F2, N2, q.2⟩

theorem o_newDict {env' : Env} {pos : Pos} {Q : Value → Loc → FP → Prop} (cx : Cx w base outer g L A env n)
    (h : ∀ d o, (∀ p ∈ fp, p.1 < d) → (d == sysModules) = false → IsD prog w o [] → Q (.ref d) m ((d, o) :: fp)) : Op prog w A g L E (eval (.Dict [] [] pos) env') Q m fp :=
  Op.of fun s F N _ kk => by
    obtain ⟨p, loose, mg, mb, T⟩ := cx.T
    exact newDict_K F N T.nolimit fun d h' o F' N' lt lo _ _ hd _ => kk _ h' s.toks m _ F' N' (h d o lt lo hd)
end
end Mine
end
section
open PySem PySem.W PySem.Calls PyProof.Rows
set_option Elab.async false
set_option maxRecDepth 100000
set_option linter.unusedVariables false
namespace Mine
section
variable {prog : Program} {w : World} {A : Around} {g base : Heap} {outer : List Env} {L : Addr} {E : Value → Heap → Prop} {m : Loc} {fp : FP} {n : Nat} {env env' : Env}

theorem o_exprStmt {e : PySem.Expr} {pos : Pos} {Q : Flow → Loc → FP → Prop} (h : Op prog w A g L E (eval e env') (fun _ => Q .next) m fp)
    (hi : interactive env' = false := by rfl) (hs : swapsWith e none pos.line env' = Pure.pure false := by rfl) : Op prog w A g L E (exec (.Expr e pos) env') Q m fp :=
  Op.of fun s F N _ k => wpAny_Expr_any (h.use F N fun _ => k _) hi hs
theorem o_assignSub {o i value : PySem.Expr} {pos' pos : Pos} {Q : Flow → Loc → FP → Prop}
    (h : Op prog w A g L E (eval value env') (fun v => Op prog w A g L E (eval o env') (fun ov => Op prog w A g L E (eval i env') (fun iv => Op prog w A g L E (setItem ov iv v) (fun _ => Q .next)))) m fp)
    (hs : swapsWith value (some (.Subscript o i pos')) pos.line env' = Pure.pure false := by rfl) : Op prog w A g L E (exec (.Assign [.Subscript o i pos'] value pos) env') Q m fp :=
  Op.of fun s F N _ k => wpAny_Assign_Subscript (h.use F N fun _ _ _ _ _ F1 N1 q1 => q1.use F1 N1 fun _ _ _ _ _ F2 N2 q2 => q2.use F2 N2 fun _ _ _ _ _ F3 N3 q3 => q3.use F3 N3 fun _ => k _) hs
theorem o_delSub {o i : PySem.Expr} {pos' pos : Pos} {Q : Flow → Loc → FP → Prop}
    (h : Op prog w A g L E (eval o env') (fun ov => Op prog w A g L E (eval i env') (fun iv => Op prog w A g L E (delItem ov iv) (fun _ => Q .next))) m fp) :
    Op prog w A g L E (exec (.Delete [.Subscript o i pos'] pos) env') Q m fp :=
  Op.of fun s F N _ k => wpAny_Delete (wpAny_deleteEach_cons (delete_Subscript (h.use F N fun _ _ _ _ _ F1 N1 q1 => q1.use F1 N1 fun _ _ _ _ _ F2 N2 q2 => q2.use F2 N2 fun _ h' t' m' fp' F3 N3 q3 => wpAny_deleteEach_nil (k _ h' t' m' fp' F3 N3 q3))))
theorem o_augAttr {o value : PySem.Expr} {attr : Str} {tpos pos : Pos} {op : Operator} {Q : Flow → Loc → FP → Prop}
    (h : Op prog w A g L E (eval o env') (fun ov => Op prog w A g L E (getAttr ov attr true) (fun old => Op prog w A g L E (eval value env') (fun v => Op prog w A g L E (inplaceOp op old v) (fun new =>
      Op prog w A g L E (setAttr ov attr new) (fun _ => Q .next))))) m fp) : Op prog w A g L E (exec (.AugAssign (.Attribute o attr tpos) op value pos) env') Q m fp :=
  Op.of fun s F N _ k => wpAny_AugAssign_AttributeAny (h.use F N fun _ _ _ _ _ F1 N1 q1 => q1.use F1 N1 fun _ _ _ _ _ F2 N2 q2 => q2.use F2 N2 fun _ _ _ _ _ F3 N3 q3 => q3.use F3 N3 fun _ _ _ _ _ F4 N4 q4 => q4.use F4 N4 fun _ => k _)
theorem o_assign2 {t₁ t₂ value : PySem.Expr} {pos : Pos} {Q : Flow → Loc → FP → Prop}
    (h : Op prog w A g L E (eval value env') (fun v => Op prog w A g L E (assign t₁ env' v) (fun _ => Op prog w A g L E (assign t₂ env' v) (fun _ => Q .next))) m fp)
    (he : (assignEach [t₁, t₂] env').map (·.2) = [assign t₁ env', assign t₂ env'] := by rfl) (hw : swappedStores [t₁, t₂] value env' = Pure.pure none := by rfl) :
    Op prog w A g L E (exec (.Assign [t₁, t₂] value pos) env') Q m fp :=
  Op.of fun s F N _ k => wpAny_Assign_two (h.use F N fun _ _ _ _ _ F1 N1 q1 => q1.use F1 N1 fun _ _ _ _ _ F2 N2 q2 => q2.use F2 N2 fun _ => k _) he hw
theorem o_asName {x : Str} {pos : Pos} {v : Value} {Q : Unit → Loc → FP → Prop} (h : Op prog w A g L E (storeName env' x v) Q m fp) : Op prog w A g L E (assign (.Name x pos) env' v) Q m fp :=
  Op.of fun s F N _ k => wpAny_assign_Name (h.use F N k)
theorem o_asAttr {o : PySem.Expr} {attr : Str} {pos : Pos} {v : Value} {Q : Unit → Loc → FP → Prop}
    (h : Op prog w A g L E (eval o env') (fun ov => Op prog w A g L E (setAttr ov attr v) Q) m fp) : Op prog w A g L E (assign (.Attribute o attr pos) env' v) Q m fp :=
  Op.of fun s F N _ k => by
    rw [assign_Attribute]
    exact wpAny_bind (wpAny_holding (h.use F N fun ov _ _ _ _ F1 N1 q1 => wpAny_bind (wpAny_standAt (wpAny_bind (wpAny_holding (q1.use F1 N1 fun _ h' t' m' fp' F2 N2 q2 => wpAny_releaseD (k _ h' t' m' fp' F2 N2 q2)))))))
theorem o_isTrueNot {x : PySem.Expr} {pos : Pos} {whole : Sem Value} {Q : Bool → Loc → FP → Prop} (h : Op prog w A g L E (isTrue x env' (eval x env')) (fun b => Q (!b)) m fp) :
    Op prog w A g L E (isTrue (.UnaryOp .Not x pos) env' whole) Q m fp := Op.of fun s F N _ k => wpAny_isTrue_Not (h.use F N fun _ => k _)
theorem o_isTrue {e : PySem.Expr} {whole : Sem Value} {Q : Bool → Loc → FP → Prop} (h : Op prog w A g L E whole (fun v => Op prog w A g L E (truthy v) Q) m fp)
    (he : isTrue e env' whole = (do let v ← whole; standAt e.pos; holding [v] (truthy v)) := by rfl) : Op prog w A g L E (isTrue e env' whole) Q m fp :=
  Op.of fun s F N _ k => isTrue_plain (h.use F N fun _ _ _ _ _ F1 N1 q1 => q1.use F1 N1 k) he
theorem o_isTrueAnd {x : PySem.Expr} {rest : List PySem.Expr} {pos : Pos} {whole : Sem Value} {Q : Bool → Loc → FP → Prop}
    (h : Op prog w A g L E (isTrue x env' (eval x env')) (fun c m fp => if c then Op prog w A g L E (isTrue (.BoolOp .And rest pos) env' whole) Q m fp else Q false m fp) m fp) :
    Op prog w A g L E (isTrue (.BoolOp .And (x :: rest) pos) env' whole) Q m fp :=
  Op.of fun s F N _ k => isTrue_and (h.use F N fun c _ _ _ _ F1 N1 q1 => by
    cases c with
    | true => exact Op.use (show Op prog w A g L E (isTrue (.BoolOp .And rest pos) env' whole) Q _ _ from q1) F1 N1 k
    | false => exact k _ _ _ _ _ F1 N1 q1)
theorem o_isTrueAnd0 {pos : Pos} {whole : Sem Value} {Q : Bool → Loc → FP → Prop} (h : Q true m fp) : Op prog w A g L E (isTrue (.BoolOp .And [] pos) env' whole) Q m fp :=
  Op.of fun s F N _ k => isTrue_and_nil (k _ s.heap s.toks m fp F N h)
theorem o_isTrueOr {x : PySem.Expr} {rest : List PySem.Expr} {pos : Pos} {whole : Sem Value} {Q : Bool → Loc → FP → Prop}
    (h : Op prog w A g L E (isTrue x env' (eval x env')) (fun c m fp => if c then Q true m fp else Op prog w A g L E (isTrue (.BoolOp .Or rest pos) env' whole) Q m fp) m fp) :
    Op prog w A g L E (isTrue (.BoolOp .Or (x :: rest) pos) env' whole) Q m fp :=
  Op.of fun s F N _ k => isTrue_or (h.use F N fun c _ _ _ _ F1 N1 q1 => by
    cases c with
    | false => exact Op.use (show Op prog w A g L E (isTrue (.BoolOp .Or rest pos) env' whole) Q _ _ from q1) F1 N1 k
    | true => exact k _ _ _ _ _ F1 N1 q1)
theorem o_isTrueOr0 {pos : Pos} {whole : Sem Value} {Q : Bool → Loc → FP → Prop} (h : Q false m fp) : Op prog w A g L E (isTrue (.BoolOp .Or [] pos) env' whole) Q m fp :=
  Op.of fun s F N _ k => isTrue_or_nil (k _ s.heap s.toks m fp F N h)
theorem o_ifExp {test body orelse : PySem.Expr} {pos : Pos} {Q : Value → Loc → FP → Prop}
    (h : Op prog w A g L E (isTrue test env' (eval test env')) (fun b m fp => if b then Op prog w A g L E (eval body env') Q m fp else Op prog w A g L E (eval orelse env') Q m fp) m fp) :
    Op prog w A g L E (eval (.IfExp test body orelse pos) env') Q m fp :=
  Op.of fun s F N _ k => wpAny_IfExp (h.use F N fun b _ _ _ _ F1 N1 q1 => by
    cases b with
    | true => exact Op.use (show Op prog w A g L E (eval body env') Q _ _ from q1) F1 N1 k
    | false => exact Op.use (show Op prog w A g L E (eval orelse env') Q _ _ from q1) F1 N1 k)
theorem o_unary {op : UnaryOp} {x : PySem.Expr} {pos : Pos} {Q : Value → Loc → FP → Prop} (h : Op prog w A g L E (eval x env') (fun v => Op prog w A g L E (unaryOp op v) Q) m fp) :
    Op prog w A g L E (eval (.UnaryOp op x pos) env') Q m fp := Op.of fun s F N _ k => wpAny_UnaryOp (h.use F N fun _ _ _ _ _ F1 N1 q1 => q1.use F1 N1 k)

variable {d : Addr} {o : Obj} {kvs : List (Int × Value)}
theorem o_truthyDict {Q : Bool → Loc → FP → Prop} (hm : (d, o) ∈ fp) (hd : IsD prog w o kvs) (lo : (d == sysModules) = false) (hsz : kvs.length ≤ 1000) (h : Q (!kvs.isEmpty) m fp) :
    Op prog w A g L E (truthy (.ref d)) Q m fp :=
  Op.of fun s F N _ k => wpAny_truthy_dict lo (kda_dict (knd := PySem.intKind prog w) N hm hd) (by have : (kvs.length : Int) ≤ 1000 := by exact_mod_cast hsz
                                                                                                   omega) (k _ s.heap (s.toks + 1 + 1) m fp F N h)
variable {a b : Int} {t u : Tok}
theorem o_iadd {Q : Value → Loc → FP → Prop} (h : ∀ r, Q (.int (a + b) r) m fp) : Op prog w A g L E (inplaceOp .Add (.int a t) (.int b u)) Q m fp :=
  Op.of fun s F N _ kk => PyProof.Rows.iadd_int (kk _ s.heap (s.toks + 1) m fp F N (h _))
theorem o_isub {Q : Value → Loc → FP → Prop} (h : ∀ r, Q (.int (a - b) r) m fp) : Op prog w A g L E (inplaceOp .Sub (.int a t) (.int b u)) Q m fp :=
  Op.of fun s F N _ kk => PyProof.Rows.isub_int (kk _ s.heap (s.toks + 1) m fp F N (h _))
end
end Mine
end
section
open PySem PySem.W PySem.Calls PyProof.Rows
set_option Elab.async false
set_option maxRecDepth 100000
set_option linter.unusedVariables false
namespace Mine
section
variable {prog : Program} {w : World} {A : Around} {g base : Heap} {outer : List Env} {L : Addr} {E : Value → Heap → Prop} {m : Loc} {fp : FP} {n : Nat} {env env' : Env}
  {x C dx f : Addr} {es : List DictEntry} {ep : Nat} {sl : Array (Option Value)} {v : Value}

theorem Cx.in1 (cx : Cx w base outer g L A env (n + 1)) : Cx w base outer g L A.in1 env n :=
  ⟨cx.X, cx.T, cx.B, cx.hA, cx.hf, cx.hke, by have := cx.depth; show A.depth + n ≤ 600; omega, by have := cx.units; show A.units + 1 + 20 * n ≤ 6000; omega, cx.handled, cx.XB, cx.TB⟩
theorem Cx.less (cx : Cx w base outer g L A env (n + 1)) : Cx w base outer g L A env n :=
  ⟨cx.X, cx.T, cx.B, cx.hA, cx.hf, cx.hke, by have := cx.depth; omega, by have := cx.units; omega, cx.handled, cx.XB, cx.TB⟩

theorem o_inInst {Q : Value → Loc → FP → Prop} (cx : Cx w base outer g L A env n) (h1 : (x, (⟨.ref C, some dx, .plain, sl⟩ : Obj)) ∈ fp) (h2 : (dx, dictOf es ep) ∈ fp)
    (hs : findIn (K w.params) (.ref C) "__contains__" = some (some (.ref f))) (hf : isFn (K w.params) (.ref f) = true)
    (h : Op prog w A g L E (call (.ref f) [.ref x, v]) (fun r => Op prog w A g L E (truthy r) (fun b => Q (.bool b))) m fp) : Op prog w A g L E (compareOp .In v (.ref x)) Q m fp :=
  Op.of fun s F N _ k => in_K F cx.X (InstAt.of_news N h1 h2) hs hf (h.use F N fun _ _ _ _ _ F1 N1 q1 => q1.use F1 N1 fun _ _ _ _ _ F2 N2 q2 => k _ _ _ _ _ F2 N2 q2)
theorem o_subInst {value slice : PySem.Expr} {Q : Value → Loc → FP → Prop} (cx : Cx w base outer g L A env n) (h1 : (x, (⟨.ref C, some dx, .plain, sl⟩ : Obj)) ∈ fp) (h2 : (dx, dictOf es ep) ∈ fp)
    (hs : findIn (K w.params) (.ref C) "__getitem__" = some (some (.ref f))) (hf : isFn (K w.params) (.ref f) = true) (hfn : fnIn (K w.params) f = true)
    (h : Op prog w A.in1 g L E (call (.ref f) [.ref x, v]) Q m fp)
    (hsl : subscripted slice true (.ref x) v = runValue (.builtin "lifetime.subscript" ⟨[.ref x, v], []⟩) := by with_unfolding_all rfl) : Op prog w A g L E (subscriptTail value slice (.ref x) v) Q m fp :=
  Op.of fun s F N _ k => sub_K F cx.X (InstAt.of_news N h1 h2) hs hfn hf (h.use F N k) hsl
theorem o_setItemInst {Q : Unit → Loc → FP → Prop} (cx : Cx w base outer g L A env n) (h1 : (x, (⟨.ref C, some dx, .plain, sl⟩ : Obj)) ∈ fp) (h2 : (dx, dictOf es ep) ∈ fp) (hq : noSeq (K w.params) C = true)
    (hs : findIn (K w.params) (.ref C) "__setitem__" = some (some (.ref f))) (hf : isFn (K w.params) (.ref f) = true) {i : Value}
    (h : Op prog w A g L E (call (.ref f) [.ref x, i, v]) (fun _ => Q ()) m fp) : Op prog w A g L E (setItem (.ref x) i v) Q m fp :=
  Op.of fun s F N _ k => by
    have X := cx.X.keeps F.keep
    have I := InstAt.of_news N h1 h2
    unfold setItem sequenceKey
    refine wpAny_holding (wpAny_bind (wpAny_bind (I.type.here ?_)))
    refine wpAny_bind ((anyM_none X hq).here ?_)
    rw [if_pos (show (!false) = true from rfl)]
    exact wpAny_pure (wpAny_bind (special_fn X I hs (beq_iff_eq.mp hf) (h.use F N fun _ _ _ _ _ F1 N1 q1 => wpAny_pure (k _ _ _ _ _ F1 N1 q1))))
theorem o_delItemInst {Q : Unit → Loc → FP → Prop} (cx : Cx w base outer g L A env n) (h1 : (x, (⟨.ref C, some dx, .plain, sl⟩ : Obj)) ∈ fp) (h2 : (dx, dictOf es ep) ∈ fp) (hq : noSeq (K w.params) C = true)
    (hs : findIn (K w.params) (.ref C) "__delitem__" = some (some (.ref f))) (hf : isFn (K w.params) (.ref f) = true) {i : Value}
    (h : Op prog w A g L E (call (.ref f) [.ref x, i]) (fun _ => Q ()) m fp) : Op prog w A g L E (delItem (.ref x) i) Q m fp :=
  Op.of fun s F N _ k => by
    have X := cx.X.keeps F.keep
    have I := InstAt.of_news N h1 h2
    unfold delItem sequenceKey
    refine wpAny_holding (wpAny_bind (wpAny_bind (I.type.here ?_)))
    refine wpAny_bind ((anyM_none X hq).here ?_)
    rw [if_pos (show (!false) = true from rfl)]
    exact wpAny_pure (wpAny_bind (special_fn X I hs (beq_iff_eq.mp hf) (h.use F N fun _ _ _ _ _ F1 N1 q1 => wpAny_pure (k _ _ _ _ _ F1 N1 q1))))
theorem o_lenInst {Q : Value → Loc → FP → Prop} (cx : Cx w base outer g L A env n) (h1 : (x, (⟨.ref C, some dx, .plain, sl⟩ : Obj)) ∈ fp) (h2 : (dx, dictOf es ep) ∈ fp)
    (hs : findIn (K w.params) (.ref C) "__len__" = some (some (.ref f))) (hf : isFn (K w.params) (.ref f) = true)
    (h : Op prog w A.in1 g L E (call (.ref f) [.ref x]) (fun r m fp => ∃ z t, r = .int z t ∧ (0 ≤ z ∧ z < 2 ^ 63) ∧ ∀ t, Q (.int z t) m fp) m fp) : Op prog w A g L E (call (.builtin "len") [.ref x]) Q m fp :=
  Op.of fun s F N _ k => len_K F cx.X (InstAt.of_news N h1 h2) hs hf (h.use F N fun r h' t' m' fp' F1 N1 ⟨z, t, e, hz, q1⟩ => by subst e; exact ⟨hz, k _ h' (t' + 1) _ _ F1 N1 (q1 _)⟩)
@[reducible] def whileK (J : Nat → Loc → FP → Prop) (n : Nat) (Q : Flow → Loc → FP → Prop) : Flow → Loc → FP → Prop := fun f m fp => match f with | .next => ∃ n', n' < n ∧ J n' m fp | .cont => ∃ n', n' < n ∧ J n' m fp | .brk => Q .next m fp | .ret v => Q (.ret v) m fp
theorem o_while {test : PySem.Expr} {body : List Stmt} {pos : Pos} {Q : Flow → Loc → FP → Prop} (J : Nat → Loc → FP → Prop) (n₀ : Nat) (hJ : J n₀ m fp) (hL : env'.locals = L := by rfl)
    (turn : ∀ n m₁ fp₁, J n m₁ fp₁ → Op prog w A g L (fun _ _ => False) (isTrue test env' (eval test env')) (fun b m fp => if b then Op prog w A g L (fun _ _ => False) (execs body env')
      (whileK J n Q) m fp else Q .next m fp) m₁ fp₁) :
    Op prog w A g L E (exec (.While test body [] pos) env') Q m fp :=
  Op.of fun s F N Q' k => by
    refine wpAny_mono (E := XS (fun _ _ => False) s) (While_inv2 (Q := Q') J F N hJ (fun n m₁ fp₁ h₁ tk₁ F₁ N₁ J₁ => ?_) (fun _ _ ⟨_, _, _, h⟩ => h.elim)) (fun _ _ z => z) fun _ _ ⟨_, _, _, h⟩ => h.elim
    refine (turn n m₁ fp₁ J₁).use (s := { s with heap := h₁, toks := tk₁ }) F₁ N₁ fun b h' t' m' fp' F' N' q => ?_
    cases b with
    | false => exact k _ h' t' _ _ F' N' q
    | true =>
      refine Op.use (show Op prog w A g L (fun _ _ => False) (execs body env') _ m' fp' from q) (s := { s with heap := h', toks := t' }) F' N' fun f h2 t2 m2 fp2 F2 N2 q2 => ?_
      cases f with
      | next => obtain ⟨n', hn, hJ⟩ := q2; exact ⟨h2, t2, m2, fp2, n', rfl, F2, N2, hn, hJ⟩
      | cont => obtain ⟨n', hn, hJ⟩ := q2; exact ⟨h2, t2, m2, fp2, n', rfl, F2, N2, hn, hJ⟩
      | brk => exact k _ h2 t2 _ _ F2 N2 q2
      | ret v => exact k _ h2 t2 _ _ F2 N2 q2
end
end Mine
end
section
open PySem PySem.W PySem.Calls PyProof.Rows
set_option Elab.async false
set_option maxRecDepth 100000
set_option linter.unusedVariables false
namespace Mine

/-- a new exception of this class, with no traceback yet -/
def NewX (g₂ h' : Heap) (a : Addr) (cls : String) : Prop :=
  (∀ b o, g₂.get? b = some o → h'.get? b = some o) ∧ g₂.get? a = none ∧ ∃ oe vs a0, h'.get? a = some oe ∧ oe.cls = .type cls ∧ oe.data = .fields vs ∧ vs[1]? = some .none ∧ vs[0]? = some a0

/-- where an exception may stand that this frame raised or was given -/
def XC (base : Heap) (env : Env) (outer : List Env) (g : Heap) (L : Addr) (cls : String) (fp : FP) (P : Loc → Prop) : Value → Heap → Prop := fun e h' => ∃ a m', e = .ref a ∧ P m' ∧
  ((∃ g₂, Fr g L g₂ m' ∧ News g L g₂ fp ∧ NewX g₂ h' a cls) ∨
   (h'.Ns L m' ∧ g.objs.size ≤ L ∧ g.UpToSlots h' ∧ ∃ B a0, base.StaysIn B ∧ (∀ b o, g.get? b = some o → b ∉ (env :: outer).filterMap (·.frame) → B.get? b = some o) ∧
      (∀ q ∈ fp, B.get? q.1 = some q.2 ∧ q.1 ≠ L ∧ g.get? q.1 = none ∧ base.get? q.1 = none) ∧ (Heap.FlyingW B (env :: outer) a (.type cls) a0 h' ∨ Heap.HeldW B (env :: outer) a (.type cls) a0 L h')))

theorem XC.mono {base : Heap} {env : Env} {outer : List Env} {g : Heap} {L : Addr} {cls : String} {fp : FP} {P P' : Loc → Prop} {e : Value} {h' : Heap} (x : XC base env outer g L cls fp P e h') (k : ∀ m, P m → P' m) : XC base env outer g L cls fp P' e h' :=
  let ⟨a, m', h1, h2, h3⟩ := x; ⟨a, m', h1, k m' h2, h3⟩
/-- what a caller sees of it -/
def XR (base : Heap) (outer : List Env) (g : Heap) (cls : String) (fp : FP) (a : Addr) (h' : Heap) : Prop :=
  g.UpToSlots h' ∧ ∃ B a0, base.StaysIn B ∧ (∀ b o, g.get? b = some o → b ∉ outer.filterMap (·.frame) → B.get? b = some o) ∧
    (∀ q ∈ fp, B.get? q.1 = some q.2 ∧ g.get? q.1 = none ∧ base.get? q.1 = none) ∧ Heap.FlyingW B outer a (.type cls) a0 h'

theorem self_none {g h : Heap} {L : Addr} (above : g.objs.size ≤ L) : g.get? L = none := by
  cases q : g.get? L with
  | none => rfl
  | some o => exact absurd (Nat.lt_of_lt_of_le (Heap.lt_size q) above) (Nat.lt_irrefl _)
theorem mem_frames {env : Env} {outer : List Env} {L b : Addr} (hf : env.frame = some L) (hm : b ∈ (env :: outer).filterMap (·.frame)) : b = L ∨ b ∈ outer.filterMap (·.frame) := by
  obtain ⟨e, he, hb⟩ := List.mem_filterMap.mp hm
  rcases List.mem_cons.mp he with rfl | he
  · rw [hf] at hb; exact .inl (Option.some.inj hb).symm
  · exact .inr (List.mem_filterMap.mpr ⟨e, he, hb⟩)

section
variable {M : Model} {A : Around} {E : Value → Shared → Prop} {s' : Shared} {base g : Heap} {outer : List Env} {L f : Addr} {name : Str} {scope : Scope} {cd : Value} {fp : FP} {cls : String} {e : Value} {P : Loc → Prop} {Q : Unit → Shared → Prop}

theorem new_parts {g₂ : Heap} {m : Loc} (K : Below A base outer g) (F : Fr g L g₂ m) (N : News g L g₂ fp) (hk : scope.kind = .function) :
    ∃ B : Heap, (∀ b o, B.get? b = some o → g₂.get? b = some o) ∧ base.StaysIn B ∧ g₂.FunFrames B (envX name scope L f cd [] :: outer) ∧ (∀ b o, g.get? b = some o → b ∉ (envX name scope L f cd [] :: outer).filterMap (·.frame) → B.get? b = some o) ∧
      (∀ q ∈ fp, B.get? q.1 = some q.2 ∧ q.1 ≠ L ∧ g.get? q.1 = none ∧ base.get? q.1 = none) := by
  have K' := K.push (name := name) (a := f) (cd := cd) F hk
  refine ⟨hideAll g₂ ((envX name scope L f cd [] :: outer).filterMap (·.frame)), fun b o q => of_hideAll _ q, fun b o q => hideAll_get _ (K'.stays b o q) fun hm => ?_, funFrames_hide K'.frames fun env he b hb => List.mem_filterMap.mpr ⟨env, he, hb⟩, fun b o q nm => hideAll_get _ (F.keep b o q) nm, fun q hq => ⟨hideAll_get _ (N q hq).1 fun hm => ?_, (N q hq).2.1, (N q hq).2.2, fresh_of_stays K.stays (N q hq).2.2⟩⟩
  · rw [(K'.frames.mem hm).1] at q; cases q
  · rcases mem_frames (L := L) rfl hm with z | z
    · exact (N q hq).2.1 z
    · obtain ⟨o, ho, _⟩ := (K.frames.mem z).2
      rw [(N q hq).2.2] at ho; cases ho

theorem leaveX (K : Below A base outer g) (hx : XC base (envX name scope L f cd []) outer g L cls fp P e s'.heap)
    (hQ : ∀ a h', e = .ref a → XR base outer g cls fp a h' → Q () { s' with heap := h' }) (hk : scope.kind = .function := by rfl) :
    wpAny M (A.deeper (envX name scope L f cd [])) (leaving (envX name scope L f cd []) e) Q E s' := by
  obtain ⟨a, m', rfl, hP, hc⟩ := hx
  rcases hc with ⟨g₂, F, N, k1, k2, oe, vs, a0, he, hcl, hd, h1, h0⟩ | ⟨hns, hab, hup, B, a0, hB, hg, hl, hfl⟩
  · obtain ⟨B, b1, b2, b3, b4, b5⟩ := new_parts (name := name) (scope := scope) (f := f) (cd := cd) K F N hk
    have hen : B.get? a = none := by
      cases q : B.get? a with
      | none => rfl
      | some o => have := b1 _ _ q; rw [k2] at this; cases this
    refine wpAny_leaving_firstW (Around.frames_deeper K.stack) (b3.of_keeps fun b o hb _ => ⟨o, k1 b o hb, rfl⟩) rfl he (fun b o hb => k1 b o (b1 b o hb)) hen hd h1 h0 fun h' hL => ?_
    obtain ⟨x1, ⟨_, _, x2⟩, x3, x4⟩ := hL
    rw [hcl] at x3
    refine hQ a h' rfl ⟨((Heap.UpToSlots.of_keeps F.keep).trans (Heap.UpToSlots.of_keeps k1)).trans x4, B, a0, b2, fun b o q nm => b4 b o q fun hm => ?_, fun q hq => ⟨(b5 q hq).1, (b5 q hq).2.2⟩, ⟨x1, hen, x2, x3⟩⟩
    rcases mem_frames (L := L) rfl hm with z | z
    · rw [z, self_none (h := g) F.above] at q; cases q
    · exact nm z
  · have key : ∀ h', Heap.FlyingW B outer a (.type cls) a0 h' → s'.heap.UpToSlots h' → XR base outer g cls fp a h' := fun h' x1 x2 =>
      ⟨hup.trans x2, B, a0, hB, fun b o q nm => hg b o q fun hm => by
        rcases mem_frames (L := L) rfl hm with z | z
        · rw [z, self_none (h := g) hab] at q; cases q
        · exact nm z, fun q hq => ⟨(hl q hq).1, (hl q hq).2.2⟩, x1⟩
    rcases hfl with hfl | hh
    · exact wpAny_leaves_onW (Around.frames_deeper K.stack) rfl hfl fun h' x1 x2 => hQ a h' rfl (key h' x1 x2)
    · unfold leaving
      refine wpAny_bind (wpAny_noteFrame_againW rfl hh.2.2.2 ?_)
      refine wpAny_landsW hh fun h' hfl x2 => hQ a h' rfl (key h' ?_ x2)
      obtain ⟨f1, f2, ⟨_, _, f3⟩, f4⟩ := hfl
      exact ⟨f1, f2, f3, f4⟩

/-- seen by the caller, it stands in the caller's frame -/
theorem XR.toC {g₁ : Heap} {m : Loc} {env : Env} {h' : Heap} {a : Addr} (hf : env.frame = some L) (hx : XR base (env :: outer) g₁ cls fp a h') (F : Fr g L g₁ m) (hl : ∀ q ∈ fp, q.1 ≠ L) : XC base env outer g L cls fp (fun m' => m' = m) (.ref a) h' := by
  obtain ⟨x1, B, a0, x2, x3, x4, x5⟩ := hx
  refine ⟨a, m, rfl, rfl, .inr ⟨x1.ns F.ns, F.above, (Heap.UpToSlots.of_keeps F.keep).trans x1, B, a0, x2, fun b o q nm => x3 b o (F.keep b o q) nm, fun q hq => ⟨(x4 q hq).1, hl q hq, ?_, (x4 q hq).2.2⟩, .inl x5⟩⟩
  cases q' : g.get? q.1 with
  | none => rfl
  | some o => have := F.keep _ _ q'; rw [(x4 q hq).2.1] at this; cases this
end

section
variable {prog : Program} {w : World} {A : Around} {g base : Heap} {outer : List Env} {L : Addr} {E : Value → Heap → Prop} {m : Loc} {fp : FP} {n : Nat}

/-- a def of the written part, called; it may raise -/
theorem o_callE {env : Env} {name qual : Str} {params : Arguments} {body : List Stmt} {scope : Scope} {dV kV doc pm cdv ct oc : Value} {an od : Option Addr} {osl : Array (Option Value)} {f : Addr} {pos : List Value} {kw : List (Str × Value)} {binds : List (Str × Value)}
    {Q : Value → Loc → FP → Prop} {cls : String} {P : Loc → Prop} (cx : Cx w base outer g L A env (n + 1))
    (ho : (K w.params).lookup f = some ⟨oc, od, .func (fnOf name qual params body scope dV kV doc pm an cdv ct), osl⟩) (hcd : codeIn (K w.params) cdv qual = true)
    (hbind : ∀ s : Shared, (K w.params).In s.heap → BindsTo s (fnOf name qual params body scope dV kV doc pm an cdv ct) ⟨pos, kw⟩ binds)
    (hloc : ∀ y ∈ binds, scope.names.lookup y.1 = some .local) (hcell : ∀ x ∈ scope.names, x.2 ≠ .cell)
    (h : ∀ g' L', Cx w base (env :: outer) g' L' (A.deeper (envX qual scope L' f cdv [])) (envX qual scope L' f cdv []) n → g.StaysIn g' → (∀ p ∈ fp, p.1 < L') →
      Op prog w (A.deeper (envX qual scope L' f cdv [])) g' L' (XC base (envX qual scope L' f cdv []) (env :: outer) g' L' cls fp P) (execs body (envX qual scope L' f cdv [])) (backK Q m) (fun y => binds.reverse.lookup y) fp)
    (hE : ∀ e h', XC base env outer g L cls fp (fun m' => m' = m) e h' → E e h')
    (hco : scope.isCoroutine = false := by rfl) (hgen : scope.isGenerator = false := by rfl) (hk : scope.kind = .function := by rfl) :
    Op prog w A g L E (call (.ref f) pos kw) Q m fp := .intro fun s F N => by
  obtain ⟨A₀, B⟩ := cx.B
  obtain ⟨p, loose, mg, mb, T⟩ := cx.T
  have X := cx.X.keeps F.keep
  refine wpAny_call (callX_plain (cl := []) B F N T.nolimit cx.hA cx.hf cx.hke (X _ _ ho) rfl (codeRec_of X hcd) (by have := cx.depth; simp only [recursionLimit]; omega) (hbind s X) hloc (fun g' L' h₁ FG F' N' B' st lt => ?_) hcell hco hgen hk)
  refine wpAny_mono ((h g' L' ⟨cx.X.keeps st, ⟨p, loose, mg, mb, T.keeps st⟩, ⟨A, B'⟩, Around.frames_deeper cx.hA, rfl, hk, ?_, ?_, ?_, cx.XB, cx.TB⟩ st lt).use (s₀ := s) F' N' fun fl h' t' m' fp' F1 N1 q => ?_) (fun _ _ z => z) fun e s₁ ⟨h', t', es, hx⟩ => ?_
  · have := cx.depth; show A.depth + 1 + n ≤ 600; omega
  · have := cx.units; show A.units + 3 + 20 * n ≤ 6000; omega
  · exact cx.handled
  · cases fl <;> exact leaveK_ F1 N1 fun F2 N2 => ⟨h', t', m, fp', rfl, F2, N2, q⟩
  · subst es
    refine leaveX B' hx (fun a h'' ea hr => ?_) hk
    subst ea
    exact ⟨h'', t', rfl, hE _ _ (hr.toC cx.hf FG fun q hq => (N q hq).2.1)⟩
end
end Mine
end
section
open PySem PySem.W PySem.Calls PyProof.Rows
set_option Elab.async false
set_option maxRecDepth 100000
set_option linter.unusedVariables false
namespace Mine

section
variable {prog : Program} {w : World} {A : Around} {E : Value → Shared → Prop} {s : Shared} {env : Env} {X N I : String}

/-- an exception object that was just made -/
def Made (X : String) (a : Addr) (h : Heap) : Prop := ∃ ob vs, h.get? a = some ob ∧ ob.cls = .type X ∧ ob.data = .fields vs ∧ vs[1]? = some .none ∧ 4 < vs.size

theorem made_notType {a : Addr} {Q : Bool → Shared → Prop} (x : Made X a s.heap) (h : Q false s) : wpAny (model prog w) A (isType (.ref a)) Q E s := by
  obtain ⟨ob, vs, ha, hcls, hd, h1, _⟩ := x
  simp only [isType, loadHead]
  refine wpAny_bind (wpAny_loadPart ha ?_)
  rw [hd]
  exact wpAny_pure h
theorem made_value {a : Addr} {msg : String} {Q : Value → Shared → Prop} (hc : ExcClass X N I) (x : Made X a s.heap) (h : Q (.ref a) s) : wpAny (model prog w) A (excFromValue (.ref a) msg) Q E s := by
  unfold excFromValue isExcClass
  refine wpAny_bind (wpAny_bind (made_notType x ?_))
  simp only [Bool.false_eq_true, if_false]
  refine wpAny_pure ?_
  simp only [Bool.false_eq_true, if_false]
  obtain ⟨ob, vs, ha, hcls, hd, h1, _⟩ := x
  refine wpAny_bind (wpAny_isInstance (T := X) ⟨ob, ha, hcls⟩ hc.base ?_)
  simp only [if_true]
  exact wpAny_pure h
theorem made_instance {a : Addr} {Q : Value → Shared → Prop} (hc : ExcClass X N I) (x : Made X a s.heap) (h : Q (.ref a) s) : wpAny (model prog w) A (raisedInstance (.ref a)) Q E s := by
  obtain ⟨ob, vs, ha, hcls, hd, h1, _⟩ := x
  unfold raisedInstance
  refine wpAny_bind (wpAny_typeOf (T := X) ⟨ob, ha, hcls⟩ (wpAny_bind (m := typeOf (.type X)) (wpAny_pure ?_)))
  rw [if_pos hc.metaType]
  exact wpAny_pure h
theorem made_flight {a : Addr} {Q : Unit → Shared → Prop} (x : Made X a s.heap) (h : Q () s) : wpAny (model prog w) A (setFlight (.ref a) none) Q E s := by
  obtain ⟨ob, vs, ha, hcls, hd, h1, _⟩ := x
  unfold setFlight
  refine wpAny_bind (wpAny_field ha hd h1 ?_)
  rw [if_neg (by decide)]
  exact wpAny_pure h
theorem made_raise {e : PySem.Expr} {pos : Pos} {Q : Flow → Shared → Prop} (hc : ExcClass X N I)
    (h : wpAny (model prog w) A (eval e env) (fun v s₁ => ∃ a, v = .ref a ∧ Made X a s₁.heap ∧ wpAny (model prog w) A (raiseNew (.ref a)) Q E s₁) E s) :
    wpAny (model prog w) A (exec (.Raise (some e) none pos) env) Q E s := by
  rw [arm_exec_Raise]
  refine wpAny_bind (wpAny_standAt ?_)
  show wpAny (model prog w) A (raiseStmt env (some (do let v ← eval e env; standAt pos; pure v)) none) Q E s
  unfold raiseStmt
  dsimp only
  refine wpAny_bind (wpAny_bind (wpAny_mono h (fun v s₁ h₁ => wpAny_bind (wpAny_standAt (wpAny_pure ?_))) fun _ _ x => x))
  obtain ⟨a, rfl, hm, hr⟩ := h₁
  refine wpAny_bind (wpAny_pure ?_)
  dsimp only
  refine wpAny_bind (wpAny_holding (made_value hc hm ?_))
  refine wpAny_bind (made_notType hm ?_)
  simp only [Bool.false_eq_true, if_false]
  exact wpAny_bind (made_instance hc hm (wpAny_bind (made_flight hm hr)))
theorem made_raiseFrom {e : PySem.Expr} {k : Nat} {p2 pos : Pos} {Q : Flow → Shared → Prop} (hc : ExcClass X N I)
    (h : wpAny (model prog w) A (eval e env) (fun v s₁ => ∃ a, v = .ref a ∧ Made X a s₁.heap ∧ ∀ h', Made X a h' → (∀ b o, b ≠ a → s₁.heap.get? b = some o → h'.get? b = some o) → (∀ ob vs a0, s₁.heap.get? a = some ob → ob.data = .fields vs → vs[0]? = some a0 → ∃ ob' vs', h'.get? a = some ob' ∧ ob'.data = .fields vs' ∧ vs'[0]? = some a0) →
      wpAny (model prog w) A (raiseNew (.ref a)) Q E { s₁ with heap := h' }) E s) :
    wpAny (model prog w) A (exec (.Raise (some e) (some (.Constant .none k p2)) pos) env) Q E s := by
  rw [arm_exec_Raise]
  refine wpAny_bind (wpAny_standAt ?_)
  show wpAny (model prog w) A (raiseStmt env (some (do let v ← eval e env; standAt pos; pure v)) (some (do let v ← eval (.Constant .none k p2) env; standAt pos; pure v))) Q E s
  unfold raiseStmt
  dsimp only
  refine wpAny_bind (wpAny_bind (wpAny_mono h (fun v s₁ h₁ => wpAny_bind (wpAny_standAt (wpAny_pure ?_))) fun _ _ x => x))
  obtain ⟨a, rfl, hm, hr⟩ := h₁
  refine wpAny_bind (wpAny_holding (wpAny_bind (wpAny_Constant_none (wpAny_bind (wpAny_standAt (wpAny_pure ?_))))))
  refine wpAny_bind (wpAny_pure ?_)
  dsimp only
  refine wpAny_bind (wpAny_holding (made_value hc hm ?_))
  have hm0 := hm
  obtain ⟨ob, vs, ha, hcls, hd, h1, h4⟩ := hm
  rw [if_pos (by decide)]
  refine wpAny_bind (wpAny_pure ?_)
  refine wpAny_bind (wpAny_setField ha hd (by omega) ?_)
  have hd1 := Obj.data_mapFields hd (·.setIfInBounds 3 Value.none)
  have ha1 := Heap.get?_update_self (Obj.mapFields (·.setIfInBounds 3 Value.none)) ha (Obj.isFreed_of_fields hd1)
  refine wpAny_bind (wpAny_setField ha1 hd1 (by simpa using h4) ?_)
  have hd2 := Obj.data_mapFields hd1 (·.setIfInBounds 4 (Value.bool true))
  have ha2 := Heap.get?_update_self (Obj.mapFields (·.setIfInBounds 4 (Value.bool true))) ha1 (Obj.isFreed_of_fields hd2)
  have hm2 : Made X a ((s₁.heap.update a (Obj.mapFields (·.setIfInBounds 3 Value.none))).update a (Obj.mapFields (·.setIfInBounds 4 (Value.bool true)))) :=
    ⟨_, _, ha2, by rw [Obj.cls_mapFields, Obj.cls_mapFields]; exact hcls, hd2, by simpa using h1, by simpa using h4⟩
  have hr2 := hr _ hm2 (fun b o hb hbo => by rw [Heap.get?_update_other _ _ (Ne.symm hb), Heap.get?_update_other _ _ (Ne.symm hb)]; exact hbo)
    (fun ob' vs' a0 q1 q2 q3 => by rw [ha] at q1; cases q1; rw [hd] at q2; cases q2; exact ⟨_, _, ha2, hd2, by simpa using q3⟩)
  refine wpAny_bind (made_notType (s := { s₁ with heap := _ }) hm2 ?_)
  simp only [Bool.false_eq_true, if_false]
  exact wpAny_bind (made_instance (s := { s₁ with heap := _ }) hc hm2 (wpAny_bind (made_flight (s := { s₁ with heap := _ }) hm2 hr2)))
end

section
variable {prog : Program} {w : World} {A : Around} {g base : Heap} {outer : List Env} {L : Addr} {E : Value → Heap → Prop} {m : Loc} {fp : FP} {n : Nat} {env env' : Env} {cls : String}

theorem NewX.of_new {g₂ h' : Heap} {a : Addr} (x : Heap.NewExc g₂ h' a cls) : NewX g₂ h' a cls :=
  let ⟨ob, t, h1, h2, h3⟩ := x.there
  ⟨x.keeps, x.new, ob, _, t, h1, h2, h3, rfl, rfl⟩

/-- an exception made anew in this frame -/
theorem XC.fresh {h h' : Heap} {a : Addr} (F : Fr g L h m) (N : News g L h fp) (x : NewX h h' a cls) : XC base env outer g L cls fp (fun m' => m' = m) (.ref a) h' :=
  ⟨a, m, rfl, rfl, .inl ⟨h, F, N, x⟩⟩

variable {d : Addr} {o : Obj} {kvs : List (Int × Value)} {k : Int} {t : Tok}
theorem o_itemMiss {value slice : PySem.Expr} {Q : Value → Loc → FP → Prop} (hh : A.handled = none) (hm : (d, o) ∈ fp) (hd : IsD prog w o kvs) (lo : (d == sysModules) = false) (hl : valueAt kvs k = none)
    (hE : ∀ h a h', Fr g L h m → News g L h fp → Heap.NewExc h h' a "KeyError" → E (.ref a) h')
    (hs : subscripted slice false (.ref d) (.int k t) = operate [.ref d, .int k t] (getItem (.ref d) (.int k t)) := by with_unfolding_all rfl) :
    Op prog w A g L E (subscriptTail value slice (.ref d) (.int k t)) Q m fp :=
  Op.of fun s F N _ kk => have hD := kda_dict (knd := PySem.intKind prog w) N hm hd
    tail_any hD.typeIs slot_dict_getitem.lookup (wpAny_getItem_missing_of (knd := PySem.intKind prog w) (intKind_is _ _ _ _) lo hh hD.mapOf hl fun h' e x => ⟨h', s.toks + 1, rfl, hE _ _ _ F N x⟩) hs
theorem o_popMiss {Q : Value → Loc → FP → Prop} (hh : A.handled = none) (hm : (d, o) ∈ fp) (hd : IsD prog w o kvs) (lo : (d == sysModules) = false) (hl : valueAt kvs k = none)
    (hE : ∀ e h', XC base env outer g L "KeyError" fp (fun m' => m' = m) e h' → E e h') :
    Op prog w A g L E (call (.builtin "dict.pop") [.ref d, .int k t]) Q m fp :=
  Op.of fun s F N _ kk => have hD := kda_dict (knd := PySem.intKind prog w) N hm hd
    call_meetsIn PySem.F.slot_dict_pop hD.typeIs PySem.F.entry_dict_pop (PySem.F.args_dict_pop_2 _ _) (meets_dict_pop_missing (PySem.intKind prog w) d (intKind_is _ _ _ _) lo rfl) ⟨hh, kvs, hD, hl, fun h' e x => ⟨h', s.toks + 1, rfl, hE _ _ (XC.fresh F N (.of_new x))⟩⟩
theorem o_delMiss {Q : Unit → Loc → FP → Prop} (hh : A.handled = none) (hm : (d, o) ∈ fp) (hd : IsD prog w o kvs) (lo : (d == sysModules) = false) (hl : valueAt kvs k = none)
    (hE : ∀ e h', XC base env outer g L "KeyError" fp (fun m' => m' = m) e h' → E e h') :
    Op prog w A g L E (delItem (.ref d) (.int k t)) Q m fp :=
  Op.of fun s F N _ kk => have hD := kda_dict (knd := PySem.intKind prog w) N hm hd
    wpAny_delItem_slot hD.typeIs (by decide) PySem.F.slot_dict_delitem (call_meetsIn PySem.F.slot_dict_delitem hD.typeIs PySem.F.entry_dict_delitem (PySem.F.args_dict_delitem_2 _ _) (meets_dict_delitem_missing (PySem.intKind prog w) d (intKind_is _ _ _ _) lo)
      ⟨hh, kvs, hD, hl, fun h' e x => ⟨h', s.toks + 1, rfl, hE _ _ (XC.fresh F N (.of_new x))⟩⟩)

theorem Made.of_new {h₀ h' : Heap} {a : Addr} (x : Heap.NewExc h₀ h' a cls) : Made cls a h' :=
  let ⟨ob, t, h1, h2, h3⟩ := x.there
  ⟨ob, _, h1, h2, h3, rfl, by simp⟩
theorem raiseNew_none {α : Type} {A : Around} {E : Value → Shared → Prop} {s : Shared} {e : Value} {Q : α → Shared → Prop} (hh : A.handled = none) (h : E e s) : wpAny (model prog w) A (raiseNew e) Q E s :=
  wpAny_raiseNew_none hh h
/-- raise X(arg) -/
theorem o_raise {N I : String} {x : Str} {np cpos pos : Pos} {a : PySem.Expr} {Q : Flow → Loc → FP → Prop} (hc : ExcClass cls N I) (hh : A.handled = none)
    (h : Op prog w A g L E (eval (.Name x np) env') (fun f m fp => f = .type cls ∧ Op prog w A g L E (eval a env') (fun _ m fp => ∀ e h', XC base env outer g L cls fp (fun m' => m' = m) e h' → E e h') m fp) m fp)
    (ha : starEach [a] env' = (false, eval a env') :: starEach [] env' := by rfl)
    (he : eval (.Call (.Name x np) [a] [] cpos) env' = (do callWith cpos (← eval (.Name x np) env') [] (backTo cpos (starEach [a] env')) (backToKw cpos (keywordEach [] env'))) := by rfl) :
    Op prog w A g L E (exec (.Raise (some (.Call (.Name x np) [a] [] cpos)) none pos) env') Q m fp :=
  Op.of fun s F N _ kk => by
    refine made_raise hc (Call_ (h.use F N fun f h1 t1 m1 fp1 F1 N1 q => ?_) he)
    obtain ⟨rfl, q⟩ := q
    refine callWith_type1 (args_cons (q.use F1 N1 fun v h2 t2 m2 fp2 F2 N2 q2 => args_nil (call_exc hc (fun h' e x => ⟨e, rfl, .of_new x, raiseNew_none hh ⟨h', t2, rfl, q2 _ _ (XC.fresh F2 N2 (.of_new x))⟩⟩) (by show 1 ≤ sizeLine; rw [sizeLine_eq]; decide))) ha) ha
end
end Mine
end
section
open PySem PySem.W PySem.Calls PyProof.Rows
set_option Elab.async false
set_option maxRecDepth 100000
set_option linter.unusedVariables false
namespace Mine

/-- an exception that is looked at here: its own object does not change any more -/
def Fly2 (B : Heap) (l : List Env) (a : Addr) (oe : Obj) (h : Heap) : Prop := B.StaysIn h ∧ B.get? a = none ∧ h.FunFrames B l ∧
  ∃ vs T oT ts, h.get? a = some oe ∧ oe.data = .fields vs ∧ vs[1]? = some (.ref T) ∧ vs[2]? = some .none ∧ B.get? T = none ∧ T ≠ a ∧ h.get? T = some oT ∧ oT.data = .fields ts ∧ 3 < ts.size

section
variable {M : Model} {A : Around} {E : Value → Shared → Prop} {s : Shared} {B : Heap} {env : Env} {outer l : List Env} {L a : Addr} {cls : String} {Q : Unit → Shared → Prop} {oe : Obj}

theorem noteFirst {g₂ : Heap} (hfr : A.frames = some (env :: outer)) (hf : env.frame = some L) (hl : s.heap.FunFrames B (env :: outer)) (hB : B.StaysIn s.heap) (hen : B.get? a = none) (hx : Heap.NewExc g₂ s.heap a cls)
    (h : ∀ h' oe, oe.cls = .type cls → Fly2 B (env :: outer) a oe h' → s.heap.UpToSlots h' → Q () { s with heap := h' }) : wpAny M A (noteFrame (.ref a) env) Q E s := by
  obtain ⟨oe, t, he, hcl, hd⟩ := hx.there
  have hene : a ∉ (env :: outer).filterMap (·.frame) := fun hm => by
    obtain ⟨_, o, ho, hnf⟩ := hl.mem hm
    rw [he] at ho; cases ho; exact hnf _ hd
  unfold noteFrame
  simp only [hf]
  refine wpAny_bind (wpAny_field (x := Value.none) he hd rfl ?_)
  rw [if_neg (by decide)]
  refine wpAny_bind (wpAny_frameOf_fun hfr hl hf fun h₁ hs₁ => ?_)
  refine wpAny_bind (wpAny_entryPlaceOf fun pl hpl => ?_)
  unfold EntryCells.newEntry newFields
  refine wpAny_bind (wpAny_newObj_type ?_ (hpl.sizeOk5 _ _ _ _ _))
  have he₁ : h₁.get? a = some oe := (hs₁.2.1 a hene).trans he
  have kb₁ : B.StaysIn h₁ := fun b o hbo => (hs₁.2.1 b fun hm => by rw [(hl.mem hm).1] at hbo; cases hbo).trans (hB b o hbo)
  have he₂ := Heap.get?_push_of_some (h := h₁) { cls := .type "traceback", dict := none, data := .fields ([Value.none, .ref L, .none, rawInt L, .none] ++ (if pl.isEmpty then List.replicate 6 Value.none else pl)).toArray } he₁
  have hTa : h₁.objs.size ≠ a := Nat.ne_of_gt (Heap.lt_size he₁)
  refine wpAny_setField he₂ hd (by simp) (h _ (Obj.mapFields (·.setIfInBounds 1 (Value.ref h₁.objs.size)) oe) (by rw [Obj.cls_mapFields]; exact hcl) ?_ ?_)
  · have hd₃ := Obj.data_mapFields hd (·.setIfInBounds 1 (Value.ref h₁.objs.size))
    have keep : ∀ b o, b ≠ a → h₁.get? b = some o →
        ((h₁.push { cls := .type "traceback", dict := none, data := .fields ([Value.none, .ref L, .none, rawInt L, .none] ++ (if pl.isEmpty then List.replicate 6 Value.none else pl)).toArray }).update a (Obj.mapFields (·.setIfInBounds 1 (Value.ref h₁.objs.size)))).get? b = some o := fun b o hb hbo => by
      rw [Heap.get?_update_other _ _ (Ne.symm hb)]
      exact Heap.get?_push_of_some _ hbo
    have tbd : ∃ ts, ({ cls := .type "traceback", dict := none, data := .fields ([Value.none, .ref L, .none, rawInt L, .none] ++ (if pl.isEmpty then List.replicate 6 Value.none else pl)).toArray } : Obj).data = .fields ts ∧ 3 < ts.size := ⟨_, rfl, by simp⟩
    obtain ⟨ts, tb1, tb2⟩ := tbd
    refine ⟨fun b o hbo => keep b o (fun q => by rw [q, hen] at hbo; cases hbo) (kb₁ b o hbo), hen, hl.of_keeps fun b o hb hnf => ?_, _, h₁.objs.size, _, ts, Heap.get?_update_self _ he₂ (Obj.isFreed_of_fields hd₃), hd₃, by simp, by simp, kb₁.fresh, hTa, (Heap.get?_update_other _ _ (Ne.symm hTa)).trans (Heap.get?_push_size h₁ rfl), tb1, tb2⟩
    · obtain ⟨sl, hs⟩ := hs₁.2.2 b o hb
      exact ⟨_, keep b _ (fun q => by subst q; rw [he] at hb; cases hb; exact hnf _ hd) hs, rfl⟩
  · intro b o hb hnf
    obtain ⟨sl, hs⟩ := hs₁.2.2 b o hb
    refine ⟨sl, ?_⟩
    rw [Heap.get?_update_other _ _ (fun q => by subst q; rw [he] at hb; cases hb; exact hnf _ hd)]
    exact Heap.get?_push_of_some _ hs

theorem flightNone {fr : Option Addr} (x : Fly2 B l a oe s.heap) (h : ∀ h', Fly2 B l a oe h' → s.heap.UpToSlots h' → Q () { s with heap := h' }) : wpAny M A (setFlight (.ref a) fr) Q E s := by
  obtain ⟨x1, x2, x3, vs, T, oT, ts, he, hd, h1, h2, hT, hTa, hTg, hTd, h3⟩ := x
  unfold setFlight
  refine wpAny_bind (wpAny_field he hd h1 ?_)
  rw [if_pos (by simp)]
  have hd' := Obj.data_mapFields hTd (·.setIfInBounds 3 (fr.elim Value.none fun f => rawInt f))
  have other : ∀ b, b ≠ T → (s.heap.update T (Obj.mapFields (·.setIfInBounds 3 (fr.elim Value.none fun f => rawInt f)))).get? b = s.heap.get? b := fun b hb => Heap.get?_update_other _ _ (Ne.symm hb)
  have notT : ∀ b o, s.heap.get? b = some o → (∀ vs, o.data ≠ .fields vs) → b ≠ T := fun b o hb hnf q => by
    subst q; rw [hTg] at hb; cases hb; exact hnf _ hTd
  refine wpAny_setField hTg hTd h3 (h _ ⟨fun b o hbo => (other b fun q => by rw [q, hT] at hbo; cases hbo).trans (x1 b o hbo), x2, x3.of_keeps fun b o hb hnf => ⟨o, (other b (notT b o hb hnf)).trans hb, rfl⟩,
    vs, T, _, _, (other a (Ne.symm hTa)).trans he, hd, h1, h2, hT, hTa, Heap.get?_update_self _ hTg (Obj.isFreed_of_fields hd'), hd', by simpa using h3⟩ fun b o hb hnf => ⟨o.slots, (other b (notT b o hb hnf)).trans hb⟩)
end

/-- after a landing the frame stands on a heap that differs from its own in the slots of the outer frames alone -/
theorem ground {A₀ : Around} {base g B h₅ : Heap} {env : Env} {outer : List Env} {L : Addr} {m : Loc} (K : Below A₀ base outer g) (hf : env.frame = some L) (hns : h₅.Ns L m) (hab : g.objs.size ≤ L)
    (hBg : ∀ b o, g.get? b = some o → b ∉ (env :: outer).filterMap (·.frame) → B.get? b = some o) (hBh : B.StaysIn h₅) (hsm : g.UpToSlots h₅) :
    ∃ g', KtsTurn (outer.filterMap (·.frame)) g g' ∧ Fr g' L h₅ m ∧ Below A₀ base outer g' := by
  obtain ⟨T, S⟩ := kts_turn_at (h := h₅) (fs := outer.filterMap (·.frame)) (g := g)
    (fun b hb => let ⟨_, o, ho, _⟩ := K.frames.mem hb; ⟨o, ho⟩)
    (fun b o e nm => hBh b o (hBg b o e fun hm => by
      rcases mem_frames hf hm with z | z
      · rw [z, self_none (h := g) hab] at e; cases e
      · exact nm z))
    (fun b o e hm => by
      obtain ⟨_, o', ho', hd⟩ := K.frames.mem hm
      rw [e] at ho'; cases ho'
      exact hsm b o e hd)
  refine ⟨_, T, ⟨hns, S, by rw [T.size]; exact hab⟩, ⟨K.stack, fun b o e => T.other b o (K.stays b o e) (fun hm => by rw [(K.frames.mem hm).1] at e; cases e), K.frames.of_keeps fun b o e _ => ?_⟩⟩
  obtain ⟨sl, hs⟩ := T.up e
  exact ⟨_, hs, rfl⟩
theorem turn_upto {fs : List Addr} {g g' : Heap} (T : KtsTurn fs g g') : g.UpToSlots g' := fun b o e _ => T.up e
end Mine
end
section
open PySem PySem.W PySem.Calls PyProof.Rows
set_option Elab.async false
set_option maxRecDepth 100000
set_option linter.unusedVariables false
namespace Mine
theorem entry_unchain : entryFor table "proto.unchain" = some Builtin.«proto.unchain» := entryFor_of_tree (by kernel_rfl)

section
variable {prog : Program} {w : World} {A : Around} {E : Value → Shared → Prop} {s : Shared}
theorem raiseNew_some {α : Type} {a e : Addr} {oe : Obj} {vs : Array Value} {X : String} {Q : α → Shared → Prop} (hh : A.handled = some (.ref a)) (ha : s.heap.get? a = some oe) (hd : oe.data = .fields vs) (h2 : vs[2]? = some .none) (hne : a ≠ e) (hm : Made X e s.heap)
    (h : ∀ h', (∀ b o, b ≠ e → s.heap.get? b = some o → h'.get? b = some o) → Made X e h' → (∀ ob ws a0, s.heap.get? e = some ob → ob.data = .fields ws → ws[0]? = some a0 → ∃ ob' ws', h'.get? e = some ob' ∧ ob'.data = .fields ws' ∧ ws'[0]? = some a0) →
      E (.ref e) { s with heap := h' }) :
    wpAny (model prog w) A (raiseNew (.ref e)) Q E s := by
  unfold raiseNew
  refine wpAny_bind (wpAny_handled ?_)
  rw [hh]
  dsimp only
  rw [if_pos (by simpa using hne)]
  obtain ⟨ob, ws, he, hcl, hde, h1, h4⟩ := hm
  have hde' := Obj.data_mapFields hde (·.setIfInBounds 2 (Value.ref a))
  have he' := Heap.get?_update_self (Obj.mapFields (·.setIfInBounds 2 (Value.ref a))) he (Obj.isFreed_of_fields hde')
  have fin : wpAny (model prog w) A (do updateField e 2 (.ref a); throw (.ref e) : Sem α) Q E s := by
    refine wpAny_bind (m := updateField e 2 (.ref a)) (show wpAny _ _ (setField (.ref e) 2 (.ref a)) _ _ _ from wpAny_setField he hde (by omega) (wpAny_throw (h _ (fun b o hb hbo => ?_) ⟨_, _, he', by rw [Obj.cls_mapFields]; exact hcl, hde', by simpa using h1, by simpa using h4⟩ fun ob' ws' a0 q1 q2 q3 => ?_)))
    · rw [Heap.get?_update_other _ _ (Ne.symm hb)]; exact hbo
    · rw [he] at q1; cases q1; rw [hde] at q2; cases q2
      exact ⟨_, _, he', hde', by simpa using q3⟩
  refine wpAny_bind (wpAny_holding (wpAny_runValue (codeAny_builtin entry_unchain ?_)))
  show wpAny _ _ (field (.ref a) 2 >>= _) _ _ s
  refine wpAny_bind (wpAny_field ha hd h2 ?_)
  rw [if_pos (by decide)]
  exact wpAny_pure fin
end
end Mine
end
section
open PySem PySem.W PySem.Calls PyProof.Rows
set_option Elab.async false
set_option maxRecDepth 100000
set_option linter.unusedVariables false
namespace Mine
theorem subKeyKey : isSubtype (.type "KeyError") (.type "KeyError") = pure true := by rw [isSubtype_type]; kernel_rfl

/-- what a landing leaves: the frame on its turned heap, and where the exception stands -/
structure Landed (w : World) (A₀ : Around) (base : Heap) (env : Env) (outer : List Env) (g g' : Heap) (L : Addr) (m : Loc) (fp : FP) (a : Addr) (oe : Obj) (h : Heap) : Prop where
  turn : KtsTurn (outer.filterMap (·.frame)) g g'
  fr : Fr g' L h m
  news : News g' L h ((a, oe) :: fp)
  below : Below A₀ base outer g'
  fly : ∃ B, base.StaysIn B ∧ (∀ b o, g.get? b = some o → b ∉ (env :: outer).filterMap (·.frame) → B.get? b = some o) ∧ (∀ q ∈ fp, B.get? q.1 = some q.2 ∧ q.1 ≠ L ∧ g.get? q.1 = none ∧ base.get? q.1 = none) ∧ g.UpToSlots h ∧ g.objs.size ≤ L ∧ Fly2 B (env :: outer) a oe h
  val : ∃ vs, oe.data = .fields vs ∧ vs[2]? = some .none

section
variable {prog : Program} {w : World} {A₀ : Around} {E : Value → Shared → Prop} {s' : Shared} {base g B : Heap} {outer : List Env} {L f a : Addr} {m : Loc} {name : Str} {scope : Scope} {cd : Value} {fp : FP} {oe : Obj} {cls : String}

theorem landed {h : Heap} (K : Below A₀ base outer g) (hns : h.Ns L m) (hab : g.objs.size ≤ L) (hB : base.StaysIn B) (hBg : ∀ b o, g.get? b = some o → b ∉ (envX name scope L f cd [] :: outer).filterMap (·.frame) → B.get? b = some o)
    (hl : ∀ q ∈ fp, B.get? q.1 = some q.2 ∧ q.1 ≠ L ∧ g.get? q.1 = none ∧ base.get? q.1 = none) (hup : g.UpToSlots h) (hfl : Fly2 B (envX name scope L f cd [] :: outer) a oe h) :
    ∃ g', Landed w A₀ base (envX name scope L f cd []) outer g g' L m fp a oe h := by
  obtain ⟨g', T, F, K'⟩ := ground (env := envX name scope L f cd []) K rfl hns hab hBg hfl.1 hup
  have hLB : B.get? L = none := by
    obtain ⟨_, ⟨L', _, hf, hn', _⟩, _⟩ := hfl.2.2.1
    obtain rfl : L = L' := Option.some.inj hf
    exact hn'
  have hfl0 := hfl
  obtain ⟨x1, x2, x3, vs, Tb, oT, ts, he, hd, h1, h2, _⟩ := hfl
  have fresh : ∀ b, B.get? b = none → b ∉ (envX name scope L f cd [] :: outer).filterMap (·.frame) → g.get? b = none := fun b hb hm => by
    cases q : g.get? b with
    | none => rfl
    | some o => have := hBg b o q hm; rw [hb] at this; cases this
  have ea : a ∉ (envX name scope L f cd [] :: outer).filterMap (·.frame) := fun hm => by
    obtain ⟨_, o, ho, hnf⟩ := x3.mem hm
    rw [he] at ho; cases ho; exact hnf _ hd
  refine ⟨g', T, F, fun q hq => ?_, K', ⟨B, hB, hBg, hl, hup, hab, hfl0⟩, vs, hd, h2⟩
  rcases List.mem_cons.mp hq with rfl | hq
  · exact ⟨he, fun e => ea (List.mem_filterMap.mpr ⟨_, .head _, congrArg some (Eq.symm e)⟩), T.none_ _ (fresh a x2 ea)⟩
  · obtain ⟨b1, b2, b3, b4⟩ := hl q hq
    exact ⟨x1 _ _ b1, b2, T.none_ _ b3⟩

/-- an exception new in this frame, caught by an `except X:` of the same class: the suite begins -/
theorem caughtNew {h : Heap} {x : Str} {np pos : Pos} {b₀ : Stmt} {suite : List Stmt} {rest : List ExceptHandler} {Q : Flow → Shared → Prop} {X : String}
    (XB : (K w.params).In base) (TB : ∃ p loose mg mb, TopRead p loose mg mb base) (Kb : Below A₀ base outer g) (F : Fr g L h m) (N : News g L h fp) (hx : Heap.NewExc h s'.heap a X)
    (ex : nsIn (K w.params) mainGlobals x = some none) (hv : bootBuiltins x = some (.type X)) (hn : x ≠ "__name__")
    (hexc : isSubtype (.type X) (.type "BaseException") = pure true) (hnt : isSubtype (.type ((Manifest.find? X).elim "type" fun y => y.metatype)) (.type "tuple") = pure false) (hsub : isSubtype (.type X) (.type X) = pure true)
    (k : ∀ h' g' oe, Landed w A₀ base (envX name scope L f cd []) outer g g' L m fp a oe h' →
      wpAny (model prog w) ((A₀.deeper (envX name scope L f cd [])).mark (some (.ref a))) (execs (b₀ :: suite) (envX name scope L f cd [])) Q (notedBy (model prog w) ((A₀.deeper (envX name scope L f cd [])).mark (some (.ref a))) (envX name scope L f cd []) (cameBackBy (model prog w) (A₀.deeper (envX name scope L f cd [])) (envX name scope L f cd []) E)) { s' with heap := h' })
    (hk : scope.kind = .function := by rfl) (hxk : (envX name scope L f cd []).kindOf x = some .globalImplicit := by rfl) (hd : (x == ("__debug__" : Str)) = false := by decide) :
    wpAny (model prog w) (A₀.deeper (envX name scope L f cd [])) (noteFrame (.ref a) (envX name scope L f cd []))
      (fun _ s₂ => wpAny (model prog w) (A₀.deeper (envX name scope L f cd [])) (setFlight (.ref a) none) (fun _ s₃ =>
        wpAny (model prog w) (A₀.deeper (envX name scope L f cd [])) (handleBy (.ref a) (envX name scope L f cd []) (.ExceptHandler (some (.Name x np)) none (b₀ :: suite) pos :: rest)) Q E s₃) E s₂) E s' := by
  obtain ⟨B, b1, b2, b3, b4, b5⟩ := new_parts (name := name) (scope := scope) (f := f) (cd := cd) Kb F N hk
  obtain ⟨p, loose, mg, mb, TB⟩ := TB
  have hen : B.get? a = none := by
    cases q : B.get? a with
    | none => rfl
    | some o => have := b1 _ _ q; rw [hx.new] at this; cases this
  have up0 : g.UpToSlots s'.heap := (Heap.UpToSlots.of_keeps F.keep).trans (Heap.UpToSlots.of_keeps hx.keeps)
  have ns0 : s'.heap.Ns L m := Heap.UpToSlots.ns (Heap.UpToSlots.of_keeps hx.keeps) F.ns
  refine noteFirst (Around.frames_deeper Kb.stack) rfl (b3.of_keeps fun b o hb _ => ⟨o, hx.keeps b o hb, rfl⟩) (fun b o hb => hx.keeps b o (b1 b o hb)) hen hx fun h2 oe hcl fly2 up2 => ?_
  refine flightNone (s := { s' with heap := h2 }) fly2 fun h3 fly3 up3 => ?_
  obtain ⟨g3, l3⟩ := landed (w := w) (m := m) (h := h3) Kb (up3.ns (up2.ns ns0)) F.above b2 b4 b5 ((up0.trans up2).trans up3) fly3
  have X3 : (K w.params).In g3 := XB.keeps l3.below.stays
  have T3 : TopRead p loose mg mb g3 := TB.keeps l3.below.stays
  refine wpAny_handleBy_builtin (X := X) (T := X) (b := true) hexc hnt hsub (nameX_B l3.fr X3 T3 ex hv hn ⟨rfl, ⟨oe, (l3.news _ (.head _)).1, hcl⟩, ?_⟩ hk hxk hd)
  rw [if_pos rfl]
  refine flightNone (s := { s' with heap := h3 }) fly3 fun h4 fly4 up4 => ?_
  obtain ⟨g4, l4⟩ := landed (w := w) (m := m) (h := h4) Kb (up4.ns l3.fr.ns) F.above b2 b4 b5 (((up0.trans up2).trans up3).trans up4) fly4
  exact k h4 g4 oe l4

theorem heldAgain {M : Model} {A : Around} {B : Heap} {l : List Env} {a L : Addr} {cls a0 : Value} {s : Shared} {E : Value → Shared → Prop} {Q : Unit → Shared → Prop} (x : Heap.HeldW B l a cls a0 L s.heap)
    (h : ∀ h', Heap.HeldW B l a cls a0 L h' → s.heap.UpToSlots h' → Q () { s with heap := h' }) : wpAny M A (do
      if (← field (.ref a) 1) == .none then unsupported "frame.own-activation:exception-without-traceback"
      setFlight (.ref a) (some L)) Q E s := by
  obtain ⟨x1, x2, x3, oe, vs, T, oT, ts, he, hcls, hd, h1, hnT, hTe, hT, hdT, h3⟩ := x
  refine wpAny_bind (wpAny_field he hd h1 ?_)
  rw [if_neg (by simp)]
  have hsz3 : 3 < ts.size := (Array.getElem?_eq_some_iff.mp h3).1
  have hd' := Obj.data_mapFields hdT (·.setIfInBounds 3 (rawInt L))
  have other : ∀ b, b ≠ T → (s.heap.update T (Obj.mapFields (·.setIfInBounds 3 (rawInt L)))).get? b = s.heap.get? b := fun b hb => Heap.get?_update_other _ _ (Ne.symm hb)
  have notT : ∀ b o, s.heap.get? b = some o → (∀ vs, o.data ≠ .fields vs) → b ≠ T := fun b o hb hnf q => by
    subst q; rw [hT] at hb; cases hb; exact hnf _ hdT
  refine wpAny_bind (wpAny_field he hd h1 ?_)
  rw [if_pos (by simp)]
  refine wpAny_setField hT hdT hsz3 (h _ ⟨fun b o hbo => (other b fun q => by rw [q, hnT] at hbo; cases hbo).trans (x1 b o hbo), x2, x3.of_keeps fun b o hb hnf => ⟨o, (other b (notT b o hb hnf)).trans hb, rfl⟩,
    oe, vs, T, _, _, (other a (Ne.symm hTe)).trans he, hcls, hd, h1, hnT, hTe, Heap.get?_update_self _ hT (Obj.isFreed_of_fields hd'), hd', by simp [hsz3]⟩ fun b o hb hnf => ⟨o.slots, (other b (notT b o hb hnf)).trans hb⟩)

/-- an exception raised in the suite, seen by the frame, goes on -/
theorem goesOn {A A₁ : Around} {env : Env} {a1 : Addr} {g' g₁ : Heap} {m m' : Loc} {oe : Obj} {h₀ : Heap} {X : Value → Heap → Prop} {s₀ : Shared} (hfr : A.frames = some (env :: outer)) (hf : env.frame = some L)
    (ld : Landed w A₀ base env outer g g' L m fp a oe h₀) (F : Fr g' L g₁ m') (x : XR base (env :: outer) g₁ cls ((a, oe) :: fp) a1 s'.heap)
    (hX : ∀ h', XC base env outer g L cls fp (fun _ => True) (.ref a1) h' → X (.ref a1) h') (tie : XS X s' = XS X s₀ := by rfl) :
    notedBy (model prog w) A env (cameBackBy (model prog w) A₁ env (XS X s₀)) (.ref a1) s' := by
  rw [← tie]
  obtain ⟨x1, B, a0, x2, x3, x4, x5⟩ := x
  have hab := F.above
  obtain ⟨_, _, _, _, _, hgL, _⟩ := ld.fly
  refine wpAny_looks_onW hfr hf x5 fun h1 held up1 => ?_
  show wpAny _ _ _ _ _ _
  rw [hf]
  refine heldAgain (s := { s' with heap := h1 }) held fun h2 held2 up2 => ⟨h2, s'.toks, rfl, hX h2 ⟨a1, m', rfl, trivial, .inr ⟨up2.ns (up1.ns (x1.ns F.ns)), hgL, ?_, B, a0, x2, fun b o q nm => ?_, fun q hq => ?_, .inr held2⟩⟩⟩
  · exact (turn_upto ld.turn).trans (((Heap.UpToSlots.of_keeps F.keep).trans x1).trans (up1.trans up2))
  · have nm' : b ∉ outer.filterMap (·.frame) := fun hm => nm (by
      obtain ⟨e, he, hb⟩ := List.mem_filterMap.mp hm
      exact List.mem_filterMap.mpr ⟨e, .tail _ he, hb⟩)
    exact x3 b o (F.keep b o (ld.turn.other b o q nm')) nm
  · obtain ⟨y1, y2, y3⟩ := x4 q (.tail _ hq)
    refine ⟨y1, (ld.news q (.tail _ hq)).2.1, ?_, y3⟩
    cases q' : g.get? q.1 with
    | none => rfl
    | some o =>
      obtain ⟨sl, hs⟩ := ld.turn.up q'
      have := (ld.news q (.tail _ hq)).2.2
      rw [hs] at this; cases this
end
end Mine
end
section
open PySem PySem.W PySem.Calls PyProof.Rows
set_option Elab.async false
set_option maxRecDepth 100000
set_option linter.unusedVariables false
namespace Mine
section
variable {prog : Program} {w : World} {A : Around} {g base : Heap} {outer : List Env} {L : Addr} {E : Value → Heap → Prop} {m : Loc} {fp : FP} {n : Nat} {env env' : Env}

abbrev tupO (vs : List Value) : Obj := { cls := .type "tuple", data := .seq vs.toArray }
abbrev lstO (vs : List Value) : Obj := { cls := .type "list", data := .seq vs.toArray }
@[reducible] def madeK (mk : List Value → Obj) (Q : Value → Loc → FP → Prop) : List Value → Loc → FP → Prop := fun vs m fp => vs.length ≤ 1000 ∧ ∀ T, (∀ p ∈ fp, p.1 < T) → Q (.ref T) m ((T, mk vs) :: fp)
theorem o_tuple {elts : List PySem.Expr} {k : Nat} {pos : Pos} {Q : Value → Loc → FP → Prop}
    (h : Op prog w A g L E (spliced (backTo pos (starEach elts env'))) (madeK tupO Q) m fp) :
    Op prog w A g L E (eval (.Tuple elts k pos) env') Q m fp :=
  Op.of fun s F N _ kk => Tuple_ (h.use F N fun vs h' t' m' fp' F' N' q => newTuple_N (s := { s with heap := h', toks := t' }) F' N' (fun h2 F2 N2 => kk _ h2 t' _ _ F2 N2 (q.2 _ fun p hp => Heap.lt_size (N' p hp).1)) (Nat.le_trans q.1 (by rw [sizeLine_eq]; decide)))
theorem o_list {elts : List PySem.Expr} {pos : Pos} {Q : Value → Loc → FP → Prop}
    (h : Op prog w A g L E (spliced (backTo pos (starEach elts env'))) (madeK lstO Q) m fp) :
    Op prog w A g L E (eval (.List elts pos) env') Q m fp :=
  Op.of fun s F N _ kk => List_ (h.use F N fun vs h' t' m' fp' F' N' q => newList_N (s := { s with heap := h', toks := t' }) F' N' (fun h2 F2 N2 => kk _ h2 t' _ _ F2 N2 (q.2 _ fun p hp => Heap.lt_size (N' p hp).1)) (Nat.le_trans q.1 (by rw [sizeLine_eq]; decide)))
variable {x y : Addr} {ox oy : Obj}
theorem o_isOther {Q : Value → Loc → FP → Prop} (hx : (x, ox) ∈ fp) (hy : (y, oy) ∈ fp) (hne : x ≠ y) (hc : ∀ T, ox.cls ≠ .type T) (h : Q (.bool false) m fp) : Op prog w A g L E (compareOp .Is (.ref x) (.ref y)) Q m fp :=
  Op.of fun s F N _ kk => wpAny_is_ref_other hne (N _ hx).1 (N _ hy).1 (hc _) (kk _ s.heap s.toks m fp F N h)
theorem o_isSelf {Q : Value → Loc → FP → Prop} (h : Q (.bool true) m fp) : Op prog w A g L E (compareOp .Is (.ref x) (.ref x)) Q m fp :=
  Op.of fun s F N _ kk => wpAny_is_ref_self (kk _ s.heap s.toks m fp F N h)
theorem o_isIntRef {i : Int} {t : Tok} {Q : Value → Loc → FP → Prop} (h : Q (.bool false) m fp) : Op prog w A g L E (compareOp .Is (.int i t) (.ref x)) Q m fp :=
  Op.of fun s F N _ kk => wpAny_bind (wpAny_pure (wpAny_pure (kk _ s.heap s.toks m fp F N h)))
end
end Mine
end
section
open PySem PySem.W PySem.Calls PyProof.Rows Builtin Builtin.ObjectAttr Builtin.Getset_descriptor
set_option Elab.async false
set_option maxRecDepth 100000
set_option linter.unusedVariables false
namespace Mine
section
variable {prog : Program} {w : World} {A : Around} {s : Shared} {K : Frag} {C : Addr} {R : Result → Shared → Prop}
theorem name_get {mc tp v : Value} {o : Obj} (X : K.In s.heap) (ht : typeIn K (.ref C) = some mc) (hs : subIn K mc (.type "type") = some true) (ho : K.lookup C = some o) (h2 : (o.slots[2]?).join = some v)
    (h : R (.ok (.ret v)) s) : codeAny (model prog w) A (.call (.builtin "getset_descriptor.__get__") ⟨[.builtin "type.__name__", .ref C, tp], []⟩) R s := by
  obtain ⟨hh, g, dr, t, os⟩ := s
  have L0 := looks_typeIn (M := model prog w) X ht
  have L1 := looks_subIn (M := model prog w) X hs
  refine codeAny_call_builtin KF.slot_gs.plain KF.entry_gs (KF.slot_gs.check _ _ _ _ _ _ _ _ ktyn_type (KF.args_gs _ _ _) ?_)
  unfold Builtin.«getset_descriptor.__get__» descrGet
  rw [dga_obj]
  refine wpAny_bind (wpAny_pure ?_)
  unfold descrGetter descrCheckInstance descrNameAndClass isInstance
  simp only [ktyn_owner]
  repeat lk
  refine ⟨Code.quiet_builtin _ (by decide +kernel), codeAny_builtin ktyn_entry ?_⟩
  unfold Builtin.«type.__name__» keptObject
  dsimp only
  refine wpAny_bind ?_
  unfold slotAt
  refine wpAny_bind (wpAny_load (X _ _ ho) (wpAny_pure ?_))
  rw [h2]
  exact wpAny_pure h
end
section
variable {prog : Program} {w : World} {A : Around} {g base : Heap} {outer : List Env} {L : Addr} {E : Value → Heap → Prop} {m : Loc} {fp : FP} {n : Nat} {env env' : Env} {x C dx : Addr} {es : List DictEntry} {ep : Nat} {sl : Array (Option Value)}

theorem o_typeOf {Q : Value → Loc → FP → Prop} (h1 : (x, (⟨.ref C, some dx, .plain, sl⟩ : Obj)) ∈ fp) (h2 : (dx, dictOf es ep) ∈ fp) (h : Q (.ref C) m fp) : Op prog w A g L E (call (.type "type") [.ref x]) Q m fp :=
  Op.of fun s F N _ kk => kto_own (InstAt.of_news N h1 h2) (kk _ s.heap s.toks m fp F N h)
theorem o_clsName {ex : Bool} {mc v : Value} {o : Obj} {Q : Value → Loc → FP → Prop} (cx : Cx w base outer g L A env n) (hm : typeIn (K w.params) (.ref C) = some mc) (hr : readsIn (K w.params) C mc = true)
    (e : findCls (K w.params) (.ref C) mc "__name__" = some (.get (.builtin "getset_descriptor.__get__") (.builtin "type.__name__") (.ref C) mc)) (hs : subIn (K w.params) mc (.type "type") = some true) (ho : (K w.params).lookup C = some o) (h2 : (o.slots[2]?).join = some v) (hv : handedIn v = true) (h : Q v m fp) :
    Op prog w A g L E (getAttr (.ref C) "__name__" ex) Q m fp :=
  Op.of fun s F N _ kk => cls_bind (cx.X.keeps F.keep) hr e (wpAny_call (name_get (s := { s with toks := s.toks + 1 }) (cx.X.keeps F.keep) hm hs ho h2 (handed_on hv (kk _ s.heap (s.toks + 1) m fp F N h))))
theorem o_emptyText {t u : Tok} {Q : Value → Loc → FP → Prop} (h : ∀ r, Q (.str "LFUCache is empty" r) m fp) : Op prog w A g L E (binaryOp .Mod (.str "%s is empty" t) (.str "LFUCache" u)) Q m fp :=
  Op.of fun s F N _ kk => by
    have k2 : ∀ t' k, _ := fun t' k => kk (.str "LFUCache is empty" t') s.heap k m fp F N (h t')
    refine' KPc.mod_str ?kpcF ?kpcl ?kpcm ?_
    case kpcF => kpc_eq
    case kpcl => kpc_size
    case kpcm => kpc_run_s
    exact k2

/-- raise X(arg) from None -/
theorem o_raiseFrom {cls N I : String} {x : Str} {np cpos pos p2 : Pos} {a : PySem.Expr} {k : Nat} {Q : Flow → Loc → FP → Prop} (hc : ExcClass cls N I) (hh : A.handled = none)
    (h : Op prog w A g L E (eval (.Name x np) env') (fun f m fp => f = .type cls ∧ Op prog w A g L E (eval a env') (fun _ m fp => ∀ e h', XC base env outer g L cls fp (fun m' => m' = m) e h' → E e h') m fp) m fp)
    (ha : starEach [a] env' = (false, eval a env') :: starEach [] env' := by rfl)
    (he : eval (.Call (.Name x np) [a] [] cpos) env' = (do callWith cpos (← eval (.Name x np) env') [] (backTo cpos (starEach [a] env')) (backToKw cpos (keywordEach [] env'))) := by rfl) :
    Op prog w A g L E (exec (.Raise (some (.Call (.Name x np) [a] [] cpos)) (some (.Constant .none k p2)) pos) env') Q m fp :=
  Op.of fun s F N _ kk => by
    refine made_raiseFrom hc (Call_ (h.use F N fun f h1 t1 m1 fp1 F1 N1 q => ?_) he)
    obtain ⟨rfl, q⟩ := q
    refine callWith_type1 (args_cons (q.use F1 N1 fun v h2 t2 m2 fp2 F2 N2 q2 => args_nil (call_exc hc (fun h' e x => ⟨e, rfl, .of_new x, fun h3 k1 k2 k3 => raiseNew_none hh ⟨h3, t2, rfl, q2 _ _ (XC.fresh F2 N2 ?_)⟩⟩) (by show 1 ≤ sizeLine; rw [sizeLine_eq]; decide))) ha) ha
    obtain ⟨ob, t0, q1, q2, q3⟩ := x.there
    obtain ⟨ob', ws', r1, r2, r3⟩ := k3 ob _ _ q1 q3 rfl
    obtain ⟨ob2, vs2, u1, u2, u3, u4, _⟩ := k1
    rw [r1] at u1; cases u1
    rw [r2] at u3; cases u3
    exact ⟨fun b o hb => k2 b o (fun q => by rw [q, x.new] at hb; cases hb) (x.keeps b o hb), x.new, ob', ws', _, r1, u2, r2, u4, r3⟩
end
end Mine
end
section
open PySem PySem.W PySem.Calls PyProof.Rows
set_option Elab.async false
set_option maxRecDepth 100000
set_option linter.unusedVariables false
namespace Mine
theorem findObj_sm {K : Frag} {C : Addr} {od : Obj} {name : Str} {a g v : Value} (hh : hasDictIn K C = true) (ha : findIn K (.ref C) name = some (some a)) (hg : specialIn K a "__get__" = some (some g)) (ht : takesIn K a = some false) (hl : lookIn name od = some (some v)) :
    findObj K C (some od) name = some (.value v) := by
  obtain ⟨cd, hc, hd⟩ := any_some hh
  have ho : PySem.W.ownOf cd (some od) name = some (some v) := by unfold PySem.W.ownOf; rw [if_pos hd]; exact hl
  unfold findObj
  rw [hc, Option.bind_some, ha, Option.bind_some]
  simp [hg, ht, ho]
theorem findObj_smCls {K : Frag} {C : Addr} {od : Obj} {name : Str} {a g : Value} (hh : hasDictIn K C = true) (ha : findIn K (.ref C) name = some (some a)) (hg : specialIn K a "__get__" = some (some g)) (ht : takesIn K a = some false) (hc : copiedNames.contains name = false) (hl : lookIn name od = some none) :
    findObj K C (some od) name = some (.bind g a) := by
  obtain ⟨cd, hc', hd⟩ := any_some hh
  have ho : PySem.W.ownOf cd (some od) name = some none := by unfold PySem.W.ownOf; rw [if_pos hd]; exact hl
  unfold findObj
  rw [hc', Option.bind_some, ha, Option.bind_some]
  simp only [hg, ht, Option.bind_some, ho, hc, Bool.false_and, Bool.false_eq_true, if_false]
section
variable {prog : Program} {w : World} {A : Around} {g base : Heap} {outer : List Env} {L : Addr} {E : Value → Heap → Prop} {m : Loc} {fp : FP} {n : Nat} {env env' : Env} {x C dx : Addr} {es : List DictEntry} {ep : Nat} {sl : Array (Option Value)} {name : Str} {v a gt : Value}

/-- an own value that stands before a static method of the class -/
theorem o_getSm {ex : Bool} {Q : Value → Loc → FP → Prop} (cx : Cx w base outer g L A env n) (h1 : (x, (⟨.ref C, some dx, .plain, sl⟩ : Obj)) ∈ fp) (h2 : (dx, dictOf es ep) ∈ fp) (hp : plainGet (K w.params) C name = true) (hh : hasDictIn (K w.params) C = true)
    (ha : findIn (K w.params) (.ref C) name = some (some a)) (hg : specialIn (K w.params) a "__get__" = some (some gt)) (ht : takesIn (K w.params) a = some false) (hl : getL name es = some (some v)) (hv : handedIn v = true) (h : Q v m fp) :
    Op prog w A g L E (getAttr (.ref x) name ex) Q m fp :=
  Op.of fun s F N _ kk => get_value (cx.X.keeps F.keep) (InstAt.of_news N h1 h2) (plainGet_of hp).1 (findObj_sm hh ha hg ht hl) hv (kk _ s.heap (s.toks + 1) m fp F N h)
/-- a static method of the class, read from an object -/
theorem o_getSmCls {ex : Bool} {p : Addr} {rest : List Value} {Q : Value → Loc → FP → Prop} (cx : Cx w base outer g L A env n) (h1 : (x, (⟨.ref C, some dx, .plain, sl⟩ : Obj)) ∈ fp) (h2 : (dx, dictOf es ep) ∈ fp) (hp : plainGet (K w.params) C name = true) (hh : hasDictIn (K w.params) C = true)
    (ha : findIn (K w.params) (.ref C) name = some (some (.ref p))) (hg : specialIn (K w.params) (.ref p) "__get__" = some (some (.builtin "staticmethod.__get__"))) (ht : takesIn (K w.params) (.ref p) = some false) (hc : copiedNames.contains name = false) (hl : getL name es = some none)
    (hr : recIn (K w.params) p "staticmethod" = some (v :: rest)) (hv : handedIn v = true) (h : Q v m fp) :
    Op prog w A g L E (getAttr (.ref x) name ex) Q m fp :=
  Op.of fun s F N _ kk => get_bind (cx.X.keeps F.keep) (InstAt.of_news N h1 h2) (plainGet_of hp).1 (findObj_smCls hh ha hg ht hc hl) (plainGet_of hp).2
    (wpAny_call (sm_get (s := { s with toks := s.toks + 1 }) (cx.X.keeps F.keep) hr (handed_on hv (kk _ s.heap (s.toks + 1) m fp F N h))))
theorem o_methUsual {pl : Sem Bool} {r : Option Value} {Q : Value × List Value → Loc → FP → Prop} (cx : Cx w base outer g L A env n) (h1 : (x, (⟨.ref C, some dx, .plain, sl⟩ : Obj)) ∈ fp) (h2 : (dx, dictOf es ep) ∈ fp) (hp : plainGet (K w.params) C name = true)
    (hf : findIn (K w.params) (.ref C) name = some r) (ht : r.all (fun a => (typeIn (K w.params) a).any fun t => t != .type "function" && t != .type "method_descriptor" && t != .type "wrapper_descriptor") = true)
    (h : Op prog w A g L E (getAttr (.ref x) name) (fun v => Q (v, [])) m fp) : Op prog w A g L E (getMethod (.ref x) name pl) Q m fp :=
  Op.of fun s F N _ kk => method_usual (cx.X.keeps F.keep) (InstAt.of_news N h1 h2) (plainGet_of hp).1 (plainGet_of hp).2 hf ht (h.use F N fun v h' t' m' fp' F' N' q => kk _ h' t' m' fp' F' N' q)

/-- a property of the class, read from an object -/
theorem o_prop {ex : Bool} {p fget : Addr} {rest : List Value} {nm qual : Str} {params : Arguments} {body : List Stmt} {scope : Scope} {dV kV doc pm cdv ct oc : Value} {an od : Option Addr} {osl : Array (Option Value)} {binds : List (Str × Value)} {Q : Value → Loc → FP → Prop}
    (cx : Cx w base outer g L A env (n + 2)) (h1 : (x, (⟨.ref C, some dx, .plain, sl⟩ : Obj)) ∈ fp) (h2 : (dx, dictOf es ep) ∈ fp) (hp : plainGet (K w.params) C name = true) (hh : hasDictIn (K w.params) C = true)
    (ha : findIn (K w.params) (.ref C) name = some (some (.ref p))) (hn : specialIn (K w.params) (.ref p) "__get__" = some (some (.builtin "property.__get__"))) (ht : takesIn (K w.params) (.ref p) = some true) (hr : recIn (K w.params) p "property" = some (.ref fget :: rest))
    (ho : (K w.params).lookup fget = some ⟨oc, od, .func (fnOf nm qual params body scope dV kV doc pm an cdv ct), osl⟩) (hcd : codeIn (K w.params) cdv qual = true)
    (hbind : ∀ s : Shared, (K w.params).In s.heap → BindsTo s (fnOf nm qual params body scope dV kV doc pm an cdv ct) ⟨[.ref x], []⟩ binds)
    (hloc : ∀ y ∈ binds, scope.names.lookup y.1 = some .local) (hcell : ∀ x ∈ scope.names, x.2 ≠ .cell)
    (h : ∀ g' L' E', Cx w base (env :: outer) g' L' (A.in1.deeper (envX qual scope L' fget cdv [])) (envX qual scope L' fget cdv []) n → g.StaysIn g' → (∀ p ∈ fp, p.1 < L') →
      Op prog w (A.in1.deeper (envX qual scope L' fget cdv [])) g' L' E' (execs body (envX qual scope L' fget cdv [])) (fun fl _ fp' => handedIn (retOf fl) = true ∧ Q (retOf fl) m fp') (fun y => binds.reverse.lookup y) fp)
    (hco : scope.isCoroutine = false := by rfl) (hgen : scope.isGenerator = false := by rfl) (hk : scope.kind = .function := by rfl) :
    Op prog w A g L E (getAttr (.ref x) name ex) Q m fp :=
  Op.of fun s F N Q' kk => get_prop F cx.X (InstAt.of_news N h1 h2) hp hh ha hn ht hr
    (c_call (s := { s with toks := s.toks + 1 }) (Q := fun v m' fp' => handedIn v = true ∧ Q v m' fp') cx.in1 ho hcd hbind hloc hcell F N h (fun v h' t' fp' F' N' q => handed_on q.1 (kk _ h' t' m fp' F' N' q.2)) hco hgen hk)

theorem o_mod {a b : Int} {t u : Tok} {Q : Value → Loc → FP → Prop} (hb : 0 < b) (h : ∀ r, Q (.int (a % b) r) m fp) : Op prog w A g L E (binaryOp .Mod (.int a t) (.int b u)) Q m fp :=
  Op.of fun s F N _ kk => PyProof.Rows.mod_int (Int.ne_of_gt hb) (kk _ s.heap (s.toks + 1) m fp F N (by rw [Int.fmod_eq_emod_of_nonneg a (Int.le_of_lt hb)]; exact h _))
theorem o_floordiv {a b : Int} {t u : Tok} {Q : Value → Loc → FP → Prop} (hb : 0 < b) (hb2 : b < 1000) (h : ∀ r, Q (.int (a / b) r) m fp) : Op prog w A g L E (binaryOp .FloorDiv (.int a t) (.int b u)) Q m fp :=
  Op.of fun s F N _ kk => PyProof.Rows.floordiv_int (Int.ne_of_gt hb) (kk _ s.heap (s.toks + 1) m fp F N (by rw [Int.fdiv_eq_ediv_of_nonneg a (Int.le_of_lt hb)]; exact h _))
theorem o_notIn {b : Bool} {d : Addr} {o : Obj} {kvs : List (Int × Value)} {k : Int} {t : Tok} {Q : Value → Loc → FP → Prop} (hm : (d, o) ∈ fp) (hd : IsD prog w o kvs) (lo : (d == sysModules) = false) (hb : (valueAt kvs k).isSome = b) (h : Q (.bool (!b)) m fp) :
    Op prog w A g L E (compareOp .NotIn (.int k t) (.ref d)) Q m fp :=
  Op.of fun s F N _ kk => kdg_notin (knd := PySem.intKind prog w) N hm hd lo (intKind_is _ _ _ _) b hb (kk _ s.heap (s.toks + 1) m fp F N h)
end
end Mine
end
section
open PySem PySem.W PySem.Calls PyProof.Rows
set_option Elab.async false
set_option maxRecDepth 100000
set_option linter.unusedVariables false
namespace Mine

def LeaveT (h₀ : Heap) (L : Addr) (m : Loc) (g : Heap) (R : Result → Shared → Prop) (v : Value) (s' : Shared) : Prop :=
  ∃ g' L' m' news', KtsTurn [L] g g' ∧ Fr g' L' s'.heap m' ∧ News g' L' s'.heap news' ∧ (Fr h₀ L s'.heap m → News h₀ L s'.heap news' → R (.ok (.ret v)) s')

section
variable {prog : Program} {w : World} {A₀ A : Around} {s : Shared} {base h₀ : Heap} {L : Addr} {m : Loc} {news : FP} {env : Env} {R : Result → Shared → Prop}
  {name qual : Str} {params : Arguments} {body : List Stmt} {scope : Scope} {dV kV doc pm cdv ct : Value} {an : Option Addr} {f : Addr} {fo : Obj} {args : Args} {binds : List (Str × Value)}
/-- a call from the claimed function's own frame; inside, an exception may be caught -/
theorem callX_turn (B : Below A₀ base [] h₀) (F : Fr h₀ L s.heap m) (N : News h₀ L s.heap news) (hlim : h₀.NoLimit) (hA : A.frames = some [env]) (hf : env.frame = some L) (hke : env.scope.kind = .function)
    (ho : s.heap.get? f = some fo) (hd : fo.data = .func (fnX name qual params body scope [] dV kV doc pm an cdv ct)) (hcd : s.heap.CodeRec cdv qual) (hroom : A.depth < recursionLimit)
    (hbind : BindsTo s (fnX name qual params body scope [] dV kV doc pm an cdv ct) args binds) (hloc : ∀ y ∈ binds, scope.names.lookup y.1 = some .local)
    (h : ∀ g L' h₁, Fr h₀ L g m → Fr g L' h₁ (fun y => binds.reverse.lookup y) → News g L' h₁ news → Below A base [env] g → h₀.StaysIn g → (∀ p ∈ news, p.1 < L') →
      wpAny (model prog w) (A.deeper (envX qual scope L' f cdv [])) (execs body (envX qual scope L' f cdv []))
        (fun fl s' => LeaveT h₀ L m g R (match fl with | .ret v => v | _ => .none) s')
        (fun e s' => wpAny (model prog w) (A.deeper (envX qual scope L' f cdv [])) (leaving (envX qual scope L' f cdv []) e) (fun _ s'' => R (.error e) s'') (fun e' s'' => R (.error e') s'') s')
        { s with heap := h₁, toks := s.toks + binds.length })
    (hcell : ∀ x ∈ scope.names, x.2 ≠ .cell) (hco : scope.isCoroutine = false := by rfl) (hgen : scope.isGenerator = false := by rfl) (hk : scope.kind = .function := by rfl) : codeAny (model prog w) A (.call (.ref f) args) R s := by
  obtain ⟨FG, BG, st, _⟩ := groundX (R := R) B F N hA hf hke
  refine codeAny_call_def (fd := fnX name qual params body scope [] dV kV doc pm an cdv ct) (body := body) (binds := binds) hroom ho hd (hlim.keeps F.keep) hcd rfl hbind hcell hloc (fun h₁ hns hk₁ => ?_) hco hgen hk
  refine wpAny_mono (h _ s.heap.objs.size h₁ FG ⟨hns, fun b o e => hk₁ b o (of_hideAll _ e), Nat.le_of_eq (hideAll_size _ _)⟩
    (fun p hp => ⟨hk₁ _ _ (N p hp).1, Nat.ne_of_lt (Heap.lt_size (N p hp).1), hideAll_none _ (List.mem_map_of_mem hp)⟩) BG st (fun p hp => Heap.lt_size (N p hp).1)) (fun fl s' hl => ?_) fun _ _ y => y
  obtain ⟨g', L', m', news', T, F', N', k⟩ := hl
  have nL : h₀.get? L = none := self_none (h := h₀) F.above
  have ns' := (turn_upto T).ns FG.ns
  have hL' : ∃ o, g'.get? L = some o := let ⟨o, _, _, e, _⟩ := ns'; ⟨o, e⟩
  refine k ⟨ns'.keeps F'.keep, fun b o e => F'.keep b o (T.other b o (st b o e) fun q => by rw [List.mem_singleton.mp q, nL] at e; cases e), F.above⟩ fun p hp => ⟨(N' p hp).1, fun q => ?_, ?_⟩
  · obtain ⟨o, e⟩ := hL'
    have := (N' p hp).2.2; rw [q, e] at this; cases this
  · cases q : h₀.get? p.1 with
    | none => rfl
    | some o =>
      obtain ⟨sl, hs⟩ := T.up (st _ _ q)
      have := (N' p hp).2.2; rw [hs] at this; cases this
end

/-- an exception that is looked at in this frame -/
def Seen (base g : Heap) (env : Env) (outer : List Env) (L : Addr) (m : Loc) (fp : FP) (a : Addr) (cls : String) (h : Heap) : Prop :=
  h.Ns L m ∧ g.objs.size ≤ L ∧ g.UpToSlots h ∧ ∃ B a0 fl, base.StaysIn B ∧ (∀ b o, g.get? b = some o → b ∉ (env :: outer).filterMap (·.frame) → B.get? b = some o) ∧ (∀ q ∈ fp, B.get? q.1 = some q.2 ∧ q.1 ≠ L ∧ g.get? q.1 = none ∧ base.get? q.1 = none) ∧
    B.StaysIn h ∧ B.get? a = none ∧ h.FunFrames B (env :: outer) ∧ h.TracedAtW B a (.type cls) a0 fl
section
variable {prog : Program} {w : World} {A A₀ : Around} {E : Value → Shared → Prop} {s : Shared} {base g : Heap} {env : Env} {outer : List Env} {L f a : Addr} {m : Loc} {fp : FP} {cls : String} {name : Str} {scope : Scope} {cd : Value}
theorem Seen.flight {Q : Unit → Shared → Prop} (x : Seen base g env outer L m fp a cls s.heap) (h : ∀ h', Seen base g env outer L m fp a cls h' → Q () { s with heap := h' }) : wpAny (model prog w) A (setFlight (.ref a) none) Q E s := by
  obtain ⟨x1, x2, x3, B, a0, fl, y1, y2, y3, y4, y5, y6, y7⟩ := x
  refine wpAny_setFlight_noneW y4 y6 y7 fun h' k1 k2 k3 k4 => h h' ?_
  have up : s.heap.UpToSlots h' := fun b o hb hn => ⟨o.slots, k4 b o hb hn⟩
  exact ⟨up.ns x1, x2, x3.trans up, B, a0, _, y1, y2, y3, k1, y5, k2, k3⟩
theorem Seen.turned (x : Seen base g env outer L m fp a cls s.heap) (K : Below A₀ base outer g) (hf : env.frame = some L) : ∃ g', KtsTurn (outer.filterMap (·.frame)) g g' ∧ Fr g' L s.heap m ∧ News g' L s.heap fp ∧ Below A₀ base outer g' := by
  obtain ⟨x1, x2, x3, B, a0, fl, y1, y2, y3, y4, y5, y6, y7⟩ := x
  obtain ⟨g', T, F, K'⟩ := ground K hf x1 x2 y2 y4 x3
  exact ⟨g', T, F, fun q hq => ⟨y4 _ _ (y3 q hq).1, (y3 q hq).2.1, T.none_ _ (y3 q hq).2.2.1⟩, K'⟩
theorem XC.see {e : Value} {Q : Unit → Shared → Prop} (K : Below A₀ base outer g) (hx : XC base (envX name scope L f cd []) outer g L cls fp (fun m' => m' = m) e s.heap) (hk : scope.kind = .function)
    (h : ∀ a h', e = .ref a → Seen base g (envX name scope L f cd []) outer L m fp a cls h' → Q () { s with heap := h' }) :
    wpAny (model prog w) (A₀.deeper (envX name scope L f cd [])) (noteFrame e (envX name scope L f cd [])) Q E s := by
  obtain ⟨a, m', rfl, rfl, hc⟩ := hx
  rcases hc with ⟨g₂, F, N, k1, k2, oe, vs, a0, he, hcl, hd, h1, h0⟩ | ⟨hns, hab, hup, B, a0, hB, hg, hl, hfl⟩
  · obtain ⟨B, b1, b2, b3, b4, b5⟩ := new_parts (name := name) (scope := scope) (f := f) (cd := cd) K F N hk
    have hen : B.get? a = none := by
      cases q : B.get? a with
      | none => rfl
      | some o => have := b1 _ _ q; rw [k2] at this; cases this
    unfold noteFrame
    simp only [show (envX name scope L f cd []).frame = some L from rfl]
    refine wpAny_bind (wpAny_field he hd h1 ?_)
    rw [if_neg (by decide)]
    refine wpAny_entryW (Around.frames_deeper K.stack) (b3.of_keeps fun b o hb _ => ⟨o, k1 b o hb, rfl⟩) rfl he (fun b o hb => k1 b o (b1 b o hb)) hen hd (Array.getElem?_eq_some_iff.mp h1).1 h0 fun h' ⟨x1, x2, x3, x4⟩ => h a h' rfl ?_
    rw [hcl] at x3
    have up : s.heap.UpToSlots h' := x4
    have ns0 : s.heap.Ns L m' := Heap.UpToSlots.ns (Heap.UpToSlots.of_keeps k1) F.ns
    exact ⟨up.ns ns0, F.above, ((Heap.UpToSlots.of_keeps F.keep).trans (Heap.UpToSlots.of_keeps k1)).trans up, B, a0, _, b2, b4, b5, x1, hen, x2, x3⟩
  · rcases hfl with hfl | hh
    · exact wpAny_looks_onW (Around.frames_deeper K.stack) rfl hfl fun h' held up => h a h' rfl ⟨up.ns hns, hab, hup.trans up, B, a0, _, hB, hg, hl, held.1, held.2.1, held.2.2.1, held.2.2.2⟩
    · exact wpAny_noteFrame_againW rfl hh.2.2.2 (h a s.heap rfl ⟨hns, hab, hup, B, a0, _, hB, hg, hl, hh.1, hh.2.1, hh.2.2.1, hh.2.2.2⟩)

theorem seen_clause {X T : String} {b : Bool} {x : Str} {np pos : Pos} {b₀ : Stmt} {suite : List Stmt} {rest : List ExceptHandler} {Q : Flow → Shared → Prop} (sn : Seen base g (envX name scope L f cd []) outer L m fp a X s.heap) (K₀ : Below A₀ base outer g)
    (XB : (K w.params).In base) (TB : ∃ p loose mg mb, TopRead p loose mg mb base) (ex : nsIn (K w.params) mainGlobals x = some none) (hv : bootBuiltins x = some (.type T)) (hn : x ≠ "__name__")
    (hexc : isSubtype (.type T) (.type "BaseException") = pure true) (hnt : isSubtype (.type ((Manifest.find? T).elim "type" fun y => y.metatype)) (.type "tuple") = pure false) (hsub : isSubtype (.type X) (.type T) = pure b)
    (k : if b then (∀ h' g', KtsTurn (outer.filterMap (·.frame)) g g' → Fr g' L h' m → News g' L h' fp → wpAny (model prog w) ((A₀.deeper (envX name scope L f cd [])).mark (some (.ref a))) (execs (b₀ :: suite) (envX name scope L f cd [])) Q (fun _ _ => False) { s with heap := h' })
      else wpAny (model prog w) (A₀.deeper (envX name scope L f cd [])) (handleBy (.ref a) (envX name scope L f cd []) rest) Q E s)
    (hk : scope.kind = .function := by rfl) (hxk : (envX name scope L f cd []).kindOf x = some .globalImplicit := by rfl) (hd : (x == ("__debug__" : Str)) = false := by decide) :
    wpAny (model prog w) (A₀.deeper (envX name scope L f cd [])) (handleBy (.ref a) (envX name scope L f cd []) (.ExceptHandler (some (.Name x np)) none (b₀ :: suite) pos :: rest)) Q E s := by
  obtain ⟨p, loose, mg, mb, TB⟩ := TB
  obtain ⟨g1, T1, F1, N1, K1⟩ := sn.turned K₀ rfl
  have X1 : (K w.params).In g1 := XB.keeps K1.stays
  have P1 : TopRead p loose mg mb g1 := TB.keeps K1.stays
  have tp : s.TypeIs (.ref a) X := by
    obtain ⟨_, _, _, _, _, _, _, _, _, _, _, _, tr⟩ := sn
    obtain ⟨ob, h1, h2⟩ := tr.there
    exact ⟨ob, h1, h2⟩
  refine wpAny_handleBy_builtin (X := X) (T := T) (b := b) hexc hnt hsub (nameX_B F1 X1 P1 ex hv hn ⟨rfl, tp, ?_⟩ hk hxk hd)
  cases b with
  | false => exact k
  | true =>
    rw [if_pos rfl]
    refine sn.flight fun h' sn' => ?_
    obtain ⟨g2, T2, F2, N2, K2⟩ := Seen.turned (s := { s with heap := h' }) sn' K₀ rfl
    exact wpAny_mono (k h' g2 T2 F2 N2) (fun _ _ z => z) fun _ _ z => z.elim
end
theorem subKV : isSubtype (.type "ValueError") (.type "KeyError") = pure false := by rw [isSubtype_type]; kernel_rfl
theorem subVV : isSubtype (.type "ValueError") (.type "ValueError") = pure true := by rw [isSubtype_type]; kernel_rfl
theorem isExcV : isSubtype (.type "ValueError") (.type "BaseException") = pure true := by rw [isSubtype_type]; kernel_rfl
theorem notTupV : isSubtype (.type ((Manifest.find? "ValueError").elim "type" fun x => x.metatype)) (.type "tuple") = pure false := by
  rw [show ((Manifest.find? "ValueError").elim "type" fun x => x.metatype) = "type" from by kernel_rfl, isSubtype_type]; kernel_rfl
end Mine
end
section
open PySem PySem.W PySem.Calls PyProof.Rows
set_option Elab.async false
set_option maxRecDepth 100000
set_option linter.unusedVariables false
namespace Mine
def LstOf (o : Obj) (ys : List Value) : Prop := ∃ n, o = { cls := .type "list", data := .seq ys.toArray n }
abbrev testsOf (ifs : List PySem.Expr) (env : Env) : Sem Bool := forIn ifs true fun c r => if r = true then do let ok ← isTrue c env (eval c env); pure (ForInStep.yield ok) else pure (ForInStep.yield r)
def objAt (h : Heap) (b : Addr) : Obj := (h.get? b).getD ⟨.none, none, .plain, #[]⟩
theorem objAt_of {h : Heap} {b : Addr} {o : Obj} (e : h.get? b = some o) : objAt h b = o := by unfold objAt; rw [e]; rfl
end Mine
end
section
open PySem PySem.W PySem.Calls PyProof.Rows
set_option Elab.async false
set_option maxRecDepth 100000
set_option linter.unusedVariables false
namespace Mine
end Mine
end
section
open PySem PySem.W PySem.Calls PyProof.Rows
set_option Elab.async false
set_option maxRecDepth 100000
set_option linter.unusedVariables false
namespace Mine
section
variable {prog : Program} {w : World} {A : Around} {g base : Heap} {outer : List Env} {L : Addr} {E : Value → Heap → Prop} {m : Loc} {fp : FP} {n : Nat} {env env' : Env}
/-- names by any environment of a function -/
theorem o_locG {x : Str} {pos : Pos} {v : Value} {Q : Value → Loc → FP → Prop} (hL : env'.locals = L) (hv : m x = some v) (h : Q v m fp)
    (hk : env'.scope.kind = .function := by rfl) (hx : env'.kindOf x = some .local := by rfl) (hd : (x == ("__debug__" : Str)) = false := by decide) : Op prog w A g L E (eval (.Name x pos) env') Q m fp :=
  Op.of fun s F N _ k => wpAny_Name (wpAny_loadName_local hk hx (hL ▸ F.ns) hv (k _ s.heap s.toks m fp F N h)) hd
theorem o_cellG {x : Str} {pos : Pos} {v : Value} {c : Addr} {o : Obj} {Q : Value → Loc → FP → Prop} (hc : env'.cells.lookup x = some c) (hm : (c, o) ∈ fp) (hd : o.data = .cell (some v)) (h : Q v m fp)
    (hk : env'.scope.kind = .function := by rfl) (hx : env'.kindOf x = some .cell := by rfl) (hb : (x == ("__debug__" : Str)) = false := by decide) : Op prog w A g L E (eval (.Name x pos) env') Q m fp :=
  Op.of fun s F N _ k => wpAny_Name (wpAny_loadName_cell hk hx hc ⟨o, N.get hm, hd⟩ (k _ s.heap s.toks m fp F N h)) hb
theorem o_globG {x : Str} {pos : Pos} {v : Value} {Q : Value → Loc → FP → Prop} (X : (K w.params).In g) (T : ∃ p loose mg mb, TopRead p loose mg mb g) (e : nsIn (K w.params) mainGlobals x = some (some v)) (h : Q v m fp)
    (hg : env'.globals = mainGlobals := by rfl) (hk : env'.scope.kind = .function := by rfl) (hx : env'.kindOf x = some .globalImplicit := by rfl) (hd : (x == ("__debug__" : Str)) = false := by decide) : Op prog w A g L E (eval (.Name x pos) env') Q m fp :=
  Op.of fun s F N _ k => let ⟨_, _, _, _, T⟩ := T; nameG_K F X T e (k _ s.heap s.toks m fp F N h) hg hk hx hd

variable {a : Addr} {o : Obj} {vs : List Value} {t : Tok} {v : Value}
theorem o_tupItem {k : Nat} {value slice : PySem.Expr} {Q : Value → Loc → FP → Prop} (hm : (a, tupO vs) ∈ fp) (hv : vs[k]? = some v) (hk : k < 1000) (h : Q v m fp)
    (hs : subscripted slice false (.ref a) (.int k t) = operate [.ref a, .int k t] (getItem (.ref a) (.int k t)) := by with_unfolding_all rfl) : Op prog w A g L E (subscriptTail value slice (.ref a) (.int k t)) Q m fp :=
  Op.of fun s F N _ kk => by
    have ht : IsTup s.heap a vs.toArray := ⟨_, (N _ hm).1, rfl, _, rfl⟩
    have hlt : k < vs.length := by
      cases q : decide (k < vs.length) with
      | true => exact of_decide_eq_true q
      | false => rw [List.getElem?_eq_none (by have := of_decide_eq_false q; omega)] at hv; cases hv
    refine tail_any ht.typeIs slot_tuple_getitem.lookup (PyProof.Rows.getItem_tuple (j := k) ht (by omega) (by omega) ?_ (by simpa using hv) (kk _ s.heap s.toks m fp F N h)) hs
    unfold seqIndex?
    have e1 : ¬ ((k : Int) < 0) := by omega
    have e2 : ((k : Int) < (vs.toArray.size : Int)) := by simp; omega
    have e3 : (0 : Int) ≤ (k : Int) := by omega
    simp only [if_neg e1, decide_eq_true e2, decide_eq_true e3, Bool.and_self, if_true, Int.toNat_natCast]
theorem o_lstItem {k : Nat} {value slice : PySem.Expr} {Q : Value → Loc → FP → Prop} (hm : (a, o) ∈ fp) (ho : LstOf o vs) (hv : vs[k]? = some v) (hk : k < 1000) (h : Q v m fp)
    (hs : subscripted slice false (.ref a) (.int k t) = operate [.ref a, .int k t] (getItem (.ref a) (.int k t)) := by with_unfolding_all rfl) : Op prog w A g L E (subscriptTail value slice (.ref a) (.int k t)) Q m fp :=
  Op.of fun s F N _ kk => by
    obtain ⟨nn, rfl⟩ := ho
    have hl : s.heap.IsList a vs.toArray := ⟨_, (N _ hm).1, rfl, _, rfl⟩
    exact tail_any hl.typeIs slot_list_getitem.lookup (wpAny_getItem_list hl (by omega) (by omega) (by simpa using hv) (kk _ s.heap s.toks m fp F N h)) hs
end
end Mine
end
section
open PySem PySem.W PySem.Calls PyProof.Rows
set_option Elab.async false
set_option maxRecDepth 100000
set_option linter.unusedVariables false
namespace Mine
section
variable {prog : Program} {w : World} {A : Around} {g base : Heap} {outer : List Env} {L : Addr} {E : Value → Heap → Prop} {m : Loc} {fp : FP} {n : Nat}
/-- a def of the written part with names in cells, called -/
theorem o_callC {env : Env} {name qual : Str} {params : Arguments} {body : List Stmt} {scope : Scope} {dV kV doc pm cdv ct oc : Value} {an od : Option Addr} {osl : Array (Option Value)} {f : Addr} {pos : List Value} {kw : List (Str × Value)} {binds : List (Str × Value)}
    {Q : Value → Loc → FP → Prop} (cx : Cx w base outer g L A env (n + 1))
    (ho : (K w.params).lookup f = some ⟨oc, od, .func (fnOf name qual params body scope dV kV doc pm an cdv ct), osl⟩) (hcd : codeIn (K w.params) cdv qual = true)
    (hbind : ∀ s : Shared, (K w.params).In s.heap → BindsTo s (fnOf name qual params body scope dV kV doc pm an cdv ct) ⟨pos, kw⟩ binds)
    (hkind : ∀ n, ∀ x ∈ binds, scope.names.lookup x.1 = some .local ∨ (scope.names.lookup x.1 = some .cell ∧ ((cellsFrom n scope.names []).lookup x.1).isSome = true))
    (hnd : ((cellsFrom 0 scope.names []).map (·.1)).Nodup)
    (h : ∀ g' L' E' cells, Cx w base (env :: outer) g' L' (A.deeper (envOfC qual scope L' f cdv)) (envOfC qual scope L' f cdv) n → g.StaysIn g' → (∀ p ∈ fp, p.1 < L') →
      CellsAre (bindC (envOfC qual scope L' f cdv).kindOf binds fun _ => none) (cellsFrom (L' + 1) scope.names []) cells →
      Op prog w (A.deeper (envOfC qual scope L' f cdv)) g' L' E' (execs body (envOfC qual scope L' f cdv)) (backK Q m) (bindL (envOfC qual scope L' f cdv).kindOf binds fun _ => none) (cells ++ fp))
    (hco : scope.isCoroutine = false := by rfl) (hgen : scope.isGenerator = false := by rfl) (hk : scope.kind = .function := by rfl) :
    Op prog w A g L E (call (.ref f) pos kw) Q m fp := .intro fun s F N => by
  obtain ⟨A₀, B⟩ := cx.B
  obtain ⟨p, loose, mg, mb, T⟩ := cx.T
  have X := cx.X.keeps F.keep
  refine wpAny_call (callX_cells B F N T.nolimit cx.hA cx.hf cx.hke (X _ _ ho) rfl (codeRec_of X hcd) (by have := cx.depth; simp only [recursionLimit]; omega) (hbind s X) hkind hnd (fun g' L' h₁ tk cells FG F' N' hcells B' st lt => ?_) hco hgen hk)
  refine wpAny_mono (E := XS (fun _ _ => False) s) ?_ (fun _ _ z => z) fun _ _ ⟨_, _, _, z⟩ => z.elim
  refine (h g' L' (fun _ _ => False) cells ⟨cx.X.keeps st, ⟨p, loose, mg, mb, T.keeps st⟩, ⟨A, B'⟩, Around.frames_deeper cx.hA, rfl, hk, ?_, ?_, ?_, cx.XB, cx.TB⟩ st lt hcells).use F' N' fun fl h' t' m' fp' F1 N1 q => ?_
  · have := cx.depth; show A.depth + 1 + n ≤ 600; omega
  · have := cx.units; show A.units + 3 + 20 * n ≤ 6000; omega
  · exact cx.handled
  · cases fl <;> exact leaveK_ F1 N1 fun F2 N2 => ⟨h', t', m, fp', rfl, F2, N2, q⟩
theorem o_tests1 {env' : Env} {c : PySem.Expr} {Q : Bool → Loc → FP → Prop} (h : Op prog w A g L E (isTrue c env' (eval c env')) Q m fp) : Op prog w A g L E (testsOf [c] env') Q m fp :=
  Op.of fun s F N _ k => wpAny_tests_one (h.use F N k)
theorem o_tests0 {env' : Env} {Q : Bool → Loc → FP → Prop} (h : Q true m fp) : Op prog w A g L E (testsOf [] env') Q m fp :=
  Op.of fun s F N _ k => by
    unfold testsOf
    simp only [List.forIn_nil]
    exact wpAny_pure (k _ s.heap s.toks m fp F N h)
end
end Mine
end
section
open PySem PySem.W PySem.Calls PyProof.Rows
set_option Elab.async false
set_option maxRecDepth 100000
set_option linter.unusedVariables false
namespace Mine
section
variable {prog : Program} {w : World} {A : Around} {s : Shared}
theorem compLoop_all {elt target iter : PySem.Expr} {ifs : List PySem.Expr} {scope : Scope} {pos : Pos} {it acc : Value} {env : Env} {R : Result → Shared → Prop} (I : Nat → Shared → Prop)
    (turn : ∀ n s, I n s → wpAny (model prog w) A (pyNext it) (fun r s₁ => match r with
      | none => R (.ok .next) s₁
      | some v => wpAny (model prog w) A (letOwnedTupleGo target it v) (fun _ s₀ => wpAny (model prog w) A (assign target env v) (fun _ s₂ =>
          wpAny (model prog w) A (testsOf ifs env) (fun ok s₃ =>
            if ok = true then wpAny (model prog w) A (eval elt env) (fun x s₄ =>
              wpAny (model prog w) A (call (.builtin "list.append") [acc, x]) (fun _ s₅ => ∃ m, m < n ∧ I m s₅) (notedBy (model prog w) A env fun e s' => R (.error e) s') s₄) (notedBy (model prog w) A env fun e s' => R (.error e) s') s₃
            else ∃ m, m < n ∧ I m s₃) (notedBy (model prog w) A env fun e s' => R (.error e) s') s₂) (notedBy (model prog w) A env fun e s' => R (.error e) s') s₀) (notedBy (model prog w) A env fun e s' => R (.error e) s') s₁) (notedBy (model prog w) A env fun e s' => R (.error e) s') s)
    (n : Nat) (h : I n s) : codeAny (model prog w) A (.compLoop (.ListComp elt [⟨target, iter, ifs, 0⟩] scope pos) 0 it acc env) R s := by
  refine codeAny_loop rfl I (fun n s hI => ?_) n h
  show wpAny _ A ((compTurn (.ListComp elt [⟨target, iter, ifs, 0⟩] scope pos) 0 it acc env).onRaise (fun x => do noteFrame x env; theTreesLotGoes x)) _ _ s
  refine wpAny_noted ?_
  rw [compTurn_list]
  refine wpAny_bind (wpAny_standAt (wpAny_bind (wpAny_mono (turn n s hI) (fun r s₁ h₁ => ?_) fun _ _ h' => h')))
  cases r with
  | none => exact wpAny_pure h₁
  | some v =>
    refine wpAny_bind (wpAny_mono h₁ (fun _ s₀ h₀' => ?_) fun _ _ h' => h')
    refine wpAny_bind (wpAny_mono h₀' (fun _ s₂ h₂ => wpAny_bind (wpAny_mono h₂ (fun ok s₃ h₃ => ?_) fun _ _ h' => h')) fun _ _ h' => h')
    cases ok with
    | false => exact wpAny_pure ⟨rfl, h₃⟩
    | true =>
      exact wpAny_bind (wpAny_bind (wpAny_mono h₃ (fun x s₄ h₄ => wpAny_bind (wpAny_mono h₄ (fun _ s₅ h₅ => wpAny_pure (wpAny_pure ⟨rfl, h₅⟩)) fun _ _ h' => h')) fun _ _ h' => h'))

/-- a target of a loop takes a value: B is what the names hold then -/
def TgtOk (prog : Program) (w : World) (A : Around) (gC : Heap) (target : PySem.Expr) (cenv : Env) (u : Value) (fp1 : FP) (B : Loc → Prop) : Prop :=
  ∀ (s : Shared) (m : Loc) (Q : Unit → Shared → Prop) (E : Value → Shared → Prop), Fr gC cenv.locals s.heap m → News gC cenv.locals s.heap fp1 →
    (∀ h' tk m', Fr gC cenv.locals h' m' → B m' → (∀ b o, b ≠ cenv.locals → s.heap.get? b = some o → h'.get? b = some o) → Q () { s with heap := h', toks := tk }) → wpAny (model prog w) A (assign target cenv u) Q E s

theorem tgt_name {gC : Heap} {x : Str} {px : Pos} {cenv : Env} {u : Value} {fp1 : FP} (hx : cenv.kindOf x = some .local) (hp : (cenv.scope.kind == .class || (cenv.scope.kind == .module && cenv.locals != cenv.globals)) = false) :
    TgtOk prog w A gC (.Name x px) cenv u fp1 (fun m' => m' x = some u) := fun s m Q E F N h =>
  wpAny_assign_Name (wpAny_storeName_local hx F.ns (fun h2 hn2 hs2 => h h2 (s.toks + 1) _ (F.set hn2 hs2) (by simp) fun b o hb e => hs2.extBut b o hb e) hp)

theorem tgt_tup3 {gC : Heap} {x y z : Str} {px py pz tp : Pos} {kk : Nat} {cenv : Env} {T : Addr} {a b c : Value} {fp1 : FP} (hh : A.handled = none) (hT : (T, tupO [a, b, c]) ∈ fp1) (hx : cenv.kindOf x = some .local) (hy : cenv.kindOf y = some .local) (hz : cenv.kindOf z = some .local)
    (hp : (cenv.scope.kind == .class || (cenv.scope.kind == .module && cenv.locals != cenv.globals)) = false) (hxy : x ≠ y) (hxz : x ≠ z) (hyz : y ≠ z) :
    TgtOk prog w A gC (.Tuple [.Name x px, .Name y py, .Name z pz] kk tp) cenv (.ref T) fp1 (fun m' => m' x = some a ∧ m' y = some b ∧ m' z = some c) := fun s m Q E F N h => by
  have ht : IsTup s.heap T #[a, b, c] := ⟨_, (N _ hT).1, rfl, _, rfl⟩
  refine assign_Tuple_tuple hh ht rfl rfl fun h₁ he₁ => ?_
  have F1 : Fr gC cenv.locals h₁ m := F.extBut he₁ (Nat.le_refl _)
  have up₁ : ∀ c o, s.heap.get? c = some o → h₁.get? c = some o := fun c o e => he₁ c o (Nat.ne_of_lt (Heap.lt_size e)) e
  show wpAny _ _ (assignInOrder [assign (.Name x px) cenv, assign (.Name y py) cenv, assign (.Name z pz) cenv] [a, b, c]) _ _ _
  refine assignInOrder_cons (wpAny_assign_Name (wpAny_storeName_local hx F1.ns (fun h₂ hn₂ hs₂ => ?_) hp))
  have F2 := F1.set hn₂ hs₂
  refine assignInOrder_cons (wpAny_assign_Name (wpAny_storeName_local hy F2.ns (fun h₃ hn₃ hs₃ => ?_) hp))
  have F3 := F2.set hn₃ hs₃
  refine assignInOrder_cons (wpAny_assign_Name (wpAny_storeName_local hz F3.ns (fun h₄ hn₄ hs₄ => ?_) hp))
  have F4 := F3.set hn₄ hs₄
  refine assignInOrder_nil ?_
  exact h h₄ _ _ F4 ⟨by simp [hxy, hxz], by simp [hyz], by simp⟩ fun c o hc e => hs₄.extBut c o hc (hs₃.extBut c o hc (hs₂.extBut c o hc (up₁ c o e)))
end
end Mine
end
section
open PySem PySem.W PySem.Calls PyProof.Rows
set_option Elab.async false
set_option maxRecDepth 100000
set_option linter.unusedVariables false
namespace Mine
section
variable {prog : Program} {w : World} {A : Around} {gC : Heap} {C : Addr} {R : Result → Shared → Prop}
/-- the loop of a list comprehension; `ext` = the accumulator and what the iterator stands on -/
theorem comp_loopG {target elt iter : PySem.Expr} {pos : Pos} {ifs : List PySem.Expr} {scope : Scope} {cenv : Env} {I D : Addr} {fpW wr : List Addr} {n : Nat} {P : Nat → Value → Prop} {St' : Nat → Heap → Prop} {s₀ : Shared}
    (W : Walks prog w A I fpW wr n P St') (hn : n ≤ 1000) (hC : cenv.locals = C) (B : Nat → Value → Loc → Prop)
    (hgo : ∀ i v (s : Shared) (Q : Unit → Shared → Prop) (E : Value → Shared → Prop), St' i s.heap → Q () s → wpAny (model prog w) A (letOwnedTupleGo target (.ref I) v) Q E s)
    (hDf : D ∉ fpW) (hDC : D ≠ C) (hCf : C ∉ fpW) (hgD : gC.get? D = none) (hgW : ∀ b ∈ wr, gC.get? b = none) (J : Nat → FP → List Value → Prop) (hJa : ∀ i fp1 ys, J i fp1 ys → ∀ p ∈ fp1, p.1 ∉ wr ∧ p.1 ≠ D)
    (htg : ∀ i u fp1 ys, i < n → P i u → J i fp1 ys → TgtOk prog w A gC target cenv u fp1 (B i u))
    (hJlen : ∀ i fp1 ys, J i fp1 ys → ys.length ≤ i)
    (step : ∀ i u fp1 ys mC ext, (∃ o, (D, o) ∈ ext) → (∀ b ∈ fpW, ∃ o, (b, o) ∈ ext) → i < n → P i u → J i fp1 ys → B i u mC →
      Op prog w A gC C (fun _ _ => False) (testsOf ifs cenv) (fun ok m2 fp2 => if ok = true then Op prog w A gC C (fun _ _ => False) (eval elt cenv) (fun y _ fpx => ∃ fp3, (∀ p ∈ ext ++ fp3, p ∈ fpx) ∧ J (i + 1) fp3 (ys ++ [y])) m2 fp2
        else ∃ fp3, (∀ p ∈ ext ++ fp3, p ∈ fp2) ∧ J (i + 1) fp3 ys) mC (ext ++ fp1))
    {m₀ : Loc} {fp0 : FP} (F : Fr gC C s₀.heap m₀) (N : News gC C s₀.heap fp0) (hacc : s₀.heap.PlainList D #[]) (hst : St' 0 s₀.heap) (hJ : J 0 fp0 []) (hex : ∀ i h, St' i h → ∀ b ∈ fpW, ∃ o, h.get? b = some o) (hgF : ∀ b ∈ fpW, gC.get? b = none)
    (hR : ∀ h' tk m' fp1 ys, Fr gC C h' m' → News gC C h' fp1 → h'.PlainList D ys.toArray → J n fp1 ys → R (.ok .next) { s₀ with heap := h', toks := tk }) :
    codeAny (model prog w) A (.compLoop (.ListComp elt [⟨target, iter, ifs, 0⟩] scope pos) 0 (.ref I) (.ref D) cenv) R s₀ := by
  refine compLoop_all (fun k s' => ∃ i h' tk m' fp1 ys, s' = { s₀ with heap := h', toks := tk } ∧ Fr gC C h' m' ∧ News gC C h' fp1 ∧ h'.PlainList D ys.toArray ∧ St' i h' ∧ J i fp1 ys ∧ i ≤ n ∧ k = n - i) ?_ n
    ⟨0, s₀.heap, s₀.toks, m₀, fp0, [], rfl, F, N, hacc, hst, hJ, Nat.zero_le _, rfl⟩
  rintro k s' ⟨i, h', tk, m', fp1, ys, rfl, F1, N1, acc1, st1, J1, hi, rfl⟩
  by_cases hlt : i < n
  · refine W.item i { s₀ with heap := h', toks := tk } _ _ hlt st1 fun v h1 tk1 hv st2 hk1 => ?_
    have F2 : Fr gC C h1 m' := ⟨F1.ns.at' fun o e => hk1 _ o (fun q => hCf (W.sub _ q)) e, fun b o e => hk1 b o (fun q => by rw [hgW b q] at e; cases e) (F1.keep b o e), F1.above⟩
    subst hC
    refine hgo (i + 1) v _ _ _ st2 ?_
    refine htg i v fp1 ys hlt hv J1 _ m' _ _ F2 (fun p hp => ⟨hk1 _ _ ((hJa _ _ _ J1 p hp).1) (N1 p hp).1, (N1 p hp).2⟩) fun h2 tk2 m2 F3 hB hs2 => ?_
    have acc2 : h2.PlainList D ys.toArray := acc1.at fun o e => hs2 D o hDC (hk1 _ o (fun q => hDf (W.sub _ q)) e)
    have st3 : St' (i + 1) h2 := W.frame _ _ _ st2 fun b hb o e => hs2 b o (fun q => hCf (q ▸ hb)) e
    obtain ⟨nD, hD2⟩ := acc2
    have N3 : News gC cenv.locals h2 (((D, objAt h2 D) :: fpW.map fun b => (b, objAt h2 b)) ++ fp1) := fun p hp => by
      rcases List.mem_append.mp hp with hp | hp
      · rcases List.mem_cons.mp hp with rfl | hp
        · exact ⟨by rw [objAt_of hD2]; exact hD2, hDC, hgD⟩
        · obtain ⟨b, hb, rfl⟩ := List.mem_map.mp hp
          obtain ⟨o, ho⟩ := hex _ _ st3 b hb
          exact ⟨by rw [objAt_of ho]; exact ho, fun q => hCf (q ▸ hb), hgF b hb⟩
      · refine ⟨hs2 p.1 p.2 (N1 p hp).2.1 (hk1 _ _ ((hJa _ _ _ J1 p hp).1) (N1 p hp).1), (N1 p hp).2⟩
    have sop := step i v fp1 ys m2 ((D, objAt h2 D) :: fpW.map fun b => (b, objAt h2 b)) ⟨_, .head _⟩ (fun b hb => ⟨_, .tail _ (List.mem_map_of_mem (f := fun b => (b, objAt h2 b)) hb)⟩) hlt hv J1 hB
    have again : ∀ (h3 : Heap) (m3 : Loc) (fpx fp3 : FP), Fr gC cenv.locals h3 m3 → News gC cenv.locals h3 fpx → (∀ p ∈ ((D, objAt h2 D) :: fpW.map fun b => (b, objAt h2 b)) ++ fp3, p ∈ fpx) → h3.PlainList D ys.toArray ∧ St' (i + 1) h3 ∧ News gC cenv.locals h3 fp3 := fun h3 m3 fpx fp3 F4 N4 hs =>
      ⟨⟨nD, by rw [← objAt_of hD2]; exact (N4 _ (hs _ (.head _))).1⟩, W.frame _ _ _ st3 fun b hb o e => by
        have := (N4 _ (hs _ (.tail _ (List.mem_append_left _ (List.mem_map_of_mem (f := fun b => (b, objAt h2 b)) hb))))).1
        rw [objAt_of e] at this; exact this, fun p hp => N4 p (hs p (List.mem_append_right _ hp))⟩
    refine wpAny_mono (sop.run { s₀ with heap := h2, toks := tk2 } F3 N3) (fun ok s3 ⟨h3, t3, m3, fp2, es, F4, N4, q⟩ => ?_) fun _ _ ⟨_, _, _, z⟩ => z.elim
    subst es
    cases ok with
    | false =>
      rw [if_neg (by simp)] at q ⊢
      obtain ⟨fp3, hs, J2⟩ := q
      obtain ⟨a1, a2, a3⟩ := again h3 m3 fp2 fp3 F4 N4 hs
      exact ⟨n - (i + 1), by omega, i + 1, h3, t3, m3, fp3, ys, rfl, F4, a3, a1, a2, J2, hlt, rfl⟩
    | true =>
      rw [if_pos rfl] at q ⊢
      refine wpAny_mono (Op.run q { s₀ with heap := h3, toks := t3 } F4 N4) (fun y s4 ⟨h4, t4, m4, fpx, es, F5, N5, q⟩ => ?_) fun _ _ ⟨_, _, _, z⟩ => z.elim
      subst es
      obtain ⟨fp3, hs, J2⟩ := q
      obtain ⟨a1, a2, a3⟩ := again h4 m4 fpx fp3 F5 N5 hs
      refine wpAny_list_append_plain (s := { s₀ with heap := h4, toks := t4 }) a1 (fun h5 hl5 hs5 => ?_) (by have := hJlen _ _ _ J1; rw [sizeLine_eq]; rw [List.size_toArray]; omega)
      refine ⟨n - (i + 1), by omega, i + 1, h5, t4, m4, fp3, ys ++ [y], rfl, ⟨F5.ns.sameBut hs5 (Ne.symm hDC), fun b o e => hs5.extBut b o (fun q => by rw [q, hgD] at e; cases e) (F5.keep b o e), F5.above⟩, fun p hp => ⟨hs5.extBut p.1 p.2 ((hJa _ _ _ J2 p hp).2) (a3 p hp).1, (a3 p hp).2⟩, by simpa using hl5, W.frame _ _ _ a2 fun b hb o e => hs5.extBut b o (fun q => hDf (q ▸ hb)) e, J2, hlt, rfl⟩
  · have : i = n := by omega
    subst this
    refine W.done { s₀ with heap := h', toks := tk } _ _ st1 fun h1 tk1 hk1 => ?_
    have F2 : Fr gC C h1 m' := ⟨F1.ns.at' fun o e => hk1 _ o (fun q => hCf (W.sub _ q)) e, fun b o e => hk1 b o (fun q => by rw [hgW b q] at e; cases e) (F1.keep b o e), F1.above⟩
    refine hR h1 tk1 m' fp1 ys F2 (fun p hp => ⟨hk1 _ _ ((hJa _ _ _ J1 p hp).1) (N1 p hp).1, (N1 p hp).2⟩) (acc1.at fun o e => hk1 _ o (fun q => hDf (W.sub _ q)) e) J1
end
end Mine
end
section
open PySem PySem.W PySem.Calls PyProof.Rows
set_option Elab.async false
set_option maxRecDepth 100000
set_option linter.unusedVariables false
namespace Mine
section
variable {prog : Program} {w : World} {A : Around} {g base : Heap} {outer : List Env} {L : Addr} {E : Value → Heap → Prop} {m : Loc} {fp : FP} {n : Nat} {env : Env}

/-- an iterator that stands in the ledger -/
def Src (prog : Program) (w : World) (A : Around) (target : PySem.Expr) (I : Addr) (n : Nat) (P : Nat → Value → Prop) (fp : FP) : Prop :=
  ∃ fpW St', Walks prog w A I fpW [I] n P St' ∧ (∀ b ∈ fpW, ∃ o, (b, o) ∈ fp) ∧ (∀ h : Heap, (∀ p ∈ fp, h.get? p.1 = some p.2) → St' 0 h) ∧ (∀ i h, St' i h → ∀ b ∈ fpW, ∃ o, h.get? b = some o) ∧
    (∀ i v (s : Shared) (Q : Unit → Shared → Prop) (E : Value → Shared → Prop), St' i s.heap → Q () s → wpAny (model prog w) A (letOwnedTupleGo target (.ref I) v) Q E s)

structure CompOkG (prog : Program) (w : World) (A : Around) (g : Heap) (env : Env) (scope : Scope) (cl : List (Str × Addr)) (target : PySem.Expr) (ifs : List PySem.Expr) (elt : PySem.Expr) (I : Addr) (n : Nat) (P : Nat → Value → Prop) (J : Addr → Nat → FP → List Value → Prop) (B : Nat → Value → Loc → Prop) : Prop where
  len : ∀ D i fp ys, J D i fp ys → ys.length ≤ i
  away : ∀ D i fp ys, J D i fp ys → ∀ p ∈ fp, p.1 ≠ I ∧ p.1 ≠ D
  tgt : ∀ D i u fp1 ys gC C, i < n → P i u → J D i fp1 ys → TgtOk prog w A gC target (compEnvC scope cl C env) u fp1 (B i u)
  step : ∀ D i u fp1 ys mC ext gC C oI oD, g.StaysIn gC → i < n → P i u → J D i fp1 ys → B i u mC → (I, oI) ∈ ext → (D, oD) ∈ ext →
    Op prog w A gC C (fun _ _ => False) (testsOf ifs (compEnvC scope cl C env)) (fun ok m2 fp2 => if ok = true then Op prog w A gC C (fun _ _ => False) (eval elt (compEnvC scope cl C env)) (fun y _ fpx => ∃ fp3, (∀ p ∈ ext ++ fp3, p ∈ fpx) ∧ J D (i + 1) fp3 (ys ++ [y])) m2 fp2
      else ∃ fp3, (∀ p ∈ ext ++ fp3, p ∈ fp2) ∧ J D (i + 1) fp3 ys) mC (ext ++ fp1)

theorem comp_core {use : Option (Value → Sem Unit)} {R : Addr → Loc → FP → Prop} {Q' : Value → Shared → Prop} {s : Shared} (F : Fr g L s.heap m) (N : News g L s.heap fp) {elt target iter : PySem.Expr} {pos pos' : Pos} {ifs : List PySem.Expr} {scope : Scope} {cl : List (Str × Addr)}
    (hclos : closureFor scope env = Pure.pure cl) (hcell : ∀ y ∈ scope.names, y.2 ≠ .cell) (hkind : scope.kind = .function) (hnames : ∀ y ∈ scope.names, y.2 = .local → scope.names.lookup y.1 = some .local)
    (h : Op prog w A g L E (eval iter env) (fun v m1 fp1 => Op prog w A g L E (pyIter v) (fun it m2 fp2 => ∃ I oI fpB n P J B, it = .ref I ∧ (∀ p ∈ ((I, oI) :: fpB), p ∈ fp2) ∧ (∀ p ∈ fpB, p.1 ≠ I) ∧ n ≤ 1000 ∧ Src prog w A target I n P ((I, oI) :: fpB) ∧ CompOkG prog w A g env scope cl target ifs elt I n P J B ∧
      (∀ D, (∀ p ∈ ((I, oI) :: fpB), p.1 < D) → J D 0 fpB []) ∧
      (∀ D fp3 ys oD, (∀ p ∈ ((I, oI) :: fpB), p.1 < D) → J D n fp3 ys → LstOf oD ys → R D m2 ((D, oD) :: fp3))) m1 fp1) m fp)
    (fin : ∀ (C D : Addr) (s' : Shared) (mC m1 : Loc) (fpz : FP), (∃ h tk, s' = { s with heap := h, toks := tk }) → s'.heap.Ns C mC → Fr g L s'.heap m1 → News g L s'.heap fpz → g.get? C = none → C ≠ L → (∀ p ∈ fpz, p.1 ≠ C) → R D m1 fpz → compPost (model prog w) A (XS E s) use Q' (.ref D) C (.ok .next) s')
    (hs : ∀ x, foldedSetIterable iter env x = Pure.pure x := by intro _; rfl) :
    wpAny (model prog w) A (comprehension (.ListComp elt [⟨target, iter, ifs, 0⟩] scope pos) scope env pos' (newList []) false (eval iter env) use) Q' (XS E s) s := by
    refine wpAny_comprehension_free (use := use) rfl hs hclos hkind hnames (h.use F N fun v h0 t0 m0 fp0 F0 N0 q => Op.use q (s := { s with heap := h0, toks := t0 }) F0 N0 fun it h1 t1 m1 fp1' F1 N1' q => ?_)
    obtain ⟨I, oI, fpB, n, P, J, B, rfl, hsub, hIB, hlen, ⟨fpW, St', W, hW1, hW2, hW3, hW4⟩, ok, hJ0, hdone⟩ := q
    generalize hfpA : ((I, oI) :: fpB : FP) = fp1 at *
    have N1 : News g L h1 fp1 := fun p hp => N1' p (hsub p hp)
    have hI1 : (I, oI) ∈ fp1 := hfpA ▸ .head _
    have hB1 : ∀ p ∈ fpB, p ∈ fp1 := fun p hp => hfpA ▸ .tail _ hp
    refine wpAny_newObj_type (wpAny_newFunctionEnv hcell (by intro y hy; simp at hy) (fun h3 hns3 hsb3 => ?_) hkind)
    dsimp only at hns3 hsb3 ⊢
    generalize hHD : h1.push { cls := .type "list", dict := none, data := .seq ([] : List Value).toArray } = HD at *
    have sD : HD.objs.size = h1.objs.size + 1 := by rw [← hHD, Heap.size_push]
    have up2 : ∀ b o, h1.get? b = some o → HD.get? b = some o := fun b o e => hHD ▸ Heap.get?_push_of_some _ e
    have up3 : ∀ b o, HD.get? b = some o → h3.get? b = some o := fun b o e => hsb3.extBut b o (Nat.ne_of_lt (Heap.lt_size e)) (Heap.get?_push_of_some _ e)
    have gD : HD.get? h1.objs.size = some { cls := .type "list", dict := none, data := .seq ([] : List Value).toArray } := hHD ▸ Heap.get?_push_size _ rfl
    have lt1 : ∀ p ∈ fp1, p.1 < h1.objs.size := fun p hp => Heap.lt_size (N1 p hp).1
    have FC : Fr (hideAll HD (h1.objs.size :: fp1.map (·.1))) HD.objs.size h3 (fun y => ([] : List (Str × Value)).reverse.lookup y) := ⟨hns3, fun b o e => up3 b o (of_hideAll _ e), Nat.le_of_eq (hideAll_size _ _)⟩
    have NC : News (hideAll HD (h1.objs.size :: fp1.map (·.1))) HD.objs.size h3 fp1 := fun p hp => by
      have e := up2 _ _ (N1 _ hp).1
      exact ⟨up3 _ _ e, Nat.ne_of_lt (Heap.lt_size e), hideAll_none _ (.tail _ (List.mem_map_of_mem hp))⟩
    have stg : g.StaysIn (hideAll HD (h1.objs.size :: fp1.map (·.1))) := fun b o e => hideAll_get _ (up2 _ _ (F1.keep b o e)) fun hm => by
      have hb : b < h1.objs.size := Heap.lt_size (F1.keep b o e)
      rcases List.mem_cons.mp hm with q | hm
      · exact Nat.lt_irrefl _ (q ▸ hb)
      · obtain ⟨p, hp, q⟩ := List.mem_map.mp hm
        have := (N1 p hp).2.2
        rw [q, e] at this; cases this
    have ltDC : h1.objs.size < HD.objs.size := by rw [sD]; exact Nat.lt_succ_self _
    have hf3 : ∀ p ∈ fp1, h3.get? p.1 = some p.2 := fun p hp => up3 _ _ (up2 _ _ (N1 p hp).1)
    have st0 : St' 0 h3 := hW2 h3 hf3
    have inW : ∀ b ∈ fpW, b < h1.objs.size := fun b hb => by obtain ⟨o, ho⟩ := hW1 b hb; exact lt1 _ ho
    have loop : ∀ tt, codeAny (model prog w) A (.compLoop (.ListComp elt [⟨target, iter, ifs, 0⟩] scope pos) 0 (.ref I) (.ref h1.objs.size) (compEnvC scope cl HD.objs.size env)) (compPost (model prog w) A (XS E s) use Q' (.ref h1.objs.size) HD.objs.size) { s with heap := h3, toks := tt } := fun tt => by
      refine comp_loopG (s₀ := { s with heap := h3, toks := tt }) (D := h1.objs.size) (gC := hideAll HD (h1.objs.size :: fp1.map (·.1))) (C := HD.objs.size) W hlen rfl B hW4 (fun hm => Nat.lt_irrefl _ (inW _ hm)) (Nat.ne_of_lt ltDC) (fun hm => Nat.lt_irrefl _ (Nat.lt_trans ltDC (inW _ hm))) (hideAll_none _ (.head _)) ?_ (J h1.objs.size)
        (fun i fp ys j p hp => ⟨fun q => (ok.away _ _ _ _ j p hp).1 (List.mem_singleton.mp q), (ok.away _ _ _ _ j p hp).2⟩) (fun i u fp2 ys hi hu j => ok.tgt _ i u fp2 ys _ _ hi hu j) (ok.len _) ?_ FC (fun p hp => NC p (hB1 p hp)) ⟨_, up3 _ _ gD⟩ st0 (hJ0 _ lt1) hW3 ?_ ?_
      · intro b hb
        rw [List.mem_singleton.mp hb]
        exact hideAll_none _ (.tail _ (List.mem_map_of_mem (f := (·.1)) hI1))
      · intro i u fp2 ys mC ext hd hf hi hu j hm
        obtain ⟨oD, hd⟩ := hd
        obtain ⟨oI', hi'⟩ := hf I (W.sub _ (.head _))
        exact ok.step _ i u fp2 ys mC ext _ _ oI' oD stg hi hu j hm hi' hd
      · intro b hb
        obtain ⟨o, ho⟩ := hW1 b hb
        exact hideAll_none _ (.tail _ (List.mem_map_of_mem (f := (·.1)) ho))
      · intro h' tk m' fp2 ys F2 N2 hpl j
        obtain ⟨nl, hpl⟩ := hpl
        obtain ⟨oL, es, ep, hoL, rL⟩ := F1.ns
        have hLg : (hideAll HD (h1.objs.size :: fp1.map (·.1))).get? L = some oL := hideAll_get _ (up2 _ _ hoL) fun hm => by
          have hb : L < h1.objs.size := Heap.lt_size hoL
          rcases List.mem_cons.mp hm with q | hm
          · exact Nat.lt_irrefl _ (q ▸ hb)
          · obtain ⟨p, hp, q⟩ := List.mem_map.mp hm
            exact (N1 p hp).2.1 q
        have gnone : ∀ b, (hideAll HD (h1.objs.size :: fp1.map (·.1))).get? b = none → g.get? b = none := fun b hb => by
          cases q : g.get? b with
          | none => rfl
          | some o => have := stg b o q; rw [hb] at this; cases this
        have NL : News g L h' ((h1.objs.size, { cls := .type "list", data := .seq ys.toArray nl }) :: fp2) := fun p hp => by
          rcases List.mem_cons.mp hp with rfl | hp
          · exact ⟨hpl, fun q => by have : h1.objs.size = L := q; have hb : L < h1.objs.size := Heap.lt_size hoL; rw [← this] at hb; exact Nat.lt_irrefl _ hb, gnone _ (hideAll_none _ (.head _))⟩
          · obtain ⟨a1, a2, a3⟩ := N2 p hp
            exact ⟨a1, (fun q => by rw [q, hLg] at a3; cases a3), gnone _ a3⟩
        refine fin HD.objs.size h1.objs.size { s with heap := h', toks := tk } m' m1 _ ⟨_, _, rfl⟩ F2.ns ⟨⟨oL, es, ep, F2.keep _ _ hLg, rL⟩, fun b o e => F2.keep _ _ (stg b o e), F1.above⟩ NL ?_ ?_ ?_ (hdone _ _ _ _ lt1 j ⟨nl, rfl⟩)
        · cases q : g.get? HD.objs.size with
          | none => rfl
          | some o => exact absurd (Heap.lt_size (of_hideAll _ (stg _ o q))) (Nat.lt_irrefl _)
        · exact fun q => absurd (Heap.lt_size (of_hideAll _ hLg)) (q ▸ Nat.lt_irrefl _)
        · intro p hp
          rcases List.mem_cons.mp hp with rfl | hp
          · exact Nat.ne_of_lt ltDC
          · exact (N2 p hp).2.1
    exact codeAny_compStart_list (loop _) (W.self 0 _ _ _ st0 (loop _))

theorem o_compG {elt target iter : PySem.Expr} {pos : Pos} {ifs : List PySem.Expr} {scope : Scope} {cl : List (Str × Addr)} {Q : Value → Loc → FP → Prop}
    (hclos : closureFor scope env = Pure.pure cl) (hcell : ∀ y ∈ scope.names, y.2 ≠ .cell) (hkind : scope.kind = .function) (hnames : ∀ y ∈ scope.names, y.2 = .local → scope.names.lookup y.1 = some .local)
    (h : Op prog w A g L E (eval iter env) (fun v m1 fp1 => Op prog w A g L E (pyIter v) (fun it m2 fp2 => ∃ I oI fpB n P J B, it = .ref I ∧ (∀ p ∈ ((I, oI) :: fpB), p ∈ fp2) ∧ (∀ p ∈ fpB, p.1 ≠ I) ∧ n ≤ 1000 ∧ Src prog w A target I n P ((I, oI) :: fpB) ∧ CompOkG prog w A g env scope cl target ifs elt I n P J B ∧
      (∀ D, (∀ p ∈ ((I, oI) :: fpB), p.1 < D) → J D 0 fpB []) ∧
      (∀ D fp3 ys oD, (∀ p ∈ ((I, oI) :: fpB), p.1 < D) → J D n fp3 ys → LstOf oD ys → Q (.ref D) m2 ((D, oD) :: fp3))) m1 fp1) m fp)
    (hs : ∀ x, foldedSetIterable iter env x = Pure.pure x := by intro _; rfl) :
    Op prog w A g L E (eval (.ListComp elt [⟨target, iter, ifs, 0⟩] scope pos) env) Q m fp :=
  Op.of fun s F N Q' kk => by
    rw [eval_ListComp]
    show wpAny (model prog w) A (comprehension (.ListComp elt [⟨target, iter, ifs, 0⟩] scope pos) scope env _ (newList []) false (eval iter env) none) Q' (XS E s) s
    refine comp_core (use := none) (Q' := Q') (R := fun D m1 fp1 => Q (.ref D) m1 fp1) F N hclos hcell hkind hnames h (fun C D s' mC m1 fpz ⟨h1, tk, e⟩ hns F1 N1 hgC hCL hoff r => ?_) hs
    subst e
    refine ⟨mC, hns, fun h'' hs'' => ?_⟩
    exact kk _ h'' tk m1 fpz ⟨F1.ns.sameBut hs'' (Ne.symm hCL), fun b o e => hs''.extBut b o (fun q => by rw [q, hgC] at e; cases e) (F1.keep b o e), F1.above⟩ (fun p hp => ⟨hs''.extBut _ _ (hoff p hp) (N1 p hp).1, (N1 p hp).2⟩) r

/-- the iterator of a list in the ledger -/
theorem o_iterList {a : Addr} {o : Obj} {vs : List Value} {Q : Value → Loc → FP → Prop} (hh : A.handled = none) (hm : (a, o) ∈ fp) (ho : LstOf o vs)
    (h : ∀ I oI, (∀ p ∈ fp, p.1 < I) → (∀ x px, Src prog w A (.Name x px) I vs.length (fun i v => vs[i]? = some v) ((I, oI) :: fp)) → (∀ elts k px, Src prog w A (.Tuple elts k px) I vs.length (fun i v => vs[i]? = some v) ((I, oI) :: fp)) → Q (.ref I) m ((I, oI) :: fp)) :
    Op prog w A g L E (pyIter (.ref a)) Q m fp :=
  Op.of fun s F N _ kk => by
    obtain ⟨nP, rfl⟩ := ho
    have hPl : s.heap.IsList a vs.toArray := ⟨_, (N _ hm).1, rfl, nP, rfl⟩
    refine wpAny_pyIter_list hPl ?_
    have ltA : a < s.heap.objs.size := Heap.lt_size (N _ hm).1
    have W := Walks.list (prog := prog) (w := w) hh s.heap.objs.size a (Nat.ne_of_lt ltA) vs.toArray
    have e1 : vs.toArray.size = vs.length := by simp
    have e2 : (fun (i : Nat) v => vs.toArray[i]? = some v) = fun i v => vs[i]? = some v := by funext i v; simp
    rw [e1, e2] at W
    have cm1 : ∀ b ∈ [s.heap.objs.size, a], ∃ o, (b, o) ∈ ((s.heap.objs.size, ({ cls := .type "list_iterator", data := .fields #[.ref a, .int 0 0] } : Obj)) :: fp) := fun b hb => by
      rcases List.mem_cons.mp hb with q | hb
      · rw [q]; exact ⟨_, .head _⟩
      · rw [List.mem_singleton.mp hb]; exact ⟨_, .tail _ hm⟩
    have cm2 : ∀ h : Heap, (∀ p ∈ ((s.heap.objs.size, ({ cls := .type "list_iterator", data := .fields #[.ref a, .int 0 0] } : Obj)) :: fp), h.get? p.1 = some p.2) → h.IsListIter s.heap.objs.size a 0 ∧ h.IsList a vs.toArray := fun h hk => ⟨⟨_, hk _ (.head _), rfl, rfl⟩, ⟨_, hk _ (.tail _ hm), rfl, nP, rfl⟩⟩
    have cm3 : ∀ (i : Nat) (h : Heap), (h.IsListIter s.heap.objs.size a i ∧ h.IsList a vs.toArray) → ∀ b ∈ [s.heap.objs.size, a], ∃ o, h.get? b = some o := by
      rintro i h ⟨⟨o1, a1, _⟩, ⟨o2, a2, _⟩⟩ b hb
      rcases List.mem_cons.mp hb with q | hb
      · exact ⟨o1, q ▸ a1⟩
      · exact ⟨o2, (List.mem_singleton.mp hb) ▸ a2⟩
    exact kk _ _ s.toks m _ (F.push _) (News.push F N _) (h _ _ (fun p hp => Heap.lt_size (N p hp).1) (fun x px => ⟨_, _, W, cm1, cm2, cm3, fun i v s Q E st hq => wpAny_pure hq⟩) (fun elts k px => ⟨_, _, W, cm1, cm2, cm3, fun i v s Q E st hq => by
      cases v with
      | ref T => exact wpAny_letOwnedTupleGo_listiter st.1 hq
      | _ => exact wpAny_pure hq⟩))
end
end Mine
end
section
open PySem PySem.W PySem.Calls PyProof.Rows
set_option Elab.async false
set_option maxRecDepth 100000
set_option linter.unusedVariables false
namespace Mine
section
variable {prog : Program} {w : World} {A : Around} {s : Shared} {E : Value → Shared → Prop}
theorem tup_lt_tree {a b c d : Int} {t1 t2 t3 t4 : Tok} {x y : Addr} {ox oy : Obj} {n k : Nat} {P : Fin → Shared → Prop} (hx : s.heap.get? x = some ox) (dx : ox.data = .seq #[.int a t1, .int b t2] n) (hy : s.heap.get? y = some oy) (cy : oy.cls = .type "tuple") (dy : oy.data = .seq #[.int c t3, .int d t4] k)
    (h : P (.done (.ret (.bool (decide (a < c ∨ (a = c ∧ b < d)))))) s) : wpAny (model prog w) A (Builtin.«tuple.__lt__» ⟨[.ref x, .ref y], []⟩) P E s := by
  have hTb : s.TypeIs (.ref y) "tuple" := ⟨_, hy, cy⟩
  show wpAny _ _ (isInstance (.ref y) (.type "tuple") >>= _) _ _ s
  refine wpAny_bind (wpAny_isInstance hTb isSubtype_tuple_tuple ?_)
  simp only [Bool.not_true, Bool.false_eq_true, if_false]
  refine wpAny_bind (wpAny_tupleItemsOf hx dx ?_)
  refine wpAny_bind (wpAny_tupleItemsOf hy dy ?_)
  show wpAny _ _ (forIn [((Value.int a t1), (Value.int c t3)), ((Value.int b t2), (Value.int d t4))] _ _ >>= _) _ _ s
  rw [List.forIn_cons]
  refine wpAny_bind (wpAny_bind (wpAny_bind (wpAny_eqBool_int ?_)))
  by_cases e1 : a = c
  · subst e1
    simp only [beq_self_eq_true, Bool.not_true, Bool.false_eq_true, if_false]
    refine wpAny_pure ?_
    dsimp only
    rw [List.forIn_cons]
    refine wpAny_bind (wpAny_bind (wpAny_eqBool_int ?_))
    by_cases e2 : b = d
    · subst e2
      simp only [beq_self_eq_true, Bool.not_true, Bool.false_eq_true, if_false]
      refine wpAny_pure ?_
      dsimp only
      rw [List.forIn_nil]
      refine wpAny_pure ?_
      have : decide (a < a ∨ (a = a ∧ b < b)) = false := by simp
      rw [this] at h
      exact wpAny_pure h
    · have : (b == d) = false := by simpa using e2
      simp only [this, Bool.not_false, if_true]
      have e3 : decide (a < a ∨ (a = a ∧ b < d)) = decide (b < d) := by simp
      rw [e3] at h
      refine wpAny_bind (wpAny_rule (wpAny_bind (wpAny_mono (show wpAny (model prog w) A (richCompare .Lt (.int b t2) (.int d t4)) _ E s from wpAny_lt_int (Q := fun v s' => v = .bool (decide (b < d)) ∧ s' = s) ⟨rfl, rfl⟩) (fun v s' hv => ?_) fun _ _ z => z)))
      obtain ⟨rfl, rfl⟩ := hv
      exact wpAny_bind (wpAny_pure (wpAny_pure (wpAny_pure (wpAny_pure h))))
  · have : (a == c) = false := by simpa using e1
    simp only [this, Bool.not_false, if_true]
    have e3 : decide (a < c ∨ (a = c ∧ b < d)) = decide (a < c) := by simp [e1]
    rw [e3] at h
    refine wpAny_bind (wpAny_rule (wpAny_bind (wpAny_mono (show wpAny (model prog w) A (richCompare .Lt (.int a t1) (.int c t3)) _ E s from wpAny_lt_int (Q := fun v s' => v = .bool (decide (a < c)) ∧ s' = s) ⟨rfl, rfl⟩) (fun v s' hv => ?_) fun _ _ z => z)))
    obtain ⟨rfl, rfl⟩ := hv
    exact wpAny_bind (wpAny_pure (wpAny_pure (wpAny_pure (wpAny_pure h))))
theorem tup_lt {a b c d : Int} {t1 t2 t3 t4 : Tok} {x y : Addr} {ox oy : Obj} {n k : Nat} {Q : Value → Shared → Prop} (hu : A.units < cLine) (hx : s.heap.get? x = some ox) (cx : ox.cls = .type "tuple") (dx : ox.data = .seq #[.int a t1, .int b t2] n) (hy : s.heap.get? y = some oy) (cy : oy.cls = .type "tuple") (dy : oy.data = .seq #[.int c t3, .int d t4] k)
    (h : Q (.bool (decide (a < c ∨ (a = c ∧ b < d)))) s) : wpAny (model prog w) A (compareOp .Lt (.ref x) (.ref y)) Q E s := by
  show wpAny _ _ (richCompare .Lt (.ref x) (.ref y)) Q E s
  have hTa : s.TypeIs (.ref x) "tuple" := ⟨_, hx, cx⟩
  have hTb : s.TypeIs (.ref y) "tuple" := ⟨_, hy, cy⟩
  exact wpAny_richCompare_same_room (op := .Lt) hTa hTb PySem.F.slot_tuple_lt
      (wpAny_call_entry PySem.F.slot_tuple_lt hTa PySem.F.entry_tuple_lt (tup_lt_tree hx dx hy cy dy ⟨_, rfl, (fun e => nomatch e), h⟩) (PySem.F.args_tuple_lt_2 _ _)) hu
end
mutual
inductive Rd (fp : FP) : Value → PyData → Prop
  | int {i : Int} {t : Tok} : Rd fp (.int i t) (.int i)
  | str {x : Str} {t : Tok} : Rd fp (.str x t) (.str x)
  | bool {b : Bool} : Rd fp (.bool b) (.bool b)
  | list {a : Addr} {o : Obj} {vs : List Value} {ds : List PyData} : (a, o) ∈ fp → LstOf o vs → RdAll fp vs ds → Rd fp (.ref a) (.list ds)
  | tup {a : Addr} {vs : List Value} {ds : List PyData} : (a, tupO vs) ∈ fp → RdAll fp vs ds → Rd fp (.ref a) (.tuple ds)
inductive RdAll (fp : FP) : List Value → List PyData → Prop
  | nil : RdAll fp [] []
  | cons {v : Value} {d : PyData} {vs : List Value} {ds : List PyData} : Rd fp v d → RdAll fp vs ds → RdAll fp (v :: vs) (d :: ds)
end
section
variable {prog : Program} {w : World} {A : Around} {g base : Heap} {outer : List Env} {L : Addr} {E : Value → Heap → Prop} {m : Loc} {fp : FP} {n : Nat} {env env' : Env}
theorem Cx.unitsLt (cx : Cx w base outer g L A env n) : A.units + 64 < cLine := by have := cx.units; simp only [cLine]; omega
theorem o_ltTup {a b c d : Int} {t1 t2 t3 t4 : Tok} {x y : Addr} {Q : Value → Loc → FP → Prop} (cx : Cx w base outer g L A env n) (hx : (x, tupO [.int a t1, .int b t2]) ∈ fp) (hy : (y, tupO [.int c t3, .int d t4]) ∈ fp)
    (h : Q (.bool (decide (a < c ∨ (a = c ∧ b < d)))) m fp) : Op prog w A g L E (compareOp .Lt (.ref x) (.ref y)) Q m fp :=
  Op.of fun s F N _ k => tup_lt (Nat.lt_of_le_of_lt (Nat.le_add_right _ 64) cx.unitsLt) (N _ hx).1 rfl rfl (N _ hy).1 rfl rfl (k _ s.heap s.toks m fp F N h)

/-- a value that reads as data, by the ledger alone -/
theorem Rd.reads {v d} (r : Rd fp v d) (h : Heap) (hk : ∀ p ∈ fp, h.get? p.1 = some p.2) : ∃ as, Reads h v d as :=
  Rd.rec (motive_1 := fun v d _ => ∃ as, Reads h v d as) (motive_2 := fun vs ds _ => ∃ as, ReadsAll h vs ds as) ⟨_, .int _ _⟩ ⟨_, .str _ _⟩ ⟨_, .bool _⟩
    (fun hm ho _ ih => by
      obtain ⟨n, rfl⟩ := ho
      obtain ⟨as, x⟩ := ih
      exact ⟨_, .list (hk _ hm) rfl rfl (by simpa using x)⟩)
    (fun hm _ ih => by
      obtain ⟨as, x⟩ := ih
      exact ⟨_, .tuple (hk _ hm) rfl rfl (by simpa using x)⟩)
    ⟨_, .nil⟩ (fun _ _ ih1 ih2 => let ⟨_, a⟩ := ih1; let ⟨_, b⟩ := ih2; ⟨_, .cons a b⟩) r
theorem Rd.mono {fp fp' : FP} {v d} (r : Rd fp v d) (k : ∀ p ∈ fp, p ∈ fp') : Rd fp' v d :=
  Rd.rec (motive_1 := fun v d _ => Rd fp' v d) (motive_2 := fun vs ds _ => RdAll fp' vs ds) .int .str .bool
    (fun hm ho _ ih => .list (k _ hm) ho ih) (fun hm _ ih => .tup (k _ hm) ih) .nil (fun _ _ ih1 ih2 => .cons ih1 ih2) r
/-- only lists and tuples are read -/
theorem Rd.keep {fp fp' : FP} {v d} (r : Rd fp v d) (k : ∀ p ∈ fp, (∃ vs n, p.2.data = .seq vs n) → p ∈ fp') : Rd fp' v d :=
  Rd.rec (motive_1 := fun v d _ => Rd fp' v d) (motive_2 := fun vs ds _ => RdAll fp' vs ds) .int .str .bool
    (fun hm ho _ ih => .list (k _ hm (by obtain ⟨n, rfl⟩ := ho; exact ⟨_, _, rfl⟩)) ho ih) (fun hm _ ih => .tup (k _ hm ⟨_, _, rfl⟩) ih) .nil (fun _ _ ih1 ih2 => .cons ih1 ih2) r
theorem o_eqD {a b : Value} {da db : PyData} {Q : Value → Loc → FP → Prop} (cx : Cx w base outer g L A env n) (ra : Rd fp a da) (rb : Rd fp b db) (ha : SeqAt.shaped da = true) (hb : SeqAt.shaped db = true)
    (h : Q (.bool (PyData.eqv da db)) m fp) : Op prog w A g L E (compareOp .Eq a b) Q m fp :=
  Op.of fun s F N _ k => let ⟨_, xa⟩ := ra.reads s.heap (fun p hp => (N p hp).1); let ⟨_, xb⟩ := rb.reads s.heap (fun p hp => (N p hp).1)
    eq_dataH xa xb ha hb cx.unitsLt (k _ s.heap s.toks m fp F N h)
theorem o_neD {a b : Value} {da db : PyData} {Q : Value → Loc → FP → Prop} (cx : Cx w base outer g L A env n) (ra : Rd fp a da) (rb : Rd fp b db) (ha : SeqAt.shaped da = true) (hb : SeqAt.shaped db = true)
    (h : Q (.bool (!PyData.eqv da db)) m fp) : Op prog w A g L E (compareOp .NotEq a b) Q m fp :=
  Op.of fun s F N _ k => let ⟨_, xa⟩ := ra.reads s.heap (fun p hp => (N p hp).1); let ⟨_, xb⟩ := rb.reads s.heap (fun p hp => (N p hp).1)
    ne_dataH xa xb ha hb cx.unitsLt (k _ s.heap s.toks m fp F N h)
theorem o_listAdd {a b : Addr} {oa ob : Obj} {vs ws : List Value} {Q : Value → Loc → FP → Prop} (ha : (a, oa) ∈ fp) (hoa : LstOf oa vs) (hb : (b, ob) ∈ fp) (hob : LstOf ob ws) (hz : vs.length + ws.length ≤ 1000)
    (h : ∀ D oD, (∀ p ∈ fp, p.1 < D) → LstOf oD (vs ++ ws) → Q (.ref D) m ((D, oD) :: fp)) : Op prog w A g L E (binaryOp .Add (.ref a) (.ref b)) Q m fp :=
  Op.of fun s F N _ k => by
    obtain ⟨na, rfl⟩ := hoa
    obtain ⟨nb, rfl⟩ := hob
    have hl : s.heap.IsList a vs.toArray := ⟨_, (N _ ha).1, rfl, _, rfl⟩
    have hl' : s.heap.IsList b ws.toArray := ⟨_, (N _ hb).1, rfl, _, rfl⟩
    exact add_lists (hsz := by rw [sizeLine_eq]; omega) F N hl hl' fun h' F' N' => k _ h' s.toks m _ F' N' (h _ _ (fun p hp => Heap.lt_size (N p hp).1) ⟨_, rfl⟩)
theorem o_sum {a : Addr} {oa : Obj} {vs : List Value} {ns : List Int} {Q : Value → Loc → FP → Prop} (hh : A.handled = none) (ha : (a, oa) ∈ fp) (hoa : LstOf oa vs) (hi : IntsAre vs ns) (h : ∀ t, Q (.int ns.sum t) m fp) :
    Op prog w A g L E (call (.builtin "sum") [.ref a]) Q m fp :=
  Op.of fun s F N _ k => by
    obtain ⟨na, rfl⟩ := hoa
    exact LSm.sum_ints F N hh ⟨_, (N _ ha).1, rfl, _, rfl⟩ hi fun h' tk t' F' N' => k _ h' tk m fp F' N' (h t')
end
end Mine
end
section
open PySem PySem.W PySem.Calls PyProof.Rows
set_option Elab.async false
set_option maxRecDepth 100000
set_option linter.unusedVariables false
namespace Mine
section
variable {prog : Program} {w : World} {A : Around} {g base : Heap} {outer : List Env} {L : Addr} {E : Value → Heap → Prop} {m : Loc} {fp : FP} {n : Nat} {env env' : Env}

@[reducible] def forK (J : Nat → Loc → FP → Prop) (i : Nat) (ext : FP) (Q : Flow → Loc → FP → Prop) : Flow → Loc → FP → Prop := fun f m fp => match f with | .next => ∃ fp3, (∀ p ∈ ext ++ fp3, p ∈ fp) ∧ J (i + 1) m fp3 | .cont => ∃ fp3, (∀ p ∈ ext ++ fp3, p ∈ fp) ∧ J (i + 1) m fp3 | .brk => ∃ fpz, (∀ p ∈ fpz, p ∈ fp) ∧ Q .next m fpz | .ret v => ∃ fpz, (∀ p ∈ fpz, p ∈ fp) ∧ Q (.ret v) m fpz
/-- a for loop over an iterator, its walk given -/
theorem o_forW {x : Str} {px pos : Pos} {iter : PySem.Expr} {body : List Stmt} {Q : Flow → Loc → FP → Prop} (hL : env'.locals = L) (hx : env'.kindOf x = some .local) (hp : (env'.scope.kind == .class || (env'.scope.kind == .module && env'.locals != env'.globals)) = false)
    (h : Op prog w A g L E (eval iter env') (fun v m1 fp1 => Op prog w A g L E (pyIter v) (fun it m2 fp2 => ∃ (I : Addr) (oI : Obj) (fpB : FP) (n : Nat) (P : Nat → Value → Prop) (fpW : List Addr) (St' : Nat → Heap → Prop) (J : Nat → Loc → FP → Prop), it = .ref I ∧ (∀ p ∈ ((I, oI) :: fpB), p ∈ fp2) ∧ (∀ i m fp, J i m fp → ∀ p ∈ fp, p.1 ≠ I) ∧ Walks prog w A I fpW [I] n P St' ∧ (∀ b ∈ fpW, ∃ o, (b, o) ∈ ((I, oI) :: fpB)) ∧ (∀ h : Heap, (∀ p ∈ ((I, oI) :: fpB), h.get? p.1 = some p.2) → St' 0 h) ∧ (∀ i h, St' i h → ∀ b ∈ fpW, ∃ o, h.get? b = some o) ∧ J 0 m2 fpB ∧
      (∀ i u m1 fp1 h3, i < n → P i u → J i m1 fp1 → St' (i + 1) h3 → Op prog w A g L (fun _ _ => False) (execs body env') (forK J i (fpW.map fun b => (b, objAt h3 b)) Q) (fun y => if y = x then some u else m1 y) ((fpW.map fun b => (b, objAt h3 b)) ++ fp1)) ∧
      (∀ m' fp', J n m' fp' → Q .next m' fp')) m1 fp1) m fp)
    (hs : ∀ x, foldedSetIterable iter env' x = Pure.pure x := by intro _; rfl) :
    Op prog w A g L E (exec (.For (.Name x px) iter body [] pos) env') Q m fp :=
  Op.of fun s F N Q' kk => by
    subst hL
    refine wpAny_For (h.use F N fun v h0 t0 m0 fp0 F0 N0 q => Op.use q (s := { s with heap := h0, toks := t0 }) F0 N0 fun it h1 t1 m1 fp1' F1 N1' q => ?_) hs
    obtain ⟨I, oI, fpB, n, P, fpW, St', J, rfl, hsub, hJa, W, hW1, hW2, hW3, hJ0, step, hdone⟩ := q
    have N1 : News g env'.locals h1 ((I, oI) :: fpB) := fun p hp => N1' p (hsub p hp)
    have inW : ∀ b ∈ fpW, b ≠ env'.locals ∧ g.get? b = none := fun b hb => by
      obtain ⟨o, ho⟩ := hW1 b hb
      exact (N1 _ ho).2
    have hIg := (N1 _ (.head _)).2
    refine codeAny_forLoop (fun k s' => ∃ i h' tk m' fp1, s' = { s with heap := h', toks := tk } ∧ Fr g env'.locals h' m' ∧ News g env'.locals h' fp1 ∧ St' i h' ∧ J i m' fp1 ∧ i ≤ n ∧ k = n - i) ?_ n
      ⟨0, h1, t1, m1, fpB, rfl, F1, fun p hp => N1 p (.tail _ hp), hW2 h1 (fun p hp => (N1 p hp).1), hJ0, Nat.zero_le _, rfl⟩
    rintro k s' ⟨i, h', tk, m', fp1, rfl, F1, N1, st1, J1, hi, rfl⟩
    by_cases hlt : i < n
    · refine W.item i { s with heap := h', toks := tk } _ _ hlt st1 fun v h2 tk1 hv st2 hk1 => ?_
      have keepI : ∀ b o, b ≠ I → h'.get? b = some o → h2.get? b = some o := fun b o q e => hk1 _ o (fun z => q (List.mem_singleton.mp z)) e
      have F2 : Fr g env'.locals h2 m' := ⟨F1.ns.at' fun o e => keepI _ o (Ne.symm hIg.1) e, fun b o e => keepI b o (fun q => by rw [q, hIg.2] at e; cases e) (F1.keep b o e), F1.above⟩
      refine wpAny_assign_Name (wpAny_storeName_local hx F2.ns (fun h3 hn3 hs3 => ?_) hp)
      have F3 : Fr g env'.locals h3 _ := F2.set hn3 hs3
      have st3 : St' (i + 1) h3 := W.frame _ _ _ st2 fun b hb o e => hs3.extBut b o (inW b hb).1 e
      have N3 : News g env'.locals h3 ((fpW.map fun b => (b, objAt h3 b)) ++ fp1) := fun p hp => by
        rcases List.mem_append.mp hp with hp | hp
        · obtain ⟨b, hb, rfl⟩ := List.mem_map.mp hp
          obtain ⟨o, ho⟩ := hW3 _ _ st3 b hb
          exact ⟨by rw [objAt_of ho]; exact ho, inW b hb⟩
        · exact ⟨hs3.extBut p.1 p.2 (N1 p hp).2.1 (keepI _ _ (hJa _ _ _ J1 p hp) (N1 p hp).1), (N1 p hp).2⟩
      have sop := step i v m' fp1 h3 hlt hv J1 st3
      have again : ∀ (h4 : Heap) (m4 : Loc) (fpx fp3 : FP), News g env'.locals h4 fpx → (∀ p ∈ (fpW.map fun b => (b, objAt h3 b)) ++ fp3, p ∈ fpx) → St' (i + 1) h4 ∧ News g env'.locals h4 fp3 := fun h4 m4 fpx fp3 N4 hs =>
        ⟨W.frame _ _ _ st3 fun b hb o e => by
          have := (N4 _ (hs _ (List.mem_append_left _ (List.mem_map_of_mem (f := fun b => (b, objAt h3 b)) hb)))).1
          rw [objAt_of e] at this; exact this, fun p hp => N4 p (hs p (List.mem_append_right _ hp))⟩
      refine wpAny_mono (sop.run { s with heap := h3, toks := tk1 + 1 } F3 N3) (fun f s3 ⟨h4, t4, m4, fp2, es, F4, N4, q⟩ => ?_) fun _ _ ⟨_, _, _, z⟩ => z.elim
      subst es
      cases f with
      | next =>
        obtain ⟨fp3, hs, J2⟩ := q
        obtain ⟨a1, a2⟩ := again h4 m4 fp2 fp3 N4 hs
        exact ⟨n - (i + 1), by omega, i + 1, h4, t4, m4, fp3, rfl, F4, a2, a1, J2, hlt, rfl⟩
      | cont =>
        obtain ⟨fp3, hs, J2⟩ := q
        obtain ⟨a1, a2⟩ := again h4 m4 fp2 fp3 N4 hs
        exact ⟨n - (i + 1), by omega, i + 1, h4, t4, m4, fp3, rfl, F4, a2, a1, J2, hlt, rfl⟩
      | brk => obtain ⟨fpz, hz, q⟩ := q; exact kk _ h4 t4 _ _ F4 (fun p hp => N4 p (hz p hp)) q
      | ret v => obtain ⟨fpz, hz, q⟩ := q; exact kk _ h4 t4 _ _ F4 (fun p hp => N4 p (hz p hp)) q
    · have : i = n := by omega
      subst this
      refine W.done { s with heap := h', toks := tk } _ _ st1 fun h2 tk1 hk1 => ?_
      have keepI : ∀ b o, b ≠ I → h'.get? b = some o → h2.get? b = some o := fun b o q e => hk1 _ o (fun z => q (List.mem_singleton.mp z)) e
      have F2 : Fr g env'.locals h2 m' := ⟨F1.ns.at' fun o e => keepI _ o (Ne.symm hIg.1) e, fun b o e => keepI b o (fun q => by rw [q, hIg.2] at e; cases e) (F1.keep b o e), F1.above⟩
      refine wpAny_execs_nil ?_
      exact kk _ h2 tk1 _ _ F2 (fun p hp => ⟨keepI _ _ (hJa _ _ _ J1 p hp) (N1 p hp).1, (N1 p hp).2⟩) (hdone _ _ J1)

/-- range(a, b) and its iterator -/
theorem o_range {a b : Int} {t u : Tok} {Q : Value → Loc → FP → Prop}
    (h : ∀ r t1 t2 t3, (∀ p ∈ fp, p.1 < r) → Q (.ref r) m ((r, { cls := .type "range", dict := none, data := .fields #[.int a t1, .int b t2, .int 1 t3], slots := #[] }) :: fp)) : Op prog w A g L E (call (.type "range") [.int a t, .int b u]) Q m fp :=
  Op.of fun s F N _ kk => range2_rows F N fun h' tk t1 t2 t3 hr F' N' _ => kk _ h' tk m _ F' (fun p hp => by
    rcases List.mem_cons.mp hp with rfl | hp
    · exact ⟨hr, Nat.ne_of_gt F.ns.lt, next_is_new F⟩
    · exact N' p hp) (h _ t1 t2 t3 fun p hp => Heap.lt_size (N p hp).1)
theorem o_lenList {a : Addr} {o : Obj} {vs : List Value} {Q : Value → Loc → FP → Prop} (hm : (a, o) ∈ fp) (ho : LstOf o vs) (hz : vs.length ≤ 1000) (h : ∀ t, Q (.int vs.length t) m fp) : Op prog w A g L E (call (.builtin "len") [.ref a]) Q m fp :=
  Op.of fun s F N _ kk => by
    obtain ⟨nn, rfl⟩ := ho
    have hl : s.heap.IsList a vs.toArray := ⟨_, (N _ hm).1, rfl, _, rfl⟩
    refine len_list hl (by simp; omega) ?_
    have := kk (.int vs.length (s.toks + 1)) s.heap (s.toks + 1 + 1) m fp F N (h _)
    simpa using this
/-- three names take the items of a tuple -/
theorem o_unpack3 {x y z : Str} {px py pz tp pos : Pos} {kk : Nat} {value : PySem.Expr} {Q : Flow → Loc → FP → Prop} (hh : A.handled = none) (hL : env'.locals = L) (hx : env'.kindOf x = some .local) (hy : env'.kindOf y = some .local) (hz : env'.kindOf z = some .local)
    (hp : (env'.scope.kind == .class || (env'.scope.kind == .module && env'.locals != env'.globals)) = false)
    (h : Op prog w A g L E (eval value env') (fun v m fp => ∃ T a b c, v = .ref T ∧ (T, tupO [a, b, c]) ∈ fp ∧ Q .next (fun q => if q = z then some c else if q = y then some b else if q = x then some a else m q) fp) m fp)
    (hs : swapsWithSole [.Tuple [.Name x px, .Name y py, .Name z pz] kk tp] value pos.line env' = Pure.pure false := by rfl)
    (hw : swappedStores [.Tuple [.Name x px, .Name y py, .Name z pz] kk tp] value env' = Pure.pure none := by rfl) :
    Op prog w A g L E (exec (.Assign [.Tuple [.Name x px, .Name y py, .Name z pz] kk tp] value pos) env') Q m fp :=
  Op.of fun s F N _ k => by
    subst hL
    refine Assign_Tuple (h.use F N fun v h1 t1 m1 fp1 F1 N1 q => ?_) hs hw
    obtain ⟨T, a, b, c, rfl, hT, q⟩ := q
    have ht : IsTup h1 T #[a, b, c] := ⟨_, (N1 _ hT).1, rfl, _, rfl⟩
    refine assign_Tuple_tuple (s := { s with heap := h1, toks := t1 }) hh ht rfl rfl fun h₁ he₁ => ?_
    have F1' : Fr g env'.locals h₁ m1 := F1.extBut he₁ (Nat.le_refl _)
    have N1' : News g env'.locals h₁ fp1 := fun p hp => ⟨he₁ _ _ (Nat.ne_of_lt (Heap.lt_size (N1 p hp).1)) (N1 p hp).1, (N1 p hp).2⟩
    show wpAny _ _ (assignInOrder [assign (.Name x px) env', assign (.Name y py) env', assign (.Name z pz) env'] [a, b, c]) _ _ _
    refine assignInOrder_cons (wpAny_assign_Name (wpAny_storeName_local hx F1'.ns (fun h₂ hn₂ hs₂ => ?_) hp))
    have F2 := F1'.set hn₂ hs₂
    refine assignInOrder_cons (wpAny_assign_Name (wpAny_storeName_local hy F2.ns (fun h₃ hn₃ hs₃ => ?_) hp))
    have F3 := F2.set hn₃ hs₃
    refine assignInOrder_cons (wpAny_assign_Name (wpAny_storeName_local hz F3.ns (fun h₄ hn₄ hs₄ => ?_) hp))
    have F4 := F3.set hn₄ hs₄
    refine assignInOrder_nil ?_
    exact k _ h₄ _ _ _ F4 (fun p hp => ⟨hs₄.extBut _ _ (N1 p hp).2.1 (hs₃.extBut _ _ (N1 p hp).2.1 (hs₂.extBut _ _ (N1 p hp).2.1 (N1' p hp).1)), (N1 p hp).2⟩) q
end
end Mine
end
section
open PySem PySem.W PySem.Calls PyProof.Rows
set_option Elab.async false
set_option maxRecDepth 100000
set_option linter.unusedVariables false
namespace Mine
section
variable {prog : Program} {w : World} {A : Around} {g base : Heap} {outer : List Env} {L : Addr} {E : Value → Heap → Prop} {m : Loc} {fp : FP} {n : Nat} {env env' : Env}
/-- a leaf def of the written part, called from any frame -/
theorem o_leaf {name qual : Str} {params : Arguments} {body : List Stmt} {scope : Scope} {dV kV doc pm cdv ct oc : Value} {an od : Option Addr} {osl : Array (Option Value)} {f : Addr} {pos : List Value} {kw : List (Str × Value)} {binds : List (Str × Value)}
    {Q : Value → Loc → FP → Prop} (X : (K w.params).In g) (T : ∃ p loose mg mb, TopRead p loose mg mb g) (hdep : A.depth ≤ 600)
    (ho : (K w.params).lookup f = some ⟨oc, od, .func (fnOf name qual params body scope dV kV doc pm an cdv ct), osl⟩) (hcd : codeIn (K w.params) cdv qual = true)
    (hbind : ∀ s : Shared, (K w.params).In s.heap → BindsTo s (fnOf name qual params body scope dV kV doc pm an cdv ct) ⟨pos, kw⟩ binds)
    (hloc : ∀ y ∈ binds, scope.names.lookup y.1 = some .local) (hcell : ∀ x ∈ scope.names, x.2 ≠ .cell)
    (h : ∀ g' L', Op prog w (A.deeper (envX qual scope L' f cdv [])) g' L' (fun _ _ => False) (execs body (envX qual scope L' f cdv [])) (fun fl _ _ => Q (retOf fl) m fp) (fun y => binds.reverse.lookup y) [])
    (hco : scope.isCoroutine = false := by rfl) (hgen : scope.isGenerator = false := by rfl) (hk : scope.kind = .function := by rfl) :
    Op prog w A g L E (call (.ref f) pos kw) Q m fp := .intro fun s F N => by
  obtain ⟨p, loose, mg, mb, T⟩ := T
  have X := X.keeps F.keep
  refine wpAny_call (codeAny_call_def (fd := fnOf name qual params body scope dV kV doc pm an cdv ct) (body := body) (binds := binds) (by simp only [recursionLimit]; omega) (X _ _ ho) rfl (T.nolimit.keeps F.keep) (codeRec_of X hcd) rfl (hbind s X) hcell hloc (fun h₁ hns hk₁ => ?_) hco hgen hk)
  refine wpAny_mono (E := XS (fun _ _ => False) s) ?_ (fun _ _ z => z) fun _ _ ⟨_, _, _, z⟩ => z.elim
  have F' : Fr s.heap s.heap.objs.size h₁ (fun y => binds.reverse.lookup y) := ⟨hns, fun b o e => hk₁ b o e, Nat.le_refl _⟩
  refine (h s.heap s.heap.objs.size).use (s := { s with heap := h₁, toks := s.toks + binds.length }) F' (fun p hp => by cases hp) fun fl h' t' m' fp' F1 N1 q => ?_
  refine ⟨h', t', m, fp, ?_, ⟨F.ns.at' fun o e => F1.keep _ o e, fun b o e => F1.keep b o (F.keep b o e), F.above⟩, fun p hp => ⟨F1.keep _ _ (N p hp).1, (N p hp).2⟩, ?_⟩
  · rfl
  · cases fl <;> exact q
end
end Mine
end
section
open PySem PySem.W PySem.Calls PyProof.Rows
set_option Elab.async false
set_option maxRecDepth 100000
set_option linter.unusedVariables false
namespace Mine
/-- a tuple of two ints in the ledger -/
def PairAt (fp : FP) (v : Value) (p : Int × Int) : Prop := ∃ a t1 t2, v = .ref a ∧ (a, tupO [.int p.1 t1, .int p.2 t2]) ∈ fp
structure Use where
  name : Int
  count : Int
  since : Int
def UseAt (fp : FP) (v : Value) (u : Use) : Prop := ∃ a t1 t2 t3, v = .ref a ∧ (a, tupO [.int u.name t1, .int u.count t2, .int u.since t3]) ∈ fp
inductive All2 {α β : Type} (R : α → β → Prop) : List α → List β → Prop
  | nil : All2 R [] []
  | cons {a b as bs} : R a b → All2 R as bs → All2 R (a :: as) (b :: bs)
theorem All2.len {α β : Type} {R : α → β → Prop} {as bs} (h : All2 (α := α) (β := β) R as bs) : as.length = bs.length := by
  induction h with
  | nil => rfl
  | cons _ _ ih => simp [ih]
theorem All2.get {α β : Type} {R : α → β → Prop} {as bs} (h : All2 (α := α) (β := β) R as bs) : ∀ {i : Nat} {a : α}, as[i]? = some a → ∃ b, bs[i]? = some b ∧ R a b := by
  induction h with
  | nil => intro i a e; simp at e
  | cons r _ ih =>
    intro i a e
    cases i with
    | zero => simp at e; subst e; exact ⟨_, by simp, r⟩
    | succ i => simp at e ⊢; exact ih e
theorem All2.snoc {α β : Type} {R : α → β → Prop} {as bs} (h : All2 (α := α) (β := β) R as bs) {a b} (r : R a b) : All2 R (as ++ [a]) (bs ++ [b]) := by
  induction h with
  | nil => exact .cons r .nil
  | cons r' _ ih => exact .cons r' ih
theorem All2.mono {α β : Type} {R R' : α → β → Prop} {as bs} (h : All2 (α := α) (β := β) R as bs) (k : ∀ a b, R a b → R' a b) : All2 R' as bs := by
  induction h with
  | nil => exact .nil
  | cons r _ ih => exact .cons (k _ _ r) ih
theorem PairAt.mono {fp fp' : FP} {v : Value} {p : Int × Int} (h : PairAt fp v p) (k : ∀ q ∈ fp, q ∈ fp') : PairAt fp' v p := let ⟨a, t1, t2, e, m⟩ := h; ⟨a, t1, t2, e, k _ m⟩
theorem UseAt.mono {fp fp' : FP} {v : Value} {u : Use} (h : UseAt fp v u) (k : ∀ q ∈ fp, q ∈ fp') : UseAt fp' v u := let ⟨a, t1, t2, t3, e, m⟩ := h; ⟨a, t1, t2, t3, e, k _ m⟩
/-- a ledger that only grew, by new addresses -/
def Grow (fp fp' : FP) : Prop := (∀ p ∈ fp, p ∈ fp') ∧ ∀ p ∈ fp', p ∈ fp ∨ ∀ q ∈ fp, q.1 < p.1
theorem Grow.refl {fp : FP} : Grow fp fp := ⟨fun _ h => h, fun _ h => .inl h⟩
theorem Grow.trans {a b c : FP} (h1 : Grow a b) (h2 : Grow b c) : Grow a c := ⟨fun p h => h2.1 p (h1.1 p h), fun p h => by
  rcases h2.2 p h with h | h
  · exact h1.2 p h
  · exact .inr fun q hq => h q (h1.1 q hq)⟩
theorem Grow.push {fp : FP} {R : Addr} {o : Obj} (h : ∀ p ∈ fp, p.1 < R) : Grow fp ((R, o) :: fp) := ⟨fun p hp => .tail _ hp, fun p hp => by
  rcases List.mem_cons.mp hp with rfl | hp
  · exact .inr h
  · exact .inl hp⟩
theorem Grow.cons {fp fp' : FP} {R : Addr} {o : Obj} (g : Grow fp fp') (h : ∀ p ∈ fp', p.1 < R) : Grow fp ((R, o) :: fp') := g.trans (.push h)
def PairsAt (fp : FP) (v : Value) (D : List (Int × Int)) : Prop := ∃ P oP vs, v = .ref P ∧ (P, oP) ∈ fp ∧ LstOf oP vs ∧ All2 (PairAt fp) vs D
def UsesAt (fp : FP) (v : Value) (U : List Use) : Prop := ∃ P oP vs, v = .ref P ∧ (P, oP) ∈ fp ∧ LstOf oP vs ∧ All2 (UseAt fp) vs U
theorem PairsAt.mono {fp fp' : FP} {v : Value} {D} (h : PairsAt fp v D) (k : ∀ q ∈ fp, q ∈ fp') : PairsAt fp' v D := let ⟨P, oP, vs, e, m, l, a⟩ := h; ⟨P, oP, vs, e, k _ m, l, a.mono fun _ _ x => x.mono k⟩
theorem UsesAt.mono {fp fp' : FP} {v : Value} {D} (h : UsesAt fp v D) (k : ∀ q ∈ fp, q ∈ fp') : UsesAt fp' v D := let ⟨P, oP, vs, e, m, l, a⟩ := h; ⟨P, oP, vs, e, k _ m, l, a.mono fun _ _ x => x.mono k⟩
end Mine
end
section
open PySem PySem.W PySem.Calls PyProof.Rows
set_option Elab.async false
set_option maxRecDepth 100000
set_option linter.unusedVariables false
namespace Mine

structure Nd where
  a : Addr
  da : Addr
  ka : Addr
  cnt : Int
  tk : Tok
  oK : Obj
  keys : List Int
structure St where
  c : Addr
  dc : Addr
  dA : Addr
  lA : Addr
  sz : Option (Addr × Obj)
  es : List DictEntry
  ep : Nat
  oD : Obj
  oL : Obj
  nodes : List Nd
  nx : Addr → Addr
  pv : Addr → Addr

abbrev linkO (da ka : Addr) (p x : Option Value) (cnt : Int) (tk : Tok) : Obj :=
  ⟨.ref 867, some da, .plain, #[some (.int cnt tk), some (.ref ka), x, p]⟩
def ndObjs (nx pv : Addr → Addr) (nd : Nd) : FP :=
  [(nd.a, linkO nd.da nd.ka (some (.ref (pv nd.a))) (some (.ref (nx nd.a))) nd.cnt nd.tk), (nd.da, dictOf [] 0), (nd.ka, nd.oK)]
def objs (st : St) : FP :=
  (st.c, inst 929 st.dc) :: (st.dc, dictOf st.es st.ep) :: (st.dA, st.oD) :: (st.lA, st.oL) :: (st.sz.toList ++ st.nodes.flatMap (ndObjs st.nx st.pv))
def ndAddrs (nd : Nd) : List Addr := [nd.a, nd.da, nd.ka]
def addrs' (st : St) : List Addr :=
  st.c :: st.dc :: st.dA :: st.lA :: (st.sz.toList.map (·.1) ++ st.nodes.flatMap ndAddrs)

theorem objs_addrs (st : St) : (objs st).map (·.1) = addrs' st := by
  simp only [objs, addrs', List.map_cons, List.map_append, List.map_flatMap]
  rfl

def WF (st : St) (rest : FP) : Prop := (addrs' st ++ rest.map (·.1)).Nodup
theorem WF.nodup {st : St} {rest : FP} (h : WF st rest) : ((objs st ++ rest).map (·.1)).Nodup := by
  rw [List.map_append, objs_addrs]; exact h

theorem nodup_unique : ∀ {fp : FP}, (fp.map (·.1)).Nodup → ∀ {p q : Addr × Obj}, p ∈ fp → q ∈ fp → p.1 = q.1 → p = q
  | [], _, _, _, hp, _, _ => nomatch hp
  | x :: fp, h, p, q, hp, hq, e => by
    rw [List.map_cons, List.nodup_cons] at h
    rcases List.mem_cons.mp hp with h1 | h1 <;> rcases List.mem_cons.mp hq with h2 | h2
    · rw [h1, h2]
    · exact absurd (by rw [← h1, e]; exact List.mem_map_of_mem h2) h.1
    · exact absurd (by rw [← h2, ← e]; exact List.mem_map_of_mem h1) h.1
    · exact nodup_unique h.2 h1 h2 e

theorem put_covers {fp fp' : FP} {d : Addr} {o : Obj} (hn : (fp'.map (·.1)).Nodup) (hd : (d, o) ∈ fp') (hs : ∀ p ∈ fp', p.1 ≠ d → p ∈ fp) :
    ∀ p ∈ fp', p ∈ put d o fp := fun p hp => by
  by_cases e : p.1 = d
  · have : p = (d, o) := nodup_unique hn hp hd e
    rw [this]; exact put_self
  · exact put_ne (hs p hp e) e

section mem
variable {st : St} {rest : FP}
theorem m_c : (st.c, inst 929 st.dc) ∈ objs st ++ rest := .head _
theorem m_dc : (st.dc, dictOf st.es st.ep) ∈ objs st ++ rest := .tail _ (.head _)
theorem m_dA : (st.dA, st.oD) ∈ objs st ++ rest := .tail _ (.tail _ (.head _))
theorem m_lA : (st.lA, st.oL) ∈ objs st ++ rest := .tail _ (.tail _ (.tail _ (.head _)))
theorem m_sz {p : Addr × Obj} (h : st.sz = some p) : p ∈ objs st ++ rest :=
  .tail _ (.tail _ (.tail _ (.tail _ (List.mem_append_left _ (List.mem_append_left _ (by rw [h]; exact .head _))))))
theorem m_nd {nd : Nd} (h : nd ∈ st.nodes) {p : Addr × Obj} (hp : p ∈ ndObjs st.nx st.pv nd) : p ∈ objs st ++ rest :=
  .tail _ (.tail _ (.tail _ (.tail _ (List.mem_append_left _ (List.mem_append_right _ (List.mem_flatMap.mpr ⟨nd, h, hp⟩))))))
theorem m_link {nd : Nd} (h : nd ∈ st.nodes) : (nd.a, linkO nd.da nd.ka (some (.ref (st.pv nd.a))) (some (.ref (st.nx nd.a))) nd.cnt nd.tk) ∈ objs st ++ rest := m_nd h (.head _)
theorem m_ld {nd : Nd} (h : nd ∈ st.nodes) : (nd.da, dictOf [] 0) ∈ objs st ++ rest := m_nd h (.tail _ (.head _))
theorem m_keys {nd : Nd} (h : nd ∈ st.nodes) : (nd.ka, nd.oK) ∈ objs st ++ rest := m_nd h (.tail _ (.tail _ (.head _)))
end mem

section
variable {prog : Program} {w : World} {A : Around} {g : Heap} {L : Addr} {E : Value → Heap → Prop} {m : Loc} {α : Type} {t : Sem α} {Q : α → Loc → FP → Prop} {st st' : St} {rest : FP}

/-- the ledger after one object of the cache is replaced is the new state's -/
theorem to_state {d : Addr} {o : Obj} (hw : WF st' rest) (hd : (d, o) ∈ objs st' ++ rest) (hs : ∀ p ∈ objs st', p.1 ≠ d → p ∈ objs st)
    (h : Op prog w A g L E t Q m (objs st' ++ rest)) : Op prog w A g L E t Q m (put d o (objs st ++ rest)) :=
  Op.weaken h (put_covers hw.nodup hd fun p hp e => by
    rcases List.mem_append.mp hp with hp | hp
    · exact List.mem_append_left _ (hs p hp e)
    · exact List.mem_append_right _ hp)
end

def updN (st : St) (x : Addr) (f : Nd → Nd) : St := { st with nodes := st.nodes.map fun nd => if nd.a = x then f nd else nd }
theorem updN_addrs (st : St) (x : Addr) {f : Nd → Nd} (hf : ∀ nd, ndAddrs (f nd) = ndAddrs nd) : addrs' (updN st x f) = addrs' st := by
  have : ∀ l : List Nd, (l.map fun nd => if nd.a = x then f nd else nd).flatMap ndAddrs = l.flatMap ndAddrs := fun l => by
    induction l with
    | nil => rfl
    | cons nd l ih =>
      rw [List.map_cons, List.flatMap_cons, List.flatMap_cons, ih]
      congr 1
      by_cases e : nd.a = x
      · rw [if_pos e, hf]
      · rw [if_neg e]
  simp only [addrs', updN, this]
theorem updN_mem {st : St} {x : Addr} {f : Nd → Nd} {nd : Nd} (h : nd ∈ st.nodes) (e : nd.a = x) : f nd ∈ (updN st x f).nodes :=
  List.mem_map.mpr ⟨nd, h, if_pos e⟩

theorem WF.same {st st' : St} {rest : FP} (hw : WF st rest) (e : addrs' st' = addrs' st) : WF st' rest := by unfold WF; rw [e]; exact hw
theorem WF.node {st : St} {rest : FP} (hw : WF st rest) {x y : Nd} (hx : x ∈ st.nodes) (hy : y ∈ st.nodes) (e : x.a = y.a) : x = y := by
  unfold WF at hw
  have h1 : (st.nodes.flatMap ndAddrs).Nodup := by
    have := (List.nodup_append.mp hw).1
    unfold addrs' at this
    exact (List.nodup_append.mp (List.nodup_cons.mp (List.nodup_cons.mp (List.nodup_cons.mp (List.nodup_cons.mp this).2).2).2).2).2.1
  have key : ∀ l : List Nd, (l.flatMap ndAddrs).Nodup → x ∈ l → y ∈ l → x = y := fun l => by
    induction l with
    | nil => exact fun _ h => nomatch h
    | cons z l ih =>
      intro hn hx hy
      rw [List.flatMap_cons] at hn
      obtain ⟨n1, n2, n3⟩ := List.nodup_append.mp hn
      rcases List.mem_cons.mp hx with h1 | h1 <;> rcases List.mem_cons.mp hy with h2 | h2
      · rw [h1, h2]
      · exact absurd (by rw [← h1]; exact e) (n3 z.a (.head _) y.a (List.mem_flatMap.mpr ⟨y, h2, .head _⟩))
      · exact absurd (by rw [← h2]; exact e.symm) (n3 z.a (.head _) x.a (List.mem_flatMap.mpr ⟨x, h1, .head _⟩))
      · exact ih n2 h1 h2
  exact key _ h1 hx hy

abbrev upA (f : Addr → Addr) (x y : Addr) : Addr → Addr := fun z => if z = x then y else f z
end Mine
end
section
open PySem PySem.W PySem.Calls PyProof.Rows
set_option Elab.async false
set_option maxRecDepth 100000
set_option linter.unusedVariables false
namespace Mine
section
variable {prog : Program} {w : World} {A : Around} {g : Heap} {L : Addr} {E : Value → Heap → Prop} {m : Loc} {α : Type} {t : Sem α} {Q : α → Loc → FP → Prop} {st : St} {rest : FP}

theorem mem_objs {st : St} {p : Addr × Obj} : p ∈ objs st ↔ p = (st.c, inst 929 st.dc) ∨ p = (st.dc, dictOf st.es st.ep) ∨ p = (st.dA, st.oD) ∨ p = (st.lA, st.oL) ∨ st.sz = some p ∨ ∃ nd ∈ st.nodes, p ∈ ndObjs st.nx st.pv nd := by
  simp only [objs, List.mem_cons, List.mem_append, List.mem_flatMap, Option.mem_toList]
theorem mem_nd {nx pv : Addr → Addr} {nd : Nd} {p : Addr × Obj} : p ∈ ndObjs nx pv nd ↔ p = (nd.a, linkO nd.da nd.ka (some (.ref (pv nd.a))) (some (.ref (nx nd.a))) nd.cnt nd.tk) ∨ p = (nd.da, dictOf [] 0) ∨ p = (nd.ka, nd.oK) := by
  simp only [ndObjs, List.mem_cons, List.not_mem_nil, or_false]

theorem to_data {o : Obj} (hw : WF st rest) (h : Op prog w A g L E t Q m (objs { st with oD := o } ++ rest)) : Op prog w A g L E t Q m (put st.dA o (objs st ++ rest)) :=
  to_state (st' := { st with oD := o }) hw m_dA (fun p hp e => by
    rcases mem_objs.mp hp with h | h | h | h | h | h
    · exact mem_objs.mpr (.inl h)
    · exact mem_objs.mpr (.inr (.inl h))
    · exact absurd (by rw [h]) e
    · exact mem_objs.mpr (.inr (.inr (.inr (.inl h))))
    · exact mem_objs.mpr (.inr (.inr (.inr (.inr (.inl h)))))
    · exact mem_objs.mpr (.inr (.inr (.inr (.inr (.inr h)))))) h
theorem to_lnk {o : Obj} (hw : WF st rest) (h : Op prog w A g L E t Q m (objs { st with oL := o } ++ rest)) : Op prog w A g L E t Q m (put st.lA o (objs st ++ rest)) :=
  to_state (st' := { st with oL := o }) hw m_lA (fun p hp e => by
    rcases mem_objs.mp hp with h | h | h | h | h | h
    · exact mem_objs.mpr (.inl h)
    · exact mem_objs.mpr (.inr (.inl h))
    · exact mem_objs.mpr (.inr (.inr (.inl h)))
    · exact absurd (by rw [h]) e
    · exact mem_objs.mpr (.inr (.inr (.inr (.inr (.inl h)))))
    · exact mem_objs.mpr (.inr (.inr (.inr (.inr (.inr h)))))) h
theorem to_attr {es : List DictEntry} {ep : Nat} (hw : WF st rest) (h : Op prog w A g L E t Q m (objs { st with es := es, ep := ep } ++ rest)) : Op prog w A g L E t Q m (put st.dc (dictOf es ep) (objs st ++ rest)) :=
  to_state (st' := { st with es := es, ep := ep }) hw m_dc (fun p hp e => by
    rcases mem_objs.mp hp with h | h | h | h | h | h
    · exact mem_objs.mpr (.inl h)
    · exact absurd (by rw [h]) e
    · exact mem_objs.mpr (.inr (.inr (.inl h)))
    · exact mem_objs.mpr (.inr (.inr (.inr (.inl h))))
    · exact mem_objs.mpr (.inr (.inr (.inr (.inr (.inl h)))))
    · exact mem_objs.mpr (.inr (.inr (.inr (.inr (.inr h)))))) h
theorem to_sz {sA : Addr} {o o' : Obj} (hw : WF st rest) (hs : st.sz = some (sA, o)) (h : Op prog w A g L E t Q m (objs { st with sz := some (sA, o') } ++ rest)) : Op prog w A g L E t Q m (put sA o' (objs st ++ rest)) :=
  to_state (st' := { st with sz := some (sA, o') }) (hw.same (by simp only [addrs', hs, Option.toList, List.map_cons, List.map_nil])) (m_sz rfl) (fun p hp e => by
    rcases mem_objs.mp hp with h | h | h | h | h | h
    · exact mem_objs.mpr (.inl h)
    · exact mem_objs.mpr (.inr (.inl h))
    · exact mem_objs.mpr (.inr (.inr (.inl h)))
    · exact mem_objs.mpr (.inr (.inr (.inr (.inl h))))
    · exact absurd (by rw [← Option.some.inj h]) e
    · exact mem_objs.mpr (.inr (.inr (.inr (.inr (.inr h)))))) h

theorem mem_updN {st : St} {x : Addr} {f : Nd → Nd} {p : Addr × Obj} (h : p ∈ objs (updN st x f)) : p ∈ objs st ∨ ∃ nd ∈ st.nodes, nd.a = x ∧ p ∈ ndObjs st.nx st.pv (f nd) := by
  rcases mem_objs.mp h with h | h | h | h | h | ⟨nd, hn, hp⟩
  · exact .inl (mem_objs.mpr (.inl h))
  · exact .inl (mem_objs.mpr (.inr (.inl h)))
  · exact .inl (mem_objs.mpr (.inr (.inr (.inl h))))
  · exact .inl (mem_objs.mpr (.inr (.inr (.inr (.inl h)))))
  · exact .inl (mem_objs.mpr (.inr (.inr (.inr (.inr (.inl h))))))
  · obtain ⟨nd₀, h0, rfl⟩ := List.mem_map.mp hn
    by_cases e : nd₀.a = x
    · rw [if_pos e] at hp; exact .inr ⟨nd₀, h0, e, hp⟩
    · rw [if_neg e] at hp; exact .inl (mem_objs.mpr (.inr (.inr (.inr (.inr (.inr ⟨nd₀, h0, hp⟩))))))

theorem to_keys {nd : Nd} {o : Obj} {ks : List Int} (hw : WF st rest) (hn : nd ∈ st.nodes)
    (h : Op prog w A g L E t Q m (objs (updN st nd.a fun x => { x with oK := o, keys := ks }) ++ rest)) : Op prog w A g L E t Q m (put nd.ka o (objs st ++ rest)) :=
  to_state (st' := updN st nd.a fun x => { x with oK := o, keys := ks }) (hw.same (updN_addrs st nd.a fun _ => rfl))
    (m_nd (nd := { nd with oK := o, keys := ks }) (updN_mem (f := fun x => { x with oK := o, keys := ks }) hn rfl) (.tail _ (.tail _ (.head _)))) (fun p hp e => by
    rcases mem_updN hp with q | ⟨x, hx, ex, q⟩
    · exact q
    · have := hw.node hx hn ex
      subst this
      rcases mem_nd.mp q with q | q | q
      · exact mem_objs.mpr (.inr (.inr (.inr (.inr (.inr ⟨x, hx, mem_nd.mpr (.inl q)⟩)))))
      · exact mem_objs.mpr (.inr (.inr (.inr (.inr (.inr ⟨x, hx, mem_nd.mpr (.inr (.inl q))⟩)))))
      · exact absurd (by rw [q]) e) h
theorem to_cnt {nd : Nd} {c : Int} {tk : Tok} (hw : WF st rest) (hn : nd ∈ st.nodes)
    (h : Op prog w A g L E t Q m (objs (updN st nd.a fun x => { x with cnt := c, tk := tk }) ++ rest)) :
    Op prog w A g L E t Q m (put nd.a (linkO nd.da nd.ka (some (.ref (st.pv nd.a))) (some (.ref (st.nx nd.a))) c tk) (objs st ++ rest)) :=
  to_state (st' := updN st nd.a fun x => { x with cnt := c, tk := tk }) (hw.same (updN_addrs st nd.a fun _ => rfl))
    (m_nd (nd := { nd with cnt := c, tk := tk }) (updN_mem (f := fun x => { x with cnt := c, tk := tk }) hn rfl) (.head _)) (fun p hp e => by
    rcases mem_updN hp with q | ⟨x, hx, ex, q⟩
    · exact q
    · have := hw.node hx hn ex
      subst this
      rcases mem_nd.mp q with q | q | q
      · exact absurd (by rw [q]) e
      · exact mem_objs.mpr (.inr (.inr (.inr (.inr (.inr ⟨x, hx, mem_nd.mpr (.inr (.inl q))⟩)))))
      · exact mem_objs.mpr (.inr (.inr (.inr (.inr (.inr ⟨x, hx, mem_nd.mpr (.inr (.inr q))⟩)))))) h

theorem mem_ptr' {nx pv : Addr → Addr} {x : Addr} {p : Addr × Obj} (h : p ∈ objs { st with nx := nx, pv := pv }) (k : ∀ a, a ≠ x → nx a = st.nx a ∧ pv a = st.pv a) (e : p.1 ≠ x) : p ∈ objs st := by
  rcases mem_objs.mp h with h | h | h | h | h | ⟨nd, hn, hq⟩
  · exact mem_objs.mpr (.inl h)
  · exact mem_objs.mpr (.inr (.inl h))
  · exact mem_objs.mpr (.inr (.inr (.inl h)))
  · exact mem_objs.mpr (.inr (.inr (.inr (.inl h))))
  · exact mem_objs.mpr (.inr (.inr (.inr (.inr (.inl h)))))
  · refine mem_objs.mpr (.inr (.inr (.inr (.inr (.inr ⟨nd, hn, ?_⟩)))))
    rcases mem_nd.mp hq with h | h | h
    · have : nd.a ≠ x := fun q => e (by rw [h]; exact q)
      obtain ⟨k1, k2⟩ := k _ this
      exact mem_nd.mpr (.inl (by rw [h]; dsimp only; rw [k1, k2]))
    · exact mem_nd.mpr (.inr (.inl h))
    · exact mem_nd.mpr (.inr (.inr h))
theorem to_next {nd : Nd} {y : Addr} (hw : WF st rest) (hn : nd ∈ st.nodes) (h : Op prog w A g L E t Q m (objs { st with nx := upA st.nx nd.a y } ++ rest)) :
    Op prog w A g L E t Q m (put nd.a (linkO nd.da nd.ka (some (.ref (st.pv nd.a))) (some (.ref y)) nd.cnt nd.tk) (objs st ++ rest)) := by
  have q := m_link (st := { st with nx := upA st.nx nd.a y }) (rest := rest) hn
  dsimp only [upA] at q
  rw [if_pos rfl] at q
  exact to_state (st' := { st with nx := upA st.nx nd.a y }) hw q (fun p hp e => mem_ptr' hp (fun a ha => ⟨if_neg ha, rfl⟩) e) h
theorem to_prev {nd : Nd} {y : Addr} (hw : WF st rest) (hn : nd ∈ st.nodes) (h : Op prog w A g L E t Q m (objs { st with pv := upA st.pv nd.a y } ++ rest)) :
    Op prog w A g L E t Q m (put nd.a (linkO nd.da nd.ka (some (.ref y)) (some (.ref (st.nx nd.a))) nd.cnt nd.tk) (objs st ++ rest)) := by
  have q := m_link (st := { st with pv := upA st.pv nd.a y }) (rest := rest) hn
  dsimp only [upA] at q
  rw [if_pos rfl] at q
  exact to_state (st' := { st with pv := upA st.pv nd.a y }) hw q (fun p hp e => mem_ptr' hp (fun a ha => ⟨rfl, if_neg ha⟩) e) h
end
end Mine
end
section
open PySem PySem.W PySem.Calls PyProof.Rows
set_option Elab.async false
set_option maxRecDepth 100000
set_option linter.unusedVariables false
namespace Mine

/-- what the entries of an object's dict hold, name by name -/
structure Att (k : Nat) (es : List DictEntry) (f : Str → Option Value) : Prop where
  noRef : es.any (·.refKey) = false
  len : es.length ≤ k
  at_ : ∀ x, getL x es = some (f x)

theorem getL_cons (x : Str) (e : DictEntry) (r : List DictEntry) (h : (e :: r).any (·.refKey) = false) : getL x (e :: r) = if e.key.isStr x then some (some e.val) else getL x r := by
  unfold getL
  have h2 : r.any (·.refKey) = false := by rw [List.any_cons, Bool.or_eq_false_iff] at h; exact h.2
  rw [List.find?_cons, h, h2]
  cases e.key.isStr x <;> rfl
theorem isStr_two {v : Value} {x y : Str} (h : v.isStr x = true) : v.isStr y = decide (y = x) := by
  cases v <;> simp [Value.isStr] at h ⊢
  rename_i s t
  rw [h]
  by_cases e : y = x
  · subst e; simp
  · simp [e]; exact fun q => e q.symm
theorem putL_noRef {x : Str} {hs : Int} {t : Tok} {v : Value} : ∀ {es : List DictEntry}, es.any (·.refKey) = false → (putL x hs (.str x t) v es).any (·.refKey) = false
  | [], _ => rfl
  | e :: r, h => by
    rw [List.any_cons, Bool.or_eq_false_iff] at h
    unfold putL
    cases q : e.key.isStr x with
    | true => rw [if_pos rfl, List.any_cons, h.2, Bool.or_false]; exact h.1
    | false => rw [if_neg (by simp), List.any_cons, putL_noRef h.2, Bool.or_false]; exact h.1
theorem getL_putL {x y : Str} {hs : Int} {t : Tok} {v : Value} : ∀ {es : List DictEntry}, es.any (·.refKey) = false → getL y (putL x hs (.str x t) v es) = if y = x then some (some v) else getL y es
  | [], _ => by
    show getL y [⟨hs, .str x t, v⟩] = _
    rw [getL_cons _ _ _ rfl]
    show (if (x == y) = true then _ else _) = _
    by_cases e : y = x
    · subst e; simp
    · rw [if_neg (by simpa using fun q => e q.symm), if_neg e]
  | e :: r, h => by
    have h2 : r.any (·.refKey) = false := by rw [List.any_cons, Bool.or_eq_false_iff] at h; exact h.2
    have h1 : e.refKey = false := by rw [List.any_cons, Bool.or_eq_false_iff] at h; exact h.1
    rw [getL_cons _ _ _ h]
    unfold putL
    cases q : e.key.isStr x with
    | true =>
      rw [if_pos rfl, getL_cons _ _ _ (by rw [List.any_cons, h2, Bool.or_false]; exact h1)]
      dsimp only
      rw [isStr_two q]
      by_cases e' : y = x
      · rw [if_pos e', if_pos (decide_eq_true e')]
      · rw [if_neg e', if_neg (by simpa using e')]; rw [if_neg (by simpa using e')]
    | false =>
      rw [if_neg (by simp), getL_cons _ _ _ (by rw [List.any_cons, putL_noRef h2, Bool.or_false]; exact h1), getL_putL h2]
      by_cases e' : y = x
      · subst e'; rw [if_pos rfl, if_neg (by rw [q]; simp), if_pos rfl]
      · rw [if_neg e', if_neg e']
theorem putL_len {x : Str} {hs : Int} {t : Tok} {v : Value} : ∀ {es : List DictEntry}, (putL x hs (.str x t) v es).length ≤ es.length + 1
  | [] => Nat.le_refl _
  | e :: r => by
    unfold putL
    cases e.key.isStr x with
    | true => rw [if_pos rfl]; simp
    | false => rw [if_neg (by simp)]; have := putL_len (x := x) (hs := hs) (t := t) (v := v) (es := r); simp only [List.length_cons]; omega
theorem putL_len_there {x : Str} {hs : Int} {t : Tok} {v : Value} : ∀ {es : List DictEntry}, es.any (·.refKey) = false → (∃ u, getL x es = some (some u)) → (putL x hs (.str x t) v es).length = es.length
  | [], _, ⟨u, h⟩ => by cases h
  | e :: r, hr, ⟨u, h⟩ => by
    have h2 : r.any (·.refKey) = false := by rw [List.any_cons, Bool.or_eq_false_iff] at hr; exact hr.2
    rw [getL_cons _ _ _ hr] at h
    unfold putL
    cases q : e.key.isStr x with
    | true => rw [if_pos rfl]; rfl
    | false =>
      rw [q, if_neg (by simp)] at h
      rw [if_neg (by simp), List.length_cons, putL_len_there h2 ⟨u, h⟩]; rfl
theorem Att.put {k : Nat} {es : List DictEntry} {f : Str → Option Value} (a : Att k es f) {x : Str} (hx : (f x).isSome = true) {hs : Int} {t : Tok} {v : Value} :
    Att k (putL x hs (.str x t) v es) (fun y => if y = x then some v else f y) := by
  obtain ⟨u, hu⟩ := Option.isSome_iff_exists.mp hx
  refine ⟨putL_noRef a.noRef, by rw [putL_len_there a.noRef ⟨u, by rw [a.at_, hu]⟩]; exact a.len, fun y => ?_⟩
  rw [getL_putL a.noRef, a.at_]
  by_cases e : y = x
  · rw [if_pos e, if_pos e]
  · rw [if_neg e, if_neg e]
theorem Att.new {k : Nat} {es : List DictEntry} {f : Str → Option Value} (a : Att k es f) {x : Str} {hs : Int} {t : Tok} {v : Value} :
    Att (k + 1) (putL x hs (.str x t) v es) (fun y => if y = x then some v else f y) := by
  refine ⟨putL_noRef a.noRef, Nat.le_trans putL_len (Nat.succ_le_succ a.len), fun y => ?_⟩
  rw [getL_putL a.noRef, a.at_]
  by_cases e : y = x
  · rw [if_pos e, if_pos e]
  · rw [if_neg e, if_neg e]

section
variable (P : Params)
theorem kf_pg (x : Str) : plainGet (K P) 929 x = true := by kernel_rfl
theorem kf_hd : hasDictIn (K P) 929 = true := by kernel_rfl
theorem kf_noget : noGet (K P) none = true := by kernel_rfl
theorem kf_sa : findIn (K P) (.ref 929) "__setattr__" = some (some (.builtin "object.__setattr__")) := by kernel_rfl
theorem kf_po : plainOver (K P) 929 = true := by kernel_rfl
theorem kf_data : findIn (K P) (.ref 929) "_Cache__data" = some none := by kernel_rfl
theorem kf_cur : findIn (K P) (.ref 929) "_Cache__currsize" = some none := by kernel_rfl
theorem kf_max : findIn (K P) (.ref 929) "_Cache__maxsize" = some none := by kernel_rfl
theorem kf_root : findIn (K P) (.ref 929) "_LFUCache__root" = some none := by kernel_rfl
theorem kf_links : findIn (K P) (.ref 929) "_LFUCache__links" = some none := by kernel_rfl
theorem kf_size : findIn (K P) (.ref 929) "_Cache__size" = some (some .none) := by kernel_rfl
theorem kf_nogetN : noGet (K P) (some .none) = true := by kernel_rfl
theorem kt_cur : takerIn (K P) 929 "_Cache__currsize" = some none := by kernel_rfl
end

section
variable {prog : Program} {w : World} {A : Around} {g base : Heap} {outer : List Env} {L : Addr} {E : Value → Heap → Prop} {m : Loc} {n : Nat} {env : Env} {st : St} {rest : FP} {f : Str → Option Value} {k : Nat} {v : Value} {ex : Bool}
theorem s_get {name : Str} {attr : Option Value} {Q : Value → Loc → FP → Prop} (cx : Cx w base outer g L A env n) (ha : findIn (K w.params) (.ref 929) name = some attr) (hn : noGet (K w.params) attr = true)
    (at_ : Att k st.es f) (hl : f name = some v) (hv : handedIn v = true) (h : Q v m (objs st ++ rest)) : Op prog w A g L E (getAttr (.ref st.c) name ex) Q m (objs st ++ rest) :=
  o_getOwn cx m_c m_dc (kf_pg _ _) (kf_hd _) ha hn (by rw [at_.at_, hl]) hv h
theorem s_set {name : Str} {Q : Unit → Loc → FP → Prop} (cx : Cx w base outer g L A env n) (hw : WF st rest) (ht : takerIn (K w.params) 929 name = some none) (hk : k ≤ 100)
    (at_ : Att k st.es f) (hl : (f name).isSome = true)
    (h : ∀ es ep, Att k es (fun y => if y = name then some v else f y) → Q () m (put st.dc (dictOf es ep) (objs st ++ rest))) : Op prog w A g L E (setAttr (.ref st.c) name v) Q m (objs st ++ rest) :=
  o_setOwn cx m_c m_dc (kf_sa _) (kf_po _) ht (kf_hd _) (by rw [at_.at_]; rfl) (fun t => Nat.le_trans putL_len (by have := at_.len; omega)) fun t => h _ _ (at_.put hl)
theorem s_meth {name : Str} {fa : Addr} {pl : Sem Bool} {Q : Value × List Value → Loc → FP → Prop} (cx : Cx w base outer g L A env n) (hf : findIn (K w.params) (.ref 929) name = some (some (.ref fa))) (ht : isFn (K w.params) (.ref fa) = true)
    (at_ : Att k st.es f) (hl : f name = none) (h : Q (.ref fa, [.ref st.c]) m (objs st ++ rest)) : Op prog w A g L E (getMethod (.ref st.c) name pl) Q m (objs st ++ rest) :=
  o_meth cx m_c m_dc (kf_pg _ _) hf ht (by rw [at_.at_, hl]) h
end
end Mine
end
section
open PySem PySem.W PySem.Calls PyProof.Rows
set_option Elab.async false
set_option maxRecDepth 100000
set_option linter.unusedVariables false
namespace Mine
section
variable (P : Params)
theorem lk_pg (x : Str) : plainGet (K P) 867 x = true := by kernel_rfl
theorem lk_cls : isClsIn (K P) 867 = true := by kernel_rfl
theorem lk_sa : findIn (K P) (.ref 867) "__setattr__" = some (some (.builtin "object.__setattr__")) := by kernel_rfl
theorem lk_po : plainOver (K P) 867 = true := by kernel_rfl
theorem lk_fc : findIn (K P) (.ref 867) "count" = some (some (.ref 868)) := by kernel_rfl
theorem lk_fk : findIn (K P) (.ref 867) "keys" = some (some (.ref 869)) := by kernel_rfl
theorem lk_fn : findIn (K P) (.ref 867) "next" = some (some (.ref 870)) := by kernel_rfl
theorem lk_fp : findIn (K P) (.ref 867) "prev" = some (some (.ref 871)) := by kernel_rfl
theorem lk_gc : specialIn (K P) (.ref 868) "__get__" = some (some (.builtin "member_descriptor.__get__")) := by kernel_rfl
theorem lk_gk : specialIn (K P) (.ref 869) "__get__" = some (some (.builtin "member_descriptor.__get__")) := by kernel_rfl
theorem lk_gn : specialIn (K P) (.ref 870) "__get__" = some (some (.builtin "member_descriptor.__get__")) := by kernel_rfl
theorem lk_gp : specialIn (K P) (.ref 871) "__get__" = some (some (.builtin "member_descriptor.__get__")) := by kernel_rfl
theorem lk_tc : takesIn (K P) (.ref 868) = some true := by kernel_rfl
theorem lk_tk : takesIn (K P) (.ref 869) = some true := by kernel_rfl
theorem lk_tn : takesIn (K P) (.ref 870) = some true := by kernel_rfl
theorem lk_tp : takesIn (K P) (.ref 871) = some true := by kernel_rfl
theorem lk_ic : slotIn (K P) 868 867 = some 0 := by kernel_rfl
theorem lk_ik : slotIn (K P) 869 867 = some 1 := by kernel_rfl
theorem lk_in : slotIn (K P) 870 867 = some 2 := by kernel_rfl
theorem lk_ip : slotIn (K P) 871 867 = some 3 := by kernel_rfl
theorem lk_kc : takerIn (K P) 867 "count" = some (some (.ref 868)) := by kernel_rfl
theorem lk_kk : takerIn (K P) 867 "keys" = some (some (.ref 869)) := by kernel_rfl
theorem lk_kn : takerIn (K P) 867 "next" = some (some (.ref 870)) := by kernel_rfl
theorem lk_kp : takerIn (K P) 867 "prev" = some (some (.ref 871)) := by kernel_rfl
theorem lk_Tc : typeIn (K P) (.ref 868) = some (.type "member_descriptor") := by kernel_rfl
theorem lk_Tk : typeIn (K P) (.ref 869) = some (.type "member_descriptor") := by kernel_rfl
theorem lk_Tn : typeIn (K P) (.ref 870) = some (.type "member_descriptor") := by kernel_rfl
theorem lk_Tp : typeIn (K P) (.ref 871) = some (.type "member_descriptor") := by kernel_rfl
theorem kl_863 : (K P).lookup 863 = some o863 := by kernel_rfl
theorem kc_863 : codeIn (K P) (.ref 862) "LFUCache._Link.unlink" = true := by kernel_rfl
end
section
variable {prog : Program} {w : World} {A : Around} {g base : Heap} {outer : List Env} {L : Addr} {E : Value → Heap → Prop} {m : Loc} {n : Nat} {env : Env} {st : St} {rest : FP} {nd : Nd} {ex : Bool}
theorem s_count {Q : Value → Loc → FP → Prop} (cx : Cx w base outer g L A env n) (hn : nd ∈ st.nodes) (h : Q (.int nd.cnt nd.tk) m (objs st ++ rest)) : Op prog w A g L E (getAttr (.ref nd.a) "count" ex) Q m (objs st ++ rest) :=
  o_slot cx (m_link hn) (m_ld hn) (lk_pg _ _) (lk_cls _) (lk_fc _) (lk_gc _) (lk_tc _) (lk_ic _) rfl rfl h
theorem s_keys {Q : Value → Loc → FP → Prop} (cx : Cx w base outer g L A env n) (hn : nd ∈ st.nodes) (h : Q (.ref nd.ka) m (objs st ++ rest)) : Op prog w A g L E (getAttr (.ref nd.a) "keys" ex) Q m (objs st ++ rest) :=
  o_slot cx (m_link hn) (m_ld hn) (lk_pg _ _) (lk_cls _) (lk_fk _) (lk_gk _) (lk_tk _) (lk_ik _) rfl rfl h
theorem s_next {Q : Value → Loc → FP → Prop} (cx : Cx w base outer g L A env n) (hn : nd ∈ st.nodes) (h : Q (.ref (st.nx nd.a)) m (objs st ++ rest)) : Op prog w A g L E (getAttr (.ref nd.a) "next" ex) Q m (objs st ++ rest) :=
  o_slot cx (m_link hn) (m_ld hn) (lk_pg _ _) (lk_cls _) (lk_fn _) (lk_gn _) (lk_tn _) (lk_in _) rfl rfl h
theorem s_prev {Q : Value → Loc → FP → Prop} (cx : Cx w base outer g L A env n) (hn : nd ∈ st.nodes) (h : Q (.ref (st.pv nd.a)) m (objs st ++ rest)) : Op prog w A g L E (getAttr (.ref nd.a) "prev" ex) Q m (objs st ++ rest) :=
  o_slot cx (m_link hn) (m_ld hn) (lk_pg _ _) (lk_cls _) (lk_fp _) (lk_gp _) (lk_tp _) (lk_ip _) rfl rfl h
theorem s_setNext {y : Addr} {Q : Unit → Loc → FP → Prop} (cx : Cx w base outer g L A env n) (hn : nd ∈ st.nodes)
    (h : Q () m (put nd.a (linkO nd.da nd.ka (some (.ref (st.pv nd.a))) (some (.ref y)) nd.cnt nd.tk) (objs st ++ rest))) : Op prog w A g L E (setAttr (.ref nd.a) "next" (.ref y)) Q m (objs st ++ rest) :=
  o_setSlot cx (m_link hn) (m_ld hn) (lk_sa _) (lk_po _) (lk_kn _) (lk_Tn _) (lk_in _) (by decide) rfl h
theorem s_setPrev {y : Addr} {Q : Unit → Loc → FP → Prop} (cx : Cx w base outer g L A env n) (hn : nd ∈ st.nodes)
    (h : Q () m (put nd.a (linkO nd.da nd.ka (some (.ref y)) (some (.ref (st.nx nd.a))) nd.cnt nd.tk) (objs st ++ rest))) : Op prog w A g L E (setAttr (.ref nd.a) "prev" (.ref y)) Q m (objs st ++ rest) :=
  o_setSlot cx (m_link hn) (m_ld hn) (lk_sa _) (lk_po _) (lk_kp _) (lk_Tp _) (lk_ip _) (by decide) rfl h
theorem s_setCount {c : Int} {tk : Tok} {Q : Unit → Loc → FP → Prop} (cx : Cx w base outer g L A env n) (hn : nd ∈ st.nodes)
    (h : Q () m (put nd.a (linkO nd.da nd.ka (some (.ref (st.pv nd.a))) (some (.ref (st.nx nd.a))) c tk) (objs st ++ rest))) : Op prog w A g L E (setAttr (.ref nd.a) "count" (.int c tk)) Q m (objs st ++ rest) :=
  o_setSlot cx (m_link hn) (m_ld hn) (lk_sa _) (lk_po _) (lk_kc _) (lk_Tc _) (lk_ic _) (by decide) rfl h
theorem o_assignAttr {env' : Env} {o value : PySem.Expr} {name : Str} {pos' pos : Pos} {Q : Flow → Loc → FP → Prop} {fp : FP}
    (h : Op prog w A g L E (eval value env') (fun v => Op prog w A g L E (eval o env') (fun ov => Op prog w A g L E (setAttr ov name v) (fun _ => Q .next))) m fp)
    (hs : swapsWith value (some (.Attribute o name pos')) pos.line env' = Pure.pure false := by rfl) :
    Op prog w A g L E (exec (.Assign [.Attribute o name pos'] value pos) env') Q m fp :=
  Op.of fun s F N _ k => by
    refine plainObj_wpAny_Assign_Attribute (h.use F N fun v _ _ _ _ F1 N1 q1 => q1.use F1 N1 fun ov _ _ _ _ F2 N2 q2 => q2.use F2 N2 fun _ => k _) hs

theorem unlink_spec {p q : Nd} {Q : Value → Loc → FP → Prop} (cx : Cx w base outer g L A env (n + 1)) (hw : WF st rest) (hn : nd ∈ st.nodes) (hp : p ∈ st.nodes) (hq : q ∈ st.nodes)
    (ep : st.pv nd.a = p.a) (eq : st.nx nd.a = q.a)
    (h : Q .none m (objs { st with nx := upA st.nx p.a q.a, pv := upA st.pv q.a p.a } ++ rest)) : Op prog w A g L E (call (.ref 863) [.ref nd.a]) Q m (objs st ++ rest) := by
  refine o_call cx (kl_863 _) (kc_863 _) (fun s _ => BindsTo.of_eq rfl) (locs rfl) (by decide) fun g' L' E' cx' _ _ => ?_
  refine o_cons (o_assign (o_attr (o_loc rfl (s_next cx' hn (o_store ?_)))))
  refine o_cons (o_assign (o_attr (o_loc rfl (s_prev cx' hn (o_store ?_)))))
  rw [ep, eq]
  refine o_cons (o_assignAttr (o_loc rfl (o_loc rfl (s_setNext cx' hp (to_next hw hp ?_)))))
  refine o_cons (o_assignAttr (o_loc rfl (o_loc rfl (s_setPrev (st := { st with nx := upA st.nx p.a q.a }) cx' hq (to_prev (st := { st with nx := upA st.nx p.a q.a }) hw hq ?_)))))
  exact o_nil h
end
end Mine
end
section
open PySem PySem.W PySem.Calls PyProof.Rows
set_option Elab.async false
set_option maxRecDepth 100000
set_option linter.unusedVariables false
namespace Mine

theorem nem {α : Type} {x z : α} {l : List α} (h : x ∈ l) (h' : z ∉ l) : x ≠ z := fun e => h' (by rw [← e]; exact h)
-- addresses linked both ways
def Lk (nx pv : Addr → Addr) : List Addr → Prop
  | a :: b :: r => (nx a = b ∧ pv b = a) ∧ Lk nx pv (b :: r)
  | _ => True
theorem Lk.split {nx pv : Addr → Addr} : ∀ {xs : List Addr} {a : Addr} {ys : List Addr}, Lk nx pv (xs ++ a :: ys) → Lk nx pv (xs ++ [a]) ∧ Lk nx pv (a :: ys)
  | [], _, _, h => ⟨trivial, h⟩
  | [x], _, _, h => ⟨⟨h.1, trivial⟩, h.2⟩
  | x :: y :: xs, a, ys, h => let q := Lk.split (xs := y :: xs) h.2; ⟨⟨h.1, q.1⟩, q.2⟩
theorem Lk.join {nx pv : Addr → Addr} : ∀ {xs : List Addr} {a : Addr} {ys : List Addr}, Lk nx pv (xs ++ [a]) → Lk nx pv (a :: ys) → Lk nx pv (xs ++ a :: ys)
  | [], _, _, _, h => h
  | [x], _, _, h, h' => ⟨h.1, h'⟩
  | x :: y :: xs, a, ys, h, h' => ⟨h.1, Lk.join (xs := y :: xs) h.2 h'⟩
theorem Lk.congr {nx pv nx' pv' : Addr → Addr} : ∀ {l : List Addr}, Lk nx pv l → (∀ a ∈ l.dropLast, nx' a = nx a) → (∀ a ∈ l.tail, pv' a = pv a) → Lk nx' pv' l
  | [], _, _, _ => trivial
  | [_], _, _, _ => trivial
  | x :: y :: r, h, h1, h2 => by
    refine ⟨⟨?_, ?_⟩, Lk.congr h.2 (fun a ha => h1 a (by simp only [List.dropLast_cons_cons] at ha ⊢; exact .tail _ ha)) fun a ha => h2 a (.tail _ ha)⟩
    · rw [h1 x (by simp [List.dropLast])]; exact h.1.1
    · rw [h2 y (.head _)]; exact h.1.2
theorem Lk.out {nx pv : Addr → Addr} {X Y : List Addr} {p d q : Addr} (h : Lk nx pv (X ++ p :: d :: q :: Y)) (h1 : p ∉ X) (h2 : p ∉ (q :: Y).dropLast) (h3 : q ∉ (X ++ [p]).tail) (h4 : q ∉ Y) :
    Lk (upA nx p q) (upA pv q p) (X ++ p :: q :: Y) := by
  have ⟨a, b⟩ := h.split
  have ne : ∀ {u v : Addr}, u ≠ v → ∀ (f : Addr → Addr) (z : Addr), upA f v z u = f u := fun e f z => if_neg e
  refine Lk.join (a.congr (fun x hx => ne (nem (l := X) ?_ h1) _ _) (fun x hx => ne (nem hx h3) _ _)) ⟨⟨if_pos rfl, if_pos rfl⟩, b.2.2.congr (fun x hx => ne (nem hx h2) _ _) (fun x hx => ne (nem hx h4) _ _)⟩
  rwa [List.dropLast_concat] at hx
theorem Lk.ins {nx pv : Addr → Addr} {X Y : List Addr} {p y q : Addr} (h : Lk nx pv (X ++ p :: q :: Y)) (h1 : p ∉ X) (h2 : p ∉ (q :: Y).dropLast) (h3 : q ∉ (X ++ [p]).tail) (h4 : q ∉ Y)
    (f1 : y ∉ X) (f2 : y ≠ p) (f3 : y ≠ q) (f4 : y ∉ Y) : Lk (upA (upA nx p y) y q) (upA (upA pv q y) y p) (X ++ p :: y :: q :: Y) := by
  have ⟨a, b⟩ := h.split
  have ne : ∀ {u v : Addr}, u ≠ v → ∀ (f : Addr → Addr) (z : Addr), upA f v z u = f u := fun e f z => if_neg e
  have self : ∀ (f : Addr → Addr) (u z : Addr), upA f u z u = z := fun _ _ _ => if_pos rfl
  have i1 : ∀ x ∈ (X ++ [p]).dropLast, x ∈ X := fun x hx => by rwa [List.dropLast_concat] at hx
  have i2 : ∀ x ∈ (X ++ [p]).tail, x ∈ X ∨ x = p := fun x hx => by simpa using List.mem_of_mem_tail hx
  refine Lk.join (a.congr (fun x hx => ?_) fun x hx => ?_) ⟨⟨?_, ?_⟩, ⟨?_, ?_⟩, b.2.congr (fun x hx => ?_) fun x hx => ?_⟩
  · rw [ne (nem (i1 x hx) f1), ne (nem (i1 x hx) h1)]
  · rw [ne (fun e => (i2 x hx).elim (fun z => nem z f1 e) fun z => f2 (e.symm.trans z)), ne (nem hx h3)]
  · rw [ne f2.symm, self]
  · exact self _ _ _
  · exact self _ _ _
  · rw [ne f3.symm, self]
  · have hx' := List.dropLast_subset _ hx
    rw [ne (fun e => by subst e; rcases List.mem_cons.mp hx' with z | z; exact f3 z; exact f4 z), ne (nem hx h2)]
  · rw [ne (nem hx f4), ne (nem hx h4)]

-- the abstract cache
structure Ab where
  sized : Bool
  room : Int
  D : List (Int × Int)
  M : List (Int × List Int)
def szOf (sized : Bool) (v : Int) : Int := if sized then v % 5 - 1 else 1
def roomOf (sized : Bool) (D : List (Int × Int)) : Int := (D.map fun p => szOf sized p.2).sum
def VInt (v : Value) (n : Int) : Prop := ∃ t, v = .int n t
inductive PairsI : List (Int × Value) → List (Int × Int) → Prop
  | nil : PairsI [] []
  | cons {k : Int} {n : Int} {t : Tok} {r : List (Int × Value)} {D : List (Int × Int)} : PairsI r D → PairsI ((k, .int n t) :: r) ((k, n) :: D)
def storedI (D : List (Int × Int)) (k v : Int) : List (Int × Int) :=
  if D.any (fun kv => kv.1 = k) then D.map (fun kv => if kv.1 = k then (kv.1, v) else kv) else D ++ [(k, v)]
def withoutI (D : List (Int × Int)) (k : Int) : List (Int × Int) := D.filter fun kv => decide (kv.1 ≠ k)
def atI (D : List (Int × Int)) (k : Int) : Option Int := (D.find? fun kv => decide (kv.1 = k)).map (·.2)
theorem PairsI.keys {r D} (h : PairsI r D) : r.map (·.1) = D.map (·.1) := by
  induction h with
  | nil => rfl
  | cons _ ih => rw [List.map_cons, List.map_cons, ih]
theorem PairsI.len {r D} (h : PairsI r D) : r.length = D.length := by have := congrArg List.length h.keys; simpa using this
theorem PairsI.at_ {r D} (h : PairsI r D) (k : Int) : (valueAt r k = none ∧ atI D k = none) ∨ ∃ n t, valueAt r k = some (.int n t) ∧ atI D k = some n := by
  induction h with
  | nil => exact .inl ⟨rfl, rfl⟩
  | @cons k' n t r D _ ih =>
    unfold valueAt atI
    rw [List.find?_cons, List.find?_cons]
    by_cases e : k' = k
    · dsimp only; rw [decide_eq_true e]; exact .inr ⟨n, t, rfl, rfl⟩
    · dsimp only; rw [decide_eq_false e]; exact ih
theorem PairsI.app {r D r' D'} (h : PairsI r D) (h' : PairsI r' D') : PairsI (r ++ r') (D ++ D') := by
  induction h with
  | nil => exact h'
  | cons _ ih => exact .cons ih
theorem PairsI.any {r D} (h : PairsI r D) (k : Int) : (r.any fun kv => decide (kv.1 = k)) = D.any fun kv => decide (kv.1 = k) := by
  induction h with
  | nil => rfl
  | cons _ ih => rw [List.any_cons, List.any_cons, ih]
theorem PairsI.stored {r D} (h : PairsI r D) (k n : Int) (t : Tok) : PairsI (stored r k (.int n t)) (storedI D k n) := by
  unfold PySem.stored storedI
  rw [h.any]
  split
  · rename_i hh; clear hh
    induction h with
    | nil => exact .nil
    | @cons k' n' t' r D _ ih =>
      rw [List.map_cons, List.map_cons]
      by_cases e : k' = k
      · rw [if_pos e, if_pos e]; exact .cons ih
      · rw [if_neg e, if_neg e]; exact .cons ih
  · exact h.app (.cons .nil)
theorem PairsI.without {r D} (h : PairsI r D) (k : Int) : PairsI (without r k) (withoutI D k) := by
  unfold PySem.without withoutI
  induction h with
  | nil => exact .nil
  | @cons k' n' t' r D _ ih =>
    rw [List.filter_cons, List.filter_cons]
    by_cases e : k' = k
    · rw [if_neg (by simpa using e), if_neg (by simpa using e)]; exact ih
    · rw [if_pos (by simpa using e), if_pos (by simpa using e)]; exact .cons ih

def attF (sz : Option Addr) (dA rt lA : Addr) (cur : Int) (tc : Tok) (room : Int) (tm : Tok) : Str → Option Value := fun y =>
  if y = "_Cache__currsize" then some (.int cur tc) else
  if y = "_Cache__data" then some (.ref dA) else
  if y = "_Cache__maxsize" then some (.int room tm) else
  if y = "_LFUCache__root" then some (.ref rt) else
  if y = "_LFUCache__links" then some (.ref lA) else
  if y = "getsizeof" then sz.map fun _ => .ref 938 else
  if y = "_Cache__size" then sz.map .ref else none

/-- the same cache, seen from outside -/
abbrev Same (st' st : St) : Prop := st'.c = st.c ∧ st'.dA = st.dA ∧ st'.sz.map (·.1) = st.sz.map (·.1)
theorem Same.trans {a b c : St} (x : Same a b) (y : Same b c) : Same a c := ⟨x.1.trans y.1, x.2.1.trans y.2.1, x.2.2.trans y.2.2⟩
/-- the nodes stand in a ring -/
structure Sh (st : St) (rt : Nd) (ch : List Nd) : Prop where
  rtm : rt ∈ st.nodes
  chm : ∀ nd ∈ ch, nd ∈ st.nodes
  nod : ((rt :: ch).map (·.a)).Nodup
  ring : Lk st.nx st.pv (rt.a :: (ch.map (·.a) ++ [rt.a]))
  rt0 : rt.cnt = 0
/-- the state is a cache that holds `ab` -/
structure CI (prog : Program) (w : World) (st : St) (ab : Ab) (cur : Int) (rt : Nd) (ch : List Nd) : Prop where
  att : ∃ tc tm, Att 7 st.es (attF (st.sz.map (·.1)) st.dA rt.a st.lA cur tc ab.room tm)
  sh : Sh st rt ch
  kd : ∀ nd ∈ ch, IsD prog w nd.oK (nd.keys.map fun k => (k, .none)) ∧ (nd.ka == sysModules) = false
  M : ch.map (fun nd => (nd.cnt, nd.keys)) = ab.M
  hL : ∃ kv, IsD prog w st.oL kv ∧ (st.lA == sysModules) = false ∧ (∀ nd ∈ ch, ∀ k ∈ nd.keys, valueAt kv k = some (.ref nd.a)) ∧ (kv.map (·.1)).Perm (ab.M.flatMap (·.2))
  hD : ∃ kv, IsD prog w st.oD kv ∧ (st.dA == sysModules) = false ∧ PairsI kv ab.D
  hS : match st.sz with
    | some (sA, oS) => ab.sized = true ∧ ∃ kv, IsD prog w oS kv ∧ (sA == sysModules) = false ∧ PairsI kv (ab.D.map fun p => (p.1, szOf true p.2))
    | none => ab.sized = false

structure MOK (M : List (Int × List Int)) : Prop where
  keys : (M.flatMap (·.2)).Nodup
  small : ∀ k ∈ M.flatMap (·.2), 0 ≤ k ∧ k < 5
  full : ∀ g ∈ M, g.2 ≠ []
  pos : ∀ g ∈ M, 0 < g.1
  asc : M.Pairwise fun a b => a.1 < b.1
structure DOK (D : List (Int × Int)) : Prop where
  keys : (D.map (·.1)).Nodup
  small : ∀ k ∈ D.map (·.1), 0 ≤ k ∧ k < 5
theorem len_of_nodup {α : Type} [DecidableEq α] : ∀ {l l' : List α}, l.Nodup → (∀ x ∈ l, x ∈ l') → l.length ≤ l'.length
  | [], _, _, _ => Nat.zero_le _
  | x :: l, l', h, k => by
    rw [List.nodup_cons] at h
    have h1 : x ∈ l' := k x (.head _)
    have := len_of_nodup (l := l) (l' := l'.erase x) h.2 fun y hy => (List.mem_erase_of_ne (nem hy h.1)).mpr (k y (.tail _ hy))
    rw [List.length_erase_of_mem h1] at this
    have p : 0 < l'.length := List.length_pos_of_mem h1
    simp only [List.length_cons]; omega
theorem five {l : List Int} (h : l.Nodup) (k : ∀ x ∈ l, 0 ≤ x ∧ x < 5) : l.length ≤ 5 :=
  len_of_nodup (l' := [0, 1, 2, 3, 4]) h fun x hx => by
    have := k x hx
    simp only [List.mem_cons, List.not_mem_nil, or_false]; omega
theorem MOK.five {M : List (Int × List Int)} (h : MOK M) : (M.flatMap (·.2)).length ≤ 5 := Mine.five h.keys h.small
theorem DOK.five {D : List (Int × Int)} (h : DOK D) : D.length ≤ 5 := by have := Mine.five h.keys h.small; simpa using this
end Mine
end
section
open PySem PySem.W PySem.Calls PyProof.Rows
set_option Elab.async false
set_option maxRecDepth 100000
set_option linter.unusedVariables false
namespace Mine
section
variable (P : Params)
theorem lk_makes : makesIn (K P) 867 = true := by kernel_rfl
theorem lk_init : findIn (K P) (.ref 867) "__init__" = some (some (.ref 856)) := by kernel_rfl
theorem lk_fn856 : isFn (K P) (.ref 856) = true := by kernel_rfl
theorem kl_856 : (K P).lookup 856 = some o856 := by kernel_rfl
theorem kc_856 : codeIn (K P) (.ref 855) "LFUCache._Link.__init__" = true := by kernel_rfl
end
section
variable {prog : Program} {w : World} {A : Around} {g base : Heap} {outer : List Env} {L : Addr} {E : Value → Heap → Prop} {m : Loc} {fp : FP} {n : Nat} {env : Env}

abbrev rawL (dy : Addr) (sl : Array (Option Value)) : Obj := ⟨.ref 867, some dy, .plain, sl⟩
theorem put_head {d : Addr} {o o' : Obj} {r : FP} (h : ∀ p ∈ r, p.1 ≠ d) : ∀ p ∈ ((d, o') :: r), p ∈ put d o' ((d, o) :: r) := fun p hp => by
  rcases List.mem_cons.mp hp with rfl | hp
  · exact put_self
  · exact put_ne (.tail _ hp) (h p hp)

theorem link_spec {c : Int} {t : Tok} {Q : Value → Loc → FP → Prop} (cx : Cx w base outer g L A env (n + 2))
    (h : ∀ y dy ky oK, (∀ p ∈ fp, p.1 < dy) → dy < y → y < ky → (ky == sysModules) = false → IsD prog w oK [] →
      Q (.ref y) m ((y, rawL dy #[some (.int c t), some (.ref ky)]) :: (dy, dictOf [] 0) :: (ky, oK) :: fp)) : Op prog w A g L E (call (.ref 867) [.int c t]) Q m fp := by
  refine o_make cx (lk_makes _) (lk_init _) (lk_fn856 _) (kl_856 _) (kc_856 _) _ (fun x s _ => BindsTo.of_eq rfl) (fun x => locs rfl) (by decide) fun y dy g' L' E' A' cx' _ lt lt2 => ?_
  refine o_cons (o_assignAttr (o_loc rfl (o_loc rfl (o_setSlot cx' (.head _) (.tail _ (.head _)) (lk_sa _) (lk_po _) (lk_kc _) (lk_Tc _) (lk_ic _) (by decide) rfl ?_))))
  refine o_cons (o_assignAttr (o_newDict cx' fun ky oK ltk lo hd => ?_))
  have hy : ∀ p ∈ ((dy, dictOf [] 0) :: fp), p.1 ≠ y := fun p hp => by
    rcases List.mem_cons.mp hp with rfl | hp
    · exact Nat.ne_of_lt lt2
    · exact Nat.ne_of_lt (Nat.lt_trans (lt p hp) lt2)
  refine o_loc rfl (o_setSlot (sl := #[some (.int c t)]) (sl' := #[some (.int c t), some (.ref ky)]) cx' (.tail _ put_self) (.tail _ (put_ne (.tail _ (.head _)) (Nat.ne_of_lt lt2))) (lk_sa _) (lk_po _) (lk_kk _) (lk_Tk _) (lk_ik _) (by decide) rfl ?_)
  have yk : y < ky := ltk _ put_self
  refine Op.weaken (o_nil ⟨rfl, h y dy ky oK lt lt2 yk lo hd⟩) fun p hp => ?_
  rcases List.mem_cons.mp hp with rfl | hp
  · exact put_self
  · rcases List.mem_cons.mp hp with rfl | hp
    · exact put_ne (.tail _ (put_ne (.tail _ (.head _)) (Nat.ne_of_lt lt2))) (Nat.ne_of_lt lt2)
    · rcases List.mem_cons.mp hp with rfl | hp
      · exact put_ne (.head _) (Nat.ne_of_gt yk)
      · exact put_ne (.tail _ (put_ne (.tail _ (.tail _ hp)) (hy p (.tail _ hp)))) (hy p (.tail _ hp))
end
end Mine
end
section
open PySem PySem.W PySem.Calls PyProof.Rows
set_option Elab.async false
set_option maxRecDepth 100000
set_option linter.unusedVariables false
namespace Mine

theorem valueAt_map {r : List (Int × Value)} {k j : Int} {v : Value} : valueAt (r.map fun kv => if kv.1 = k then (kv.1, v) else kv) j = if j = k then (if r.any (fun kv => decide (kv.1 = k)) then some v else none) else valueAt r j := by
  induction r with
  | nil => by_cases e : j = k <;> simp [valueAt, e]
  | cons x r ih =>
    obtain ⟨a, b⟩ := x
    unfold valueAt at ih ⊢
    rw [List.map_cons, List.find?_cons, List.find?_cons, List.any_cons]
    by_cases e : a = k
    · subst e
      rw [if_pos rfl]
      by_cases e' : j = a
      · subst e'; simp
      · rw [if_neg e', decide_eq_false (fun q => e' q.symm)]; dsimp only; rw [ih, if_neg e']
    · rw [if_neg e]
      by_cases e' : a = j
      · subst e'; rw [decide_eq_true rfl, if_neg e]
      · rw [decide_eq_false e']; dsimp only; rw [ih, decide_eq_false e, Bool.false_or]
theorem any_valueAt {r : List (Int × Value)} {k : Int} : (r.any fun kv => decide (kv.1 = k)) = (valueAt r k).isSome := by
  induction r with
  | nil => rfl
  | cons x r ih =>
    unfold valueAt at ih ⊢
    rw [List.any_cons, List.find?_cons, ih]
    cases h : decide (x.1 = k) <;> simp [h]
theorem valueAt_app {r : List (Int × Value)} {k j : Int} {v : Value} : valueAt (r ++ [(k, v)]) j = if (valueAt r j).isSome then valueAt r j else if j = k then some v else none := by
  induction r with
  | nil => simp only [valueAt, List.nil_append, List.find?_cons, List.find?_nil]; by_cases e : j = k
           · subst e; simp
           · rw [decide_eq_false (fun q : k = j => e q.symm)]; simp [e]
  | cons x r ih =>
    unfold valueAt at ih ⊢
    rw [List.cons_append, List.find?_cons, List.find?_cons]
    cases h : decide (x.1 = j)
    · exact ih
    · rfl
theorem valueAt_stored {r : List (Int × Value)} {k j : Int} {v : Value} : valueAt (stored r k v) j = if j = k then some v else valueAt r j := by
  unfold stored
  split
  · rename_i h; rw [valueAt_map, h, if_pos rfl]
  · rename_i h
    rw [valueAt_app]
    rw [any_valueAt] at h
    by_cases e : j = k
    · subst e; rw [if_neg h, if_pos rfl, if_pos rfl]
    · rw [if_neg e, if_neg e]; cases valueAt r j <;> rfl
theorem valueAt_without {r : List (Int × Value)} {k j : Int} : valueAt (without r k) j = if j = k then none else valueAt r j := by
  unfold without valueAt
  induction r with
  | nil => simp
  | cons x r ih =>
    rw [List.filter_cons, List.find?_cons]
    by_cases e : x.1 = k
    · rw [if_neg (by simpa using e), ih]
      by_cases e' : j = k
      · rw [if_pos e', if_pos e']
      · rw [if_neg e', if_neg e', decide_eq_false (fun q => e' (q.symm.trans e))]
    · rw [if_pos (by simpa using e), List.find?_cons]
      by_cases e' : x.1 = j
      · rw [decide_eq_true e']; rw [if_neg (fun q => e (e'.trans q))]
      · rw [decide_eq_false e']; exact ih
theorem keys_stored_old {r : List (Int × Value)} {k : Int} {v : Value} (h : (valueAt r k).isSome = true) : (stored r k v).map (·.1) = r.map (·.1) := by
  unfold stored
  rw [if_pos (by rw [any_valueAt, h]), List.map_map]
  refine List.map_congr_left fun x _ => ?_
  dsimp only [Function.comp]
  split <;> rfl
theorem keys_stored_new {r : List (Int × Value)} {k : Int} {v : Value} (h : valueAt r k = none) : (stored r k v).map (·.1) = r.map (·.1) ++ [k] := by
  unfold stored
  rw [if_neg (by rw [any_valueAt, h]; simp), List.map_append]; rfl
theorem keys_without {r : List (Int × Value)} {k : Int} : (without r k).map (·.1) = (r.map (·.1)).filter fun x => decide (x ≠ k) := by
  unfold without
  induction r with
  | nil => rfl
  | cons x r ih =>
    rw [List.filter_cons, List.map_cons, List.filter_cons]
    by_cases e : x.1 = k
    · rw [if_neg (by simpa using e), if_neg (by simpa using e), ih]
    · rw [if_pos (by simpa using e), if_pos (by simpa using e), List.map_cons, ih]
theorem valueAt_mem {r : List (Int × Value)} {k : Int} : (valueAt r k).isSome = true ↔ k ∈ r.map (·.1) := by
  rw [← any_valueAt, List.any_eq_true, List.mem_map]
  exact ⟨fun ⟨x, h, e⟩ => ⟨x, h, by simpa using e⟩, fun ⟨x, h, e⟩ => ⟨x, h, by simpa using e⟩⟩

abbrev unitsOf (ks : List Int) : List (Int × Value) := ks.map fun k => (k, .none)
theorem units_keys {ks : List Int} : (unitsOf ks).map (·.1) = ks := by induction ks with
  | nil => rfl
  | cons k ks ih => exact congrArg (k :: ·) ih
theorem units_stored {ks : List Int} {k : Int} (h : k ∉ ks) : stored (unitsOf ks) k .none = unitsOf (ks ++ [k]) := by
  unfold stored
  rw [if_neg]
  · simp [unitsOf]
  · rw [any_valueAt, valueAt_mem, units_keys]; exact h
theorem units_without {ks : List Int} {k : Int} : without (unitsOf ks) k = unitsOf (ks.filter fun x => decide (x ≠ k)) := by
  unfold without unitsOf
  rw [List.filter_map]; rfl
theorem units_mem {ks : List Int} {k : Int} : (valueAt (unitsOf ks) k).isSome = true ↔ k ∈ ks := by rw [valueAt_mem, units_keys]

theorem perm_out {ks : List Int} {k : Int} (h : ks.Nodup) (hk : k ∈ ks) : ks.Perm (k :: ks.filter fun x => decide (x ≠ k)) := by
  induction ks with
  | nil => cases hk
  | cons x ks ih =>
    rw [List.nodup_cons] at h
    rw [List.filter_cons]
    by_cases e : x = k
    · subst e
      rw [if_neg (by simp)]
      rw [List.filter_eq_self.mpr fun y hy => by simpa using nem hy h.1]
    · rw [if_pos (by simpa using e)]
      rcases List.mem_cons.mp hk with q | q
      · exact absurd q.symm e
      · exact ((ih h.2 q).cons x).trans (List.Perm.swap _ _ _)

/-- what becomes of the links when a key is touched -/
def dropE (c : Int) (ks : List Int) : List (Int × List Int) := if ks.isEmpty then [] else [(c, ks)]
def outOf (k : Int) (ks : List Int) : List Int := ks.filter fun x => decide (x ≠ k)
def stepM (k c : Int) (ks : List Int) : List (Int × List Int) → List (Int × List Int)
  | (c2, ks2) :: r => if c2 = c + 1 then dropE c (outOf k ks) ++ (c2, ks2 ++ [k]) :: r
      else if ks.length = 1 then (c + 1, ks) :: (c2, ks2) :: r else dropE c (outOf k ks) ++ (c + 1, [k]) :: (c2, ks2) :: r
  | [] => if ks.length = 1 then [(c + 1, ks)] else dropE c (outOf k ks) ++ [(c + 1, [k])]
def TouchR (k : Int) (M M' : List (Int × List Int)) : Prop := ∃ pre c ks r, M = pre ++ (c, ks) :: r ∧ k ∈ ks ∧ M' = pre ++ stepM k c ks r

-- the ring under the steps
theorem Sh.upd {st : St} {rt x : Nd} {pre post : List Nd} {f : Nd → Nd} (h : Sh st rt (pre ++ x :: post)) (hf : (f x).a = x.a) : Sh (updN st x.a f) rt (pre ++ f x :: post) := by
  have hn := h.nod
  have key : ∀ y ∈ rt :: (pre ++ post), y.a ≠ x.a := fun y hy e => by
    rw [List.map_cons, List.map_append, List.map_cons, List.nodup_cons, List.nodup_append, List.nodup_cons] at hn
    obtain ⟨n1, n2, ⟨n3, n4⟩, n5⟩ := hn
    rcases List.mem_cons.mp hy with rfl | hy
    · exact n1 (by rw [e]; exact List.mem_append_right _ (.head _))
    · rcases List.mem_append.mp hy with hy | hy
      · exact n5 y.a (List.mem_map_of_mem hy) x.a (.head _) e
      · exact n3 (by rw [← e]; exact List.mem_map_of_mem hy)
  have stay : ∀ y ∈ rt :: (pre ++ post), y ∈ st.nodes → y ∈ (updN st x.a f).nodes := fun y hy hm => List.mem_map.mpr ⟨y, hm, if_neg (key y hy)⟩
  have ea : (pre ++ f x :: post).map (·.a) = (pre ++ x :: post).map (·.a) := by simp only [List.map_append, List.map_cons, hf]
  refine ⟨stay rt (.head _) h.rtm, fun y hy => ?_, by rw [List.map_cons, ea]; exact hn, by rw [ea]; exact h.ring, h.rt0⟩
  rcases List.mem_append.mp hy with hy | hy
  · exact stay y (.tail _ (List.mem_append_left _ hy)) (h.chm y (List.mem_append_left _ hy))
  · rcases List.mem_cons.mp hy with rfl | hy
    · exact updN_mem (h.chm x (List.mem_append_right _ (.head _))) rfl
    · exact stay y (.tail _ (List.mem_append_right _ hy)) (h.chm y (List.mem_append_right _ (.tail _ hy)))
theorem last_of {α : Type} : ∀ (x : α) (l : List α), ∃ X p, x :: l = X ++ [p]
  | x, [] => ⟨[], x, rfl⟩
  | x, y :: l => let ⟨X, p, e⟩ := last_of y l; ⟨x :: X, p, by rw [e]; rfl⟩
/-- who stands ahead of and behind a place of the ring -/
theorem Sh.places {st : St} {rt : Nd} {pre post : List Nd} (h : Sh st rt (pre ++ post)) : ∃ X p q Y, rt :: pre = X ++ [p] ∧ post ++ [rt] = q :: Y ∧ p ∈ st.nodes ∧ q ∈ st.nodes := by
  obtain ⟨X, p, e⟩ := last_of rt pre
  have e2 : ∃ q Y, post ++ [rt] = q :: Y := by cases post with
    | nil => exact ⟨_, _, rfl⟩
    | cons q post => exact ⟨_, _, rfl⟩
  obtain ⟨q, Y, e2⟩ := e2
  refine ⟨X, p, q, Y, e, e2, ?_, ?_⟩
  · have : p ∈ rt :: pre := by rw [e]; simp
    rcases List.mem_cons.mp this with r | r
    · exact r ▸ h.rtm
    · exact h.chm p (List.mem_append_left _ r)
  · have : q ∈ post ++ [rt] := by rw [e2]; exact .head _
    rcases List.mem_append.mp this with r | r
    · exact h.chm q (List.mem_append_right _ r)
    · rw [List.mem_singleton.mp r]; exact h.rtm
theorem ring_eq {rt : Nd} {pre post X Y : List Nd} {p q : Nd} (e : rt :: pre = X ++ [p]) (e2 : post ++ [rt] = q :: Y) : rt.a :: ((pre ++ post).map (·.a) ++ [rt.a]) = X.map (·.a) ++ p.a :: q.a :: Y.map (·.a) := by
  have : rt.a :: ((pre ++ post).map (·.a) ++ [rt.a]) = (rt :: pre ++ (post ++ [rt])).map (·.a) := by simp
  rw [this, e, e2]; simp
theorem ring_eq3 {rt d : Nd} {pre post X Y : List Nd} {p q : Nd} (e : rt :: pre = X ++ [p]) (e2 : post ++ [rt] = q :: Y) : rt.a :: ((pre ++ d :: post).map (·.a) ++ [rt.a]) = X.map (·.a) ++ p.a :: d.a :: q.a :: Y.map (·.a) := by
  have : rt.a :: ((pre ++ d :: post).map (·.a) ++ [rt.a]) = (rt :: pre ++ d :: (post ++ [rt])).map (·.a) := by simp
  rw [this, e, e2]; simp
theorem ring_apart {rt : Nd} {pre post X Y : List Nd} {p q : Nd} (hn : ((rt :: (pre ++ post)).map (·.a)).Nodup) (e : rt :: pre = X ++ [p]) (e2 : post ++ [rt] = q :: Y) :
    p.a ∉ X.map (·.a) ∧ p.a ∉ (q.a :: Y.map (·.a)).dropLast ∧ q.a ∉ (X.map (·.a) ++ [p.a]).tail ∧ q.a ∉ Y.map (·.a) := by
  have h1 : ((X ++ p :: post).map (·.a)).Nodup := by
    have : (rt :: (pre ++ post)) = X ++ p :: post := by rw [← List.cons_append, e]; simp
    rw [← this]; exact hn
  have h2 : ((pre ++ q :: Y).map (·.a)).Nodup := by
    rw [← e2, ← List.append_assoc]
    refine ((List.Perm.map _ (List.perm_append_comm (l₁ := pre ++ post) (l₂ := [rt]))).nodup_iff).mpr ?_
    exact hn
  have d1 : (q.a :: Y.map (·.a)).dropLast = post.map (·.a) := by
    have : q.a :: Y.map (·.a) = post.map (·.a) ++ [rt.a] := by rw [← List.map_cons, ← e2]; simp
    rw [this, List.dropLast_concat]
  have d2 : (X.map (·.a) ++ [p.a]).tail = pre.map (·.a) := by
    have : X.map (·.a) ++ [p.a] = rt.a :: pre.map (·.a) := by rw [← List.map_cons, e]; simp
    rw [this]; rfl
  rw [d1, d2]
  rw [List.map_append, List.map_cons, List.nodup_append, List.nodup_cons] at h1 h2
  refine ⟨fun q => h1.2.2 _ q _ (.head _) rfl, h1.2.1.1, fun q => h2.2.2 _ q _ (.head _) rfl, h2.2.1.1⟩
theorem Sh.out {st : St} {rt d p q : Nd} {pre post X Y : List Nd} (h : Sh st rt (pre ++ d :: post)) (e : rt :: pre = X ++ [p]) (e2 : post ++ [rt] = q :: Y) :
    Sh { st with nx := upA st.nx p.a q.a, pv := upA st.pv q.a p.a } rt (pre ++ post) := by
  have hn : ((rt :: (pre ++ post)).map (·.a)).Nodup := by
    refine List.Nodup.sublist ?_ h.nod
    exact List.Sublist.map _ ((List.Sublist.append (List.Sublist.refl _) (List.sublist_cons_self _ _)).cons_cons _)
  obtain ⟨a1, a2, a3, a4⟩ := ring_apart hn e e2
  refine ⟨h.rtm, fun y hy => h.chm y ?_, hn, ?_, h.rt0⟩
  · rcases List.mem_append.mp hy with hy | hy
    · exact List.mem_append_left _ hy
    · exact List.mem_append_right _ (.tail _ hy)
  · have := h.ring
    rw [ring_eq3 e e2] at this
    rw [ring_eq e e2]
    exact this.out a1 a2 a3 a4
theorem Sh.nbrs {st : St} {rt d p q : Nd} {pre post X Y : List Nd} (h : Sh st rt (pre ++ d :: post)) (e : rt :: pre = X ++ [p]) (e2 : post ++ [rt] = q :: Y) : st.pv d.a = p.a ∧ st.nx d.a = q.a := by
  have := h.ring
  rw [ring_eq3 e e2] at this
  have := this.split.2
  exact ⟨this.1.2, this.2.1.1⟩
theorem Sh.next {st : St} {rt p q : Nd} {pre post X Y : List Nd} (h : Sh st rt (pre ++ post)) (e : rt :: pre = X ++ [p]) (e2 : post ++ [rt] = q :: Y) : st.nx p.a = q.a ∧ st.pv q.a = p.a := by
  have := h.ring
  rw [ring_eq e e2] at this
  exact this.split.2.1
def addN (st : St) (y : Nd) (p q : Addr) : St := { st with nodes := y :: st.nodes, nx := upA (upA st.nx p y.a) y.a q, pv := upA (upA st.pv q y.a) y.a p }
theorem Sh.ins {st : St} {rt y p q : Nd} {pre post X Y : List Nd} (h : Sh st rt (pre ++ post)) (e : rt :: pre = X ++ [p]) (e2 : post ++ [rt] = q :: Y) (hy : ∀ nd ∈ st.nodes, nd.a ≠ y.a) :
    Sh (addN st y p.a q.a) rt (pre ++ y :: post) := by
  obtain ⟨a1, a2, a3, a4⟩ := ring_apart h.nod e e2
  have hin : ∀ x ∈ rt :: (pre ++ post), x.a ≠ y.a := fun x hx => by
    rcases List.mem_cons.mp hx with rfl | hx
    · exact hy _ h.rtm
    · exact hy _ (h.chm _ hx)
  have m1 : ∀ x ∈ X ++ [p], x ∈ rt :: (pre ++ post) := fun x hx => by rw [← e] at hx; rw [← List.cons_append]; exact List.mem_append_left _ hx
  have m2 : ∀ x ∈ q :: Y, x ∈ rt :: (pre ++ post) := fun x hx => by
    rw [← e2] at hx
    rcases List.mem_append.mp hx with hx | hx
    · exact .tail _ (List.mem_append_right _ hx)
    · rw [List.mem_singleton.mp hx]; exact .head _
  have r := h.ring
  rw [ring_eq e e2] at r
  refine ⟨.tail _ h.rtm, fun x hx => ?_, ?_, ?_, h.rt0⟩
  · rcases List.mem_append.mp hx with hx | hx
    · exact .tail _ (h.chm _ (List.mem_append_left _ hx))
    · rcases List.mem_cons.mp hx with rfl | hx
      · exact .head _
      · exact .tail _ (h.chm _ (List.mem_append_right _ hx))
  · have hp : (rt :: (pre ++ y :: post)).Perm (y :: rt :: (pre ++ post)) := ((List.perm_middle).cons rt).trans (List.Perm.swap _ _ _)
    refine ((hp.map _).nodup_iff).mpr ?_
    rw [List.map_cons, List.nodup_cons]
    refine ⟨fun hm => ?_, h.nod⟩
    obtain ⟨x, hx, ex⟩ := List.mem_map.mp hm
    exact hin x hx ex
  · rw [ring_eq3 e e2]
    refine r.ins a1 a2 a3 a4 (fun hm => ?_) (fun q' => ?_) (fun q' => ?_) fun hm => ?_
    · obtain ⟨x, hx, ex⟩ := List.mem_map.mp hm
      exact hin x (m1 x (List.mem_append_left _ hx)) ex
    · exact hin p (m1 p (by simp)) q'.symm
    · exact hin q (m2 q (.head _)) q'.symm
    · obtain ⟨x, hx, ex⟩ := List.mem_map.mp hm
      exact hin x (m2 x (.tail _ hx)) ex
end Mine
end
section
open PySem PySem.W PySem.Calls PyProof.Rows
set_option Elab.async false
set_option maxRecDepth 100000
set_option linter.unusedVariables false
namespace Mine
section
variable (P : Params)
theorem kl_926 : (K P).lookup 926 = some o926 := by kernel_rfl
theorem kc_926 : codeIn (K P) (.ref 925) "LFUCache.__touch" = true := by kernel_rfl
theorem lk_unl : findIn (K P) (.ref 867) "unlink" = some (some (.ref 863)) := by kernel_rfl
theorem lk_fn863 : isFn (K P) (.ref 863) = true := by kernel_rfl
theorem kp_863 : keepIn (K P) (.ref 863) = true := by kernel_rfl
end
theorem Sh.oL {st : St} {rt : Nd} {ch : List Nd} (h : Sh st rt ch) (o : Obj) : Sh { st with oL := o } rt ch := ⟨h.rtm, h.chm, h.nod, h.ring, h.rt0⟩
abbrev gOf (nd : Nd) : Int × List Int := (nd.cnt, nd.keys)
abbrev setK (o : Obj) (ks : List Int) : Nd → Nd := fun x => { x with oK := o, keys := ks }
theorem CI.key_len {prog : Program} {w : World} {st : St} {ab : Ab} {cur : Int} {rt : Nd} {ch : List Nd} (ci : CI prog w st ab cur rt ch) (ok : (ab.M.flatMap (·.2)).length ≤ 5) {nd : Nd} (h : nd ∈ ch) : nd.keys.length ≤ 5 := by
  rw [← ci.M] at ok
  refine Nat.le_trans (List.Sublist.length_le ?_) ok
  have : (nd.cnt, nd.keys) ∈ ch.map gOf := List.mem_map_of_mem h
  obtain ⟨a, b, e⟩ := List.append_of_mem this
  show List.Sublist nd.keys ((ch.map gOf).flatMap (·.2))
  rw [e, List.flatMap_append, List.flatMap_cons]
  exact (List.sublist_append_left _ _).trans (List.sublist_append_right _ _)
theorem flat_dropE {c : Int} {ks : List Int} : (dropE c ks).flatMap (·.2) = ks := by
  unfold dropE
  cases ks <;> simp
theorem Sh.around {st : St} {rt d : Nd} {pre post : List Nd} (h : Sh st rt (pre ++ d :: post)) : ∃ X p q Y, rt :: pre = X ++ [p] ∧ post ++ [rt] = q :: Y ∧ p ∈ st.nodes ∧ q ∈ st.nodes ∧ st.pv d.a = p.a ∧ st.nx d.a = q.a := by
  obtain ⟨X, p, e⟩ := last_of rt pre
  have e2 : ∃ q Y, post ++ [rt] = q :: Y := by cases post with
    | nil => exact ⟨_, _, rfl⟩
    | cons q post => exact ⟨_, _, rfl⟩
  obtain ⟨q, Y, e2⟩ := e2
  have nb := h.nbrs e e2
  refine ⟨X, p, q, Y, e, e2, ?_, ?_, nb⟩
  · have : p ∈ rt :: pre := by rw [e]; simp
    rcases List.mem_cons.mp this with r | r
    · exact r ▸ h.rtm
    · exact h.chm p (List.mem_append_left _ r)
  · have : q ∈ post ++ [rt] := by rw [e2]; exact .head _
    rcases List.mem_append.mp this with r | r
    · exact h.chm q (List.mem_append_right _ (.tail _ r))
    · rw [List.mem_singleton.mp r]; exact h.rtm
section
variable {prog : Program} {w : World} {A : Around} {g base : Heap} {outer : List Env} {L : Addr} {E : Value → Heap → Prop} {m : Loc} {n : Nat} {env : Env} {st : St} {rest : FP} {ab : Ab} {cur : Int} {rt nd qn : Nd} {pre post ch : List Nd}

noncomputable abbrev env926 (L : Addr) : Env := envX "LFUCache.__touch" f926.1.2.2 L 926 (.ref 925) []
theorem touch_tail {key : Int} {t : Tok} {Q : Flow → Loc → FP → Prop} (cx : Cx w base outer g L A (env926 L) (n + 1)) (hw : WF st rest) (ci : CI prog w st ab cur rt (pre ++ nd :: qn :: post))
    (nod : (ab.M.flatMap (·.2)).Nodup) (len : (ab.M.flatMap (·.2)).length ≤ 5) (hk : key ∈ nd.keys)
    (h1 : m "self" = some (.ref st.c)) (h2 : m "link" = some (.ref nd.a)) (h3 : m "curr" = some (.ref qn.a)) (h4 : m "key" = some (.int key t))
    (h : ∀ st' ch', Same st' st → WF st' rest → CI prog w st' { ab with M := pre.map gOf ++ (dropE nd.cnt (outOf key nd.keys) ++ (qn.cnt, qn.keys ++ [key]) :: post.map gOf) } cur rt ch' → Q .next m (objs st' ++ rest)) :
    Op prog w A g L E (execs (List.drop 3 f926.1.2.1) (env926 L)) Q m (objs st ++ rest) := by
  have eM := ci.M
  rw [List.map_append, List.map_cons, List.map_cons] at eM
  have hM : ab.M.flatMap (·.2) = (pre.map gOf).flatMap (·.2) ++ (nd.keys ++ (qn.keys ++ (post.map gOf).flatMap (·.2))) := by
    rw [← eM, List.flatMap_append, List.flatMap_cons, List.flatMap_cons]
  have nod0 := nod
  rw [hM] at nod
  have n1 := List.nodup_append.mp nod
  have n2 := List.nodup_append.mp n1.2.1
  have kq : key ∉ qn.keys := fun q => n2.2.2 key hk key (List.mem_append_left _ q) rfl
  have kpost : ∀ x ∈ post, key ∉ x.keys := fun x hx q => n2.2.2 key hk key (List.mem_append_right _ (List.mem_flatMap.mpr ⟨gOf x, List.mem_map_of_mem hx, q⟩)) rfl
  have kpre : ∀ x ∈ pre, key ∉ x.keys := fun x hx q => n1.2.2 key (List.mem_flatMap.mpr ⟨gOf x, List.mem_map_of_mem hx, q⟩) key (List.mem_append_left _ hk) rfl
  have hnd : nd ∈ pre ++ nd :: qn :: post := by simp
  have hqn : qn ∈ pre ++ nd :: qn :: post := by simp
  have ln := ci.key_len len hnd
  have lq := ci.key_len len hqn
  have hne : nd.a ≠ qn.a := fun e => by
    have := ci.sh.nod
    rw [List.map_cons, List.map_append, List.map_cons, List.map_cons, List.nodup_cons, List.nodup_append, List.nodup_cons] at this
    exact this.2.2.1.1 (e ▸ .head _)
  -- curr.keys[key] = None
  refine o_cons (o_assignSub (o_none (o_attr (o_loc h3 (s_keys cx (ci.sh.chm _ hqn) (o_loc h4 (o_setItem (m_keys (ci.sh.chm _ hqn)) (ci.kd _ hqn).1 (by rw [List.length_map]; omega) fun oq hoq => ?_)))))))
  rw [units_stored kq] at hoq
  refine to_keys (ks := qn.keys ++ [key]) hw (ci.sh.chm _ hqn) ?_
  have ea : pre ++ nd :: qn :: post = (pre ++ [nd]) ++ qn :: post := by simp
  have sh1 : Sh (updN st qn.a (setK oq (qn.keys ++ [key]))) rt (pre ++ nd :: setK oq (qn.keys ++ [key]) qn :: post) := by
    have := Sh.upd (f := setK oq (qn.keys ++ [key])) (ea ▸ ci.sh) rfl
    simpa using this
  have hw1 : WF (updN st qn.a (setK oq (qn.keys ++ [key]))) rest := hw.same (updN_addrs st qn.a fun _ => rfl)
  have m1 := sh1.chm nd (by simp)
  -- del link.keys[key]
  refine o_cons (o_delSub (o_attr (o_loc h2 (s_keys cx m1 (o_loc h4 (o_delItem (m_keys m1) (ci.kd _ hnd).1 (by rw [units_mem]; exact hk) (by rw [List.length_map]; omega) fun ok hok => ?_))))))
  rw [units_without] at hok
  refine to_keys (ks := outOf key nd.keys) hw1 m1 ?_
  have sh2 : Sh (updN (updN st qn.a (setK oq (qn.keys ++ [key]))) nd.a (setK ok (outOf key nd.keys))) rt (pre ++ setK ok (outOf key nd.keys) nd :: setK oq (qn.keys ++ [key]) qn :: post) :=
    Sh.upd (f := setK ok (outOf key nd.keys)) sh1 rfl
  have hw2 : WF (updN (updN st qn.a (setK oq (qn.keys ++ [key]))) nd.a (setK ok (outOf key nd.keys))) rest := hw1.same (updN_addrs _ nd.a fun _ => rfl)
  have m2 := sh2.chm (setK ok (outOf key nd.keys) nd) (by simp)
  -- if not link.keys: link.unlink()
  have hcore : ∀ st' ch', st'.c = st.c → st'.oL = st.oL → st'.lA = st.lA → WF st' rest → (∀ o, Sh { st' with oL := o } rt ch') → st'.es = st.es → st'.sz = st.sz → st'.dA = st.dA → st'.oD = st.oD →
      ch' = pre ++ (if (outOf key nd.keys).isEmpty then [] else [setK ok (outOf key nd.keys) nd]) ++ setK oq (qn.keys ++ [key]) qn :: post →
      Op prog w A g L E (execs (List.drop 6 f926.1.2.1) (env926 L)) Q m (objs st' ++ rest) := by
    intro st' ch' ec eoL elA hw' sh' ees esz edA eoD ech
    obtain ⟨kv, hkv, lo, hat, hperm⟩ := ci.hL
    have hlen : kv.length ≤ 1000 := by
      have := hperm.length_eq
      rw [List.length_map] at this; omega
    have hdc : m "self" = some (.ref st'.c) := by rw [h1, ec]
    obtain ⟨tc, tm, att⟩ := ci.att
    have att' : Att 7 st'.es (attF (st'.sz.map (·.1)) st'.dA rt.a st'.lA cur tc ab.room tm) := by rw [ees, esz, edA, elA]; exact att
    refine o_cons (o_assignSub (o_loc h3 (o_attr (o_loc hdc (s_get cx (kf_links _) (kf_noget _) att' rfl rfl (o_loc h4 (o_setItem (o := st'.oL) m_lA (eoL ▸ hkv) hlen fun o' ho' => to_lnk hw' (o_nil ?_))))))))
    have hks : (valueAt kv key).isSome = true := by rw [hat nd hnd key hk]; rfl
    have hpm : (ab.M.flatMap (·.2)).Perm ((pre.map gOf ++ (dropE nd.cnt (outOf key nd.keys) ++ (qn.cnt, qn.keys ++ [key]) :: post.map gOf)).flatMap (·.2)) := by
      rw [hM, List.flatMap_append, List.flatMap_append, List.flatMap_cons, flat_dropE]
      refine List.Perm.append_left _ ?_
      refine ((perm_out n2.1 hk).append_right _).trans ?_
      show (key :: (outOf key nd.keys ++ (qn.keys ++ _))).Perm (outOf key nd.keys ++ ((qn.keys ++ [key]) ++ _))
      have : outOf key nd.keys ++ ((qn.keys ++ [key]) ++ (post.map gOf).flatMap (·.2)) = (outOf key nd.keys ++ qn.keys) ++ key :: (post.map gOf).flatMap (·.2) := by simp
      rw [this, ← List.append_assoc]
      exact List.perm_middle.symm
    refine h { st' with oL := o' } ch' ⟨ec, edA, congrArg _ esz⟩ hw' ⟨⟨tc, tm, att'⟩, sh' o', ?_, ?_, ⟨_, ho', elA ▸ lo, ?_, ?_⟩, ?_, ?_⟩
    · intro x hx
      rw [ech] at hx
      rcases List.mem_append.mp hx with hx | hx
      · rcases List.mem_append.mp hx with hx | hx
        · exact ci.kd x (List.mem_append_left _ hx)
        · by_cases em : (outOf key nd.keys).isEmpty = true
          · rw [if_pos em] at hx; cases hx
          · rw [if_neg em] at hx
            rw [List.mem_singleton.mp hx]; exact ⟨hok, (ci.kd nd hnd).2⟩
      · rcases List.mem_cons.mp hx with hx | hx
        · rw [hx]; exact ⟨hoq, (ci.kd qn hqn).2⟩
        · exact ci.kd x (List.mem_append_right _ (.tail _ (.tail _ hx)))
    · rw [ech]
      show _ = pre.map gOf ++ (dropE nd.cnt (outOf key nd.keys) ++ (qn.cnt, qn.keys ++ [key]) :: post.map gOf)
      unfold dropE
      by_cases em : (outOf key nd.keys).isEmpty = true
      · rw [if_pos em, if_pos em]; simp
      · rw [if_neg em, if_neg em]; simp
    · intro x hx k hkx
      rw [valueAt_stored]
      rw [ech] at hx
      rcases List.mem_append.mp hx with hx | hx
      · rcases List.mem_append.mp hx with hx | hx
        · rw [if_neg (nem hkx (kpre x hx))]; exact hat x (List.mem_append_left _ hx) k hkx
        · by_cases em : (outOf key nd.keys).isEmpty = true
          · rw [if_pos em] at hx; cases hx
          · rw [if_neg em] at hx
            have hx := List.mem_singleton.mp hx
            subst hx
            have q := List.mem_filter.mp hkx
            rw [if_neg (by simpa using q.2)]; exact hat nd hnd k q.1
      · rcases List.mem_cons.mp hx with hx | hx
        · subst hx
          rcases List.mem_append.mp hkx with q | q
          · rw [if_neg (nem q kq)]; exact hat qn hqn k q
          · rw [if_pos (List.mem_singleton.mp q)]
        · rw [if_neg (nem hkx (kpost x hx))]; exact hat x (List.mem_append_right _ (.tail _ (.tail _ hx))) k hkx
    · rw [keys_stored_old hks]; exact hperm.trans hpm
    · have := ci.hD; show ∃ kv, IsD prog w st'.oD kv ∧ (st'.dA == sysModules) = false ∧ _; rw [eoD, edA]; exact this
    · have := ci.hS; show match st'.sz with | some (sA, oS) => _ | none => _; rw [esz]; exact this
  refine o_cons (o_if (o_isTrueNot (o_isTrue (o_attr (o_loc h2 (s_keys (nd := setK ok (outOf key nd.keys) nd) cx m2 (o_truthyDict (m_keys m2) hok (ci.kd _ hnd).2 (by rw [List.length_map]; exact Nat.le_trans (List.length_filter_le _ _) (by omega)) ?_)))))))
  by_cases em : (outOf key nd.keys).isEmpty = true
  · have : (!(!(unitsOf (outOf key nd.keys)).isEmpty)) = true := by rw [Bool.not_not, List.isEmpty_map]; exact em
    show if (!(!(unitsOf (outOf key nd.keys)).isEmpty)) = true then _ else _
    rw [if_pos this]
    obtain ⟨X, p, q, Y, e1, e2, hp, hq, ep, eq⟩ := sh2.around
    have sh3 := sh2.out e1 e2
    refine o_cons (o_exprStmt (o_methodCall _ (o_loc h2 (o_meth cx (m_link (nd := setK ok (outOf key nd.keys) nd) m2) (m_ld (nd := setK ok (outOf key nd.keys) nd) m2) (lk_pg _ _) (lk_unl _) (lk_fn863 _) rfl (o_callK0 cx (kp_863 _) (unlink_spec (nd := setK ok (outOf key nd.keys) nd) cx hw2 m2 hp hq ep eq (o_nil ?_)))))))
    exact hcore _ _ rfl rfl rfl hw2 (fun o => sh3.oL o) rfl rfl rfl rfl (by rw [if_pos em]; simp)
  · have : ¬ (!(!(unitsOf (outOf key nd.keys)).isEmpty)) = true := by rw [Bool.not_not, List.isEmpty_map]; exact em
    show if (!(!(unitsOf (outOf key nd.keys)).isEmpty)) = true then _ else _
    rw [if_neg this]
    exact o_nil (hcore _ _ rfl rfl rfl hw2 (fun o => sh2.oL o) rfl rfl rfl rfl (by rw [if_neg em]; simp))
end
end Mine
end
section
open PySem PySem.W PySem.Calls PyProof.Rows
set_option Elab.async false
set_option maxRecDepth 100000
set_option linter.unusedVariables false
namespace Mine
section
variable {prog : Program} {w : World} {A : Around} {g base : Heap} {outer : List Env} {L : Addr} {E : Value → Heap → Prop} {m : Loc} {α : Type} {tr : Sem α} {Q : α → Loc → FP → Prop} {st : St} {rest : FP}

theorem to_raw {d : Addr} {o o' : Obj} (hw : WF st ((d, o) :: rest)) (h : Op prog w A g L E tr Q m (objs st ++ (d, o') :: rest)) : Op prog w A g L E tr Q m (put d o' (objs st ++ (d, o) :: rest)) :=
  Op.weaken h (put_covers (WF.nodup (st := st) (rest := (d, o') :: rest) hw) (List.mem_append_right _ (.head _)) fun p hp e => by
    rcases List.mem_append.mp hp with hp | hp
    · exact List.mem_append_left _ hp
    · rcases List.mem_cons.mp hp with rfl | hp
      · exact absurd rfl e
      · exact List.mem_append_right _ (.tail _ hp))
theorem WF.of_fresh (hw : WF st rest) {y dy ky : Addr} {o1 o2 o3 : Obj} (f : ∀ p ∈ objs st ++ rest, p.1 < dy) (l1 : dy < y) (l2 : y < ky) : WF st ((y, o1) :: (dy, o2) :: (ky, o3) :: rest) := by
  have f1 : ∀ a ∈ addrs' st ++ rest.map (·.1), a < dy := fun a ha => by
    rw [← objs_addrs, ← List.map_append] at ha
    obtain ⟨p, hp, rfl⟩ := List.mem_map.mp ha
    exact f p hp
  unfold WF at hw ⊢
  have e : (addrs' st ++ List.map (·.1) ((y, o1) :: (dy, o2) :: (ky, o3) :: rest)).Perm (y :: dy :: ky :: (addrs' st ++ rest.map (·.1))) := by
    show (addrs' st ++ ([y, dy, ky] ++ rest.map (·.1))).Perm ([y, dy, ky] ++ (addrs' st ++ rest.map (·.1)))
    rw [← List.append_assoc, ← List.append_assoc]
    exact List.Perm.append_right _ List.perm_append_comm
  refine (e.nodup_iff).mpr ?_
  rw [List.nodup_cons, List.nodup_cons, List.nodup_cons]
  refine ⟨fun h => ?_, fun h => ?_, fun h => ?_, hw⟩
  · rcases List.mem_cons.mp h with q | h
    · exact Nat.ne_of_gt l1 q
    · rcases List.mem_cons.mp h with q | h
      · exact Nat.ne_of_lt l2 q
      · exact Nat.lt_asymm l1 (f1 y h)
  · rcases List.mem_cons.mp h with q | h
    · exact Nat.ne_of_lt (Nat.lt_trans l1 l2) q
    · exact Nat.lt_irrefl _ (f1 dy h)
  · exact Nat.lt_asymm (Nat.lt_trans l1 l2) (f1 ky h)
theorem WF.apart {st : St} {y : Addr} {o : Obj} {r : FP} (hw : WF st ((y, o) :: r)) {a : Addr} (ha : a ∈ addrs' st) : a ≠ y := fun e => by
  unfold WF at hw
  exact (List.nodup_append.mp hw).2.2 a ha y (.head _) e
theorem nd_addr {st : St} {nd : Nd} (h : nd ∈ st.nodes) : nd.a ∈ addrs' st :=
  .tail _ (.tail _ (.tail _ (.tail _ (List.mem_append_right _ (List.mem_flatMap.mpr ⟨nd, h, .head _⟩)))))
theorem WF.add {st : St} {yn : Nd} {o1 o2 o3 : Obj} {p q : Addr} (hw : WF st ((yn.a, o1) :: (yn.da, o2) :: (yn.ka, o3) :: rest)) : WF (addN st yn p q) rest := by
  unfold WF at hw ⊢
  have e : (addrs' st ++ List.map (·.1) ((yn.a, o1) :: (yn.da, o2) :: (yn.ka, o3) :: rest)).Perm (addrs' (addN st yn p q) ++ rest.map (·.1)) := by
    show (addrs' st ++ ([yn.a, yn.da, yn.ka] ++ rest.map (·.1))).Perm _
    rw [← List.append_assoc]
    refine List.Perm.append_right _ ?_
    show (st.c :: st.dc :: st.dA :: st.lA :: (_ ++ _) ++ [yn.a, yn.da, yn.ka]).Perm (st.c :: st.dc :: st.dA :: st.lA :: (_ ++ ([yn.a, yn.da, yn.ka] ++ _)))
    rw [List.cons_append, List.cons_append, List.cons_append, List.cons_append, List.append_assoc]
    exact ((((List.Perm.append_left _ List.perm_append_comm).cons _).cons _).cons _).cons _
  exact (e.nodup_iff).mp hw
theorem to_add {yn : Nd} {p q : Addr} (hw : WF st ((yn.a, linkO yn.da yn.ka (some (.ref p)) (some (.ref q)) yn.cnt yn.tk) :: (yn.da, dictOf [] 0) :: (yn.ka, yn.oK) :: rest))
    (h : Op prog w A g L E tr Q m (objs (addN st yn p q) ++ rest)) :
    Op prog w A g L E tr Q m (objs { st with nx := upA st.nx p yn.a, pv := upA st.pv q yn.a } ++ (yn.a, linkO yn.da yn.ka (some (.ref p)) (some (.ref q)) yn.cnt yn.tk) :: (yn.da, dictOf [] 0) :: (yn.ka, yn.oK) :: rest) :=
  Op.weaken h fun x hx => by
    rcases List.mem_append.mp hx with hx | hx
    · rcases mem_objs.mp hx with h | h | h | h | h | ⟨nd, hn, hq⟩
      · exact List.mem_append_left _ (mem_objs.mpr (.inl h))
      · exact List.mem_append_left _ (mem_objs.mpr (.inr (.inl h)))
      · exact List.mem_append_left _ (mem_objs.mpr (.inr (.inr (.inl h))))
      · exact List.mem_append_left _ (mem_objs.mpr (.inr (.inr (.inr (.inl h)))))
      · exact List.mem_append_left _ (mem_objs.mpr (.inr (.inr (.inr (.inr (.inl h))))))
      · rcases List.mem_cons.mp hn with rfl | hn
        · refine List.mem_append_right _ ?_
          rcases mem_nd.mp hq with q | q | q
          · dsimp only [addN, upA] at q
            rw [if_pos rfl, if_pos rfl] at q
            rw [q]; exact .head _
          · rw [q]; exact .tail _ (.head _)
          · rw [q]; exact .tail _ (.tail _ (.head _))
        · have ne : nd.a ≠ yn.a := hw.apart (nd_addr hn)
          refine List.mem_append_left _ (mem_objs.mpr (.inr (.inr (.inr (.inr (.inr ⟨nd, hn, ?_⟩))))))
          rcases mem_nd.mp hq with q | q | q
          · refine mem_nd.mpr (.inl ?_)
            dsimp only [addN] at q
            rw [show upA (upA st.nx p yn.a) yn.a _ nd.a = upA st.nx p yn.a nd.a from if_neg ne, show upA (upA st.pv _ yn.a) yn.a p nd.a = _ from if_neg ne] at q
            exact q
          · exact mem_nd.mpr (.inr (.inl q))
          · exact mem_nd.mpr (.inr (.inr q))
    · exact List.mem_append_right _ (.tail _ (.tail _ (.tail _ hx)))
end
end Mine
end
section
open PySem PySem.W PySem.Calls PyProof.Rows
set_option Elab.async false
set_option maxRecDepth 100000
set_option linter.unusedVariables false
namespace Mine
section
variable (P : Params)
theorem kn_LFU : nsIn (K P) mainGlobals "LFUCache" = some (some (.ref 929)) := by kernel_rfl
theorem kn_Cache : nsIn (K P) mainGlobals "Cache" = some (some (.ref 830)) := by kernel_rfl
theorem kn_len : nsIn (K P) mainGlobals "len" = some none := by kernel_rfl
theorem kn_iter : nsIn (K P) mainGlobals "iter" = some none := by kernel_rfl
theorem kn_next : nsIn (K P) mainGlobals "next" = some none := by kernel_rfl
theorem kT_929 : typeIn (K P) (.ref 929) = some (.ref 89) := by kernel_rfl
theorem kr_929 : readsIn (K P) 929 (.ref 89) = true := by kernel_rfl
theorem kcl_Link : findCls (K P) (.ref 929) (.ref 89) "_Link" = some (.val (.ref 867)) := by kernel_rfl
theorem kg_929 : specialIn (K P) (.ref 929) "__getattribute__" = some (some (.builtin "type.__getattribute__")) := by kernel_rfl
theorem kp_867 : keepIn (K P) (.ref 867) = true := by kernel_rfl
end
section
variable {prog : Program} {w : World} {A : Around} {g base : Heap} {outer : List Env} {L : Addr} {E : Value → Heap → Prop} {m : Loc} {n : Nat} {env : Env} {st : St} {rest : FP} {ab : Ab} {cur : Int} {rt nd qn : Nd} {pre post ch : List Nd}

/-- a link made by name: LFUCache._Link(count) -/
theorem o_linkCall {pl : Sem Bool} {qn' : Str} {sc : Scope} {fa : Addr} {cd : Value} {e : PySem.Expr} {p1 p2 p3 : Pos} {fp : FP} {c : Int} {Q : Value → Loc → FP → Prop} (cx : Cx w base outer g L A env (n + 2))
    (he : ∀ Q' : Value → Loc → FP → Prop, (∀ t, Q' (.int c t) m fp) → Op prog w A g L E (eval e (envX qn' sc L fa cd [])) Q' m fp)
    (h : ∀ t y dy ky oK, (∀ p ∈ fp, p.1 < dy) → dy < y → y < ky → (ky == sysModules) = false → IsD prog w oK [] →
      Q (.ref y) m ((y, rawL dy #[some (.int c t), some (.ref ky)]) :: (dy, dictOf [] 0) :: (ky, oK) :: fp))
    (hk : sc.kind = .function := by rfl) (hx : (envX qn' sc L fa cd []).kindOf "LFUCache" = some .globalImplicit := by rfl)
    (hc : eval (.Call (.Attribute (.Name "LFUCache" p1) "_Link" p2) [e] [] p3) (envX qn' sc L fa cd []) = (do
      let ov ← eval (.Name "LFUCache" p1) (envX qn' sc L fa cd [])
      standAt p2.atName
      let (f, first) ← holding [ov] (getMethod ov "_Link" pl)
      callWith p3 f first (backTo p3 (starEach [e] (envX qn' sc L fa cd []))) (backToKw p3 (keywordEach [] (envX qn' sc L fa cd [])))) := by rfl)
    (hs : starEach [e] (envX qn' sc L fa cd []) = (false, eval e (envX qn' sc L fa cd [])) :: starEach [] (envX qn' sc L fa cd []) := by rfl) :
    Op prog w A g L E (eval (.Call (.Attribute (.Name "LFUCache" p1) "_Link" p2) [e] [] p3) (envX qn' sc L fa cd [])) Q m fp := by
  refine o_methodCall _ (o_glob cx (kn_LFU _) (o_methCls cx (kg_929 _) (o_clsVal cx (kT_929 _) (kr_929 _) (kcl_Link _) rfl (o_callK cx (kp_867 _) (o_argsCons (he _ fun t => o_argsNil (link_spec cx (h t))) hs) hs))) hk hx) hc

theorem touch_spec {key : Int} {t' : Tok} {Q : Value → Loc → FP → Prop} (cx : Cx w base outer g L A env (n + 4)) (hw : WF st rest) (ci : CI prog w st ab cur rt ch) (mok : MOK ab.M) (hk : key ∈ ab.M.flatMap (·.2))
    (h : ∀ st' ch' M', Same st' st → WF st' rest → CI prog w st' { ab with M := M' } cur rt ch' → TouchR key ab.M M' → Q .none m (objs st' ++ rest)) :
    Op prog w A g L E (call (.ref 926) [.ref st.c, .int key t']) Q m (objs st ++ rest) := by
  have eM := ci.M
  obtain ⟨nd, hnd, hkn⟩ : ∃ nd ∈ ch, key ∈ nd.keys := by
    obtain ⟨gr, hg, hkg⟩ := List.mem_flatMap.mp hk
    rw [← eM] at hg
    obtain ⟨nd, h1, h2⟩ := List.mem_map.mp hg
    exact ⟨nd, h1, by rw [← h2] at hkg; exact hkg⟩
  obtain ⟨pre, post, ech⟩ := List.append_of_mem hnd
  subst ech
  obtain ⟨X, p, q, Y, e1, e2, hp, hq, ep, eq⟩ := ci.sh.around
  obtain ⟨kv, hkv, lo, hat, hperm⟩ := ci.hL
  obtain ⟨tc, tm, att⟩ := ci.att
  have m1 := ci.sh.chm nd hnd
  have ln := ci.key_len mok.five hnd
  rw [List.map_append, List.map_cons] at eM
  refine o_call cx (kl_926 _) (kc_926 _) (fun s _ => BindsTo.of_eq rfl) (locs rfl) (by decide) fun g' L' E' cx' _ _ => ?_
  refine o_cons (o_assign (o_subscript (o_attr (o_loc rfl (s_get cx' (kf_links _) (kf_noget _) att rfl rfl (o_loc rfl (o_item m_lA hkv (hat nd hnd key hkn) (o_store ?_))))))))
  refine o_cons (o_assign (o_attr (o_loc rfl (s_next cx' m1 (o_store ?_)))))
  rw [eq]
  refine o_cons (o_if (o_isCompare (o_attr (o_loc rfl (s_count (nd := q) cx' hq (o_binop (o_attr (o_loc rfl (s_count cx' m1 (o_int fun _ => o_add fun _ => o_neI (o_truthyBool ?_)))))))))))
  by_cases hc : q.cnt = nd.cnt + 1
  · show if (q.cnt != nd.cnt + 1) = true then _ else _
    rw [if_neg (by simpa using hc)]
    have : ∃ post', post = q :: post' := by
      cases post with
      | nil =>
        have : q = rt := (List.cons.inj e2).1.symm
        have h0 := ci.sh.rt0
        have h1 := mok.pos (gOf nd) (by rw [← eM]; simp)
        rw [this, h0] at hc
        exfalso
        have h1 : 0 < nd.cnt := h1
        omega
      | cons x post' => exact ⟨post', by have := List.cons.inj e2; rw [this.1]⟩
    obtain ⟨post', rfl⟩ := this
    refine o_nil (touch_tail (n := n + 2) (key := key) (t := t') cx' hw ci mok.keys mok.five hkn rfl rfl rfl rfl fun st' ch' ec hw' ci' => h st' ch' _ ec hw' ci' ⟨pre.map gOf, nd.cnt, nd.keys, gOf q :: post'.map gOf, ?_, hkn, ?_⟩)
    · rw [← eM]; rfl
    · show _ = _ ++ stepM key nd.cnt nd.keys ((q.cnt, q.keys) :: post'.map gOf)
      simp only [stepM, if_pos hc]
  · show if (q.cnt != nd.cnt + 1) = true then _ else _
    rw [if_pos (by simpa using hc)]
    have hstep : stepM key nd.cnt nd.keys (post.map gOf) = if nd.keys.length = 1 then (nd.cnt + 1, nd.keys) :: post.map gOf else dropE nd.cnt (outOf key nd.keys) ++ (nd.cnt + 1, [key]) :: post.map gOf := by
      cases post with
      | nil => rfl
      | cons x post' =>
        have : x = q := (List.cons.inj e2).1
        subst this
        show (if x.cnt = nd.cnt + 1 then _ else _) = _
        rw [if_neg hc]; rfl
    refine o_cons (o_if (o_isCompare (o_nameCall (o_built cx' (kn_len _) rfl (by decide) (o_callB (o_argsCons (o_attr (o_loc rfl (s_keys cx' m1 (o_argsNil (o_len (m_keys m1) (ci.kd nd hnd).1 (ci.kd nd hnd).2 (by rw [List.length_map]; omega) fun _ => o_int fun _ => o_eqI (o_truthyBool ?_))))))))))))
    rw [List.length_map]
    by_cases h1 : nd.keys.length = 1
    · rw [if_pos (by rw [beq_iff_eq]; omega)]
      refine o_cons (o_augAttr (o_loc rfl (s_count cx' m1 (o_int fun _ => o_iadd fun tk => s_setCount cx' m1 (to_cnt hw m1 (o_cons (o_retNone ?_)))))))
      have sh1 : Sh (updN st nd.a fun x => { x with cnt := nd.cnt + 1, tk := tk }) rt (pre ++ { nd with cnt := nd.cnt + 1, tk := tk } :: post) := Sh.upd (f := fun x => { x with cnt := nd.cnt + 1, tk := tk }) ci.sh rfl
      have kdm : ∀ x ∈ pre ++ { nd with cnt := nd.cnt + 1, tk := tk } :: post, ∃ y ∈ pre ++ nd :: post, x.oK = y.oK ∧ x.keys = y.keys ∧ x.ka = y.ka ∧ x.a = y.a := fun x hx => by
        rcases List.mem_append.mp hx with hx | hx
        · exact ⟨x, List.mem_append_left _ hx, rfl, rfl, rfl, rfl⟩
        · rcases List.mem_cons.mp hx with rfl | hx
          · exact ⟨nd, hnd, rfl, rfl, rfl, rfl⟩
          · exact ⟨x, List.mem_append_right _ (.tail _ hx), rfl, rfl, rfl, rfl⟩
      refine h _ _ (pre.map gOf ++ (nd.cnt + 1, nd.keys) :: post.map gOf) ⟨rfl, rfl, rfl⟩ (hw.same (updN_addrs st nd.a fun _ => rfl)) ⟨⟨tc, tm, att⟩, sh1, fun x hx => ?_, by rw [List.map_append, List.map_cons], ⟨kv, hkv, lo, fun x hx k hk => ?_, ?_⟩, ci.hD, ci.hS⟩ ⟨pre.map gOf, nd.cnt, nd.keys, post.map gOf, eM.symm, hkn, by rw [hstep, if_pos h1]⟩
      · obtain ⟨y, hy, e1, e2, e3, e4⟩ := kdm x hx
        rw [e1, e2, e3]; exact ci.kd y hy
      · obtain ⟨y, hy, e1, e2, e3, e4⟩ := kdm x hx
        rw [e4]; rw [e2] at hk; exact hat y hy k hk
      · rw [← eM] at hperm
        have : (pre.map gOf ++ (nd.cnt + 1, nd.keys) :: post.map gOf).flatMap (·.2) = (pre.map gOf ++ gOf nd :: post.map gOf).flatMap (·.2) := by simp
        show (kv.map (·.1)).Perm ((pre.map gOf ++ (nd.cnt + 1, nd.keys) :: post.map gOf).flatMap (·.2))
        rw [this]; exact hperm
    · rw [if_neg (by rw [beq_iff_eq]; omega)]
      refine o_nil ?_
      refine o_cons (o_assign (o_linkCall (c := nd.cnt + 1) cx' ?_ ?_))
      · exact fun Q' k => o_binop (o_attr (o_loc rfl (s_count cx' m1 (o_int fun _ => o_add k))))
      intro t y dy ky oK fr l1 l2 lo2 hoK
      refine o_store ?_
      refine Op.weaken (fp' := objs st ++ (y, rawL dy #[some (.int (nd.cnt + 1) t), some (.ref ky)]) :: (dy, dictOf [] 0) :: (ky, oK) :: rest) ?_ fun p hp => by
        rcases List.mem_append.mp hp with hp | hp
        · exact .tail _ (.tail _ (.tail _ (List.mem_append_left _ hp)))
        · rcases List.mem_cons.mp hp with rfl | hp
          · exact .head _
          · rcases List.mem_cons.mp hp with rfl | hp
            · exact .tail _ (.head _)
            · rcases List.mem_cons.mp hp with rfl | hp
              · exact .tail _ (.tail _ (.head _))
              · exact .tail _ (.tail _ (.tail _ (List.mem_append_right _ hp)))
      have hw1 : ∀ o, WF st ((y, o) :: (dy, dictOf [] 0) :: (ky, oK) :: rest) := fun o => hw.of_fresh fr l1 l2
      refine o_cons (o_assignAttr (o_attr (o_loc rfl (s_next cx' m1 (o_loc rfl (o_setSlot (sl' := #[some (.int (nd.cnt + 1) t), some (.ref ky), some (.ref q.a)]) cx' (List.mem_append_right _ (.head _)) (List.mem_append_right _ (.tail _ (.head _))) (lk_sa _) (lk_po _) (lk_kn _) (lk_Tn _) (lk_in _) (by decide) (by rw [eq]; rfl) (to_raw (hw1 _) ?_)))))))
      refine o_cons (o_assign2 (o_loc rfl (o_asAttr (o_loc rfl (s_setNext cx' m1 (to_next (hw1 _) m1 (o_asAttr (o_attr (o_loc rfl
        (o_slot (v := .ref q.a) (sl := #[some (.int (nd.cnt + 1) t), some (.ref ky), some (.ref q.a)]) cx' (List.mem_append_right _ (.head _)) (List.mem_append_right _ (.tail _ (.head _))) (lk_pg _ _) (lk_cls _) (lk_fn _) (lk_gn _) (lk_tn _) (lk_in _) rfl rfl
          (s_setPrev (st := { st with nx := upA st.nx nd.a y }) cx' hq (to_prev (st := { st with nx := upA st.nx nd.a y }) (hw1 _) hq ?_))))))))))))
      refine o_cons (o_assignAttr (o_loc rfl (o_loc rfl (o_setSlot (sl := #[some (.int (nd.cnt + 1) t), some (.ref ky), some (.ref q.a)]) (sl' := #[some (.int (nd.cnt + 1) t), some (.ref ky), some (.ref q.a), some (.ref nd.a)]) cx' (List.mem_append_right _ (.head _)) (List.mem_append_right _ (.tail _ (.head _))) (lk_sa _) (lk_po _) (lk_kp _) (lk_Tp _) (lk_ip _) (by decide) rfl
        (to_raw (st := { st with nx := upA st.nx nd.a y, pv := upA st.pv q.a y }) (hw1 _) ?_)))))
      refine to_add (yn := ⟨y, dy, ky, nd.cnt + 1, t, oK, []⟩) (hw1 _) ?_
      have hwA : WF (addN st ⟨y, dy, ky, nd.cnt + 1, t, oK, []⟩ nd.a q.a) rest := WF.add (o1 := oK) (o2 := oK) (o3 := oK) (hw1 _)
      have fa : ∀ z ∈ st.nodes, z.a ≠ y := fun z hz => (hw1 oK).apart (nd_addr hz)
      have shA : Sh (addN st ⟨y, dy, ky, nd.cnt + 1, t, oK, []⟩ nd.a q.a) rt (pre ++ nd :: ⟨y, dy, ky, nd.cnt + 1, t, oK, []⟩ :: post) := by
        have := Sh.ins (st := st) (rt := rt) (y := ⟨y, dy, ky, nd.cnt + 1, t, oK, []⟩) (p := nd) (q := q) (pre := pre ++ [nd]) (post := post) (X := rt :: pre) (Y := Y) (by simpa using ci.sh) rfl e2 fa
        simpa using this
      have ciA : CI prog w (addN st ⟨y, dy, ky, nd.cnt + 1, t, oK, []⟩ nd.a q.a) { ab with M := pre.map gOf ++ (nd.cnt, nd.keys) :: (nd.cnt + 1, []) :: post.map gOf } cur rt (pre ++ nd :: ⟨y, dy, ky, nd.cnt + 1, t, oK, []⟩ :: post) := by
        refine ⟨⟨tc, tm, att⟩, shA, fun x hx => ?_, by simp, ⟨kv, hkv, lo, fun x hx k hk => ?_, ?_⟩, ci.hD, ci.hS⟩
        · rcases List.mem_append.mp hx with hx | hx
          · exact ci.kd x (List.mem_append_left _ hx)
          · rcases List.mem_cons.mp hx with rfl | hx
            · exact ci.kd x hnd
            · rcases List.mem_cons.mp hx with rfl | hx
              · exact ⟨hoK, lo2⟩
              · exact ci.kd x (List.mem_append_right _ (.tail _ hx))
        · rcases List.mem_append.mp hx with hx | hx
          · exact hat x (List.mem_append_left _ hx) k hk
          · rcases List.mem_cons.mp hx with rfl | hx
            · exact hat x hnd k hk
            · rcases List.mem_cons.mp hx with rfl | hx
              · cases hk
              · exact hat x (List.mem_append_right _ (.tail _ hx)) k hk
        · rw [← eM] at hperm
          simpa using hperm
      have eF : (pre.map gOf ++ (nd.cnt, nd.keys) :: (nd.cnt + 1, ([] : List Int)) :: post.map gOf).flatMap (·.2) = ab.M.flatMap (·.2) := by rw [← eM]; simp
      refine o_nil ?_
      refine touch_tail (n := n + 2) (key := key) (t := t') (Q := fun fl _ fp' => Q (retOf fl) m fp') (qn := ⟨y, dy, ky, nd.cnt + 1, t, oK, []⟩) cx' hwA ciA (by show (List.flatMap _ (pre.map gOf ++ _)).Nodup; rw [eF]; exact mok.keys) (by show (List.flatMap _ (pre.map gOf ++ _)).length ≤ 5; rw [eF]; exact mok.five) hkn rfl rfl rfl rfl fun st' ch' ec hw' ci' =>
        h st' ch' _ ec hw' ci' ⟨pre.map gOf, nd.cnt, nd.keys, post.map gOf, eM.symm, hkn, ?_⟩
      rw [hstep, if_neg h1]; rfl
end
end Mine
end
section
open PySem PySem.W PySem.Calls PyProof.Rows
set_option Elab.async false
set_option maxRecDepth 100000
set_option linter.unusedVariables false
namespace Mine
section
variable (P : Params)
theorem kl_749 : (K P).lookup 749 = some o749 := by kernel_rfl
theorem kc_749 : codeIn (K P) (.ref 748) "Cache.__contains__" = true := by kernel_rfl
theorem kl_728 : (K P).lookup 728 = some o728 := by kernel_rfl
theorem kc_728 : codeIn (K P) (.ref 727) "Cache.__getitem__" = true := by kernel_rfl
theorem kl_756 : (K P).lookup 756 = some o756 := by kernel_rfl
theorem kc_756 : codeIn (K P) (.ref 755) "Cache.__missing__" = true := by kernel_rfl
theorem kf_missing : findIn (K P) (.ref 929) "__missing__" = some (some (.ref 756)) := by kernel_rfl
theorem kfn_756 : isFn (K P) (.ref 756) = true := by kernel_rfl
theorem kp_756 : keepIn (K P) (.ref 756) = true := by kernel_rfl
theorem kn_KeyError : nsIn (K P) mainGlobals "KeyError" = some none := by kernel_rfl
theorem kn_ValueError : nsIn (K P) mainGlobals "ValueError" = some none := by kernel_rfl
end
section
variable {prog : Program} {w : World} {A : Around} {g base : Heap} {outer : List Env} {L : Addr} {E : Value → Heap → Prop} {m : Loc} {fp : FP} {n : Nat} {env env' : Env} {st : St} {rest : FP} {ab : Ab} {cur : Int} {rt : Nd} {ch : List Nd} {ex : Bool} {key : Int} {t : Tok}

theorem o_tryNo {body : List Stmt} {h₀ : ExceptHandler} {hs : List ExceptHandler} {pos : Pos} {Q : Flow → Loc → FP → Prop} (h : Op prog w A g L (fun _ _ => False) (execs body env') Q m fp) :
    Op prog w A g L E (exec (.Try body (h₀ :: hs) [] [] pos) env') Q m fp :=
  Op.of fun s F N Q' k => wpAny_Try_except (wpAny_mono (E := XS (fun _ _ => False) s) (h.use F N fun f h' t' m' fp' F' N' q => by
    cases f with
    | next => exact wpAny_execs_nil (k _ _ _ _ _ F' N' q)
    | brk => exact k _ _ _ _ _ F' N' q
    | cont => exact k _ _ _ _ _ F' N' q
    | ret v => exact k _ _ _ _ _ F' N' q) (fun _ _ z => z) fun _ _ ⟨_, _, _, z⟩ => z.elim)

theorem c_data {Q : Value → Loc → FP → Prop} (cx : Cx w base outer g L A env n) (ci : CI prog w st ab cur rt ch) (h : Q (.ref st.dA) m (objs st ++ rest)) : Op prog w A g L E (getAttr (.ref st.c) "_Cache__data" ex) Q m (objs st ++ rest) :=
  let ⟨_, _, att⟩ := ci.att; s_get cx (kf_data _) (kf_noget _) att rfl rfl h
theorem c_links {Q : Value → Loc → FP → Prop} (cx : Cx w base outer g L A env n) (ci : CI prog w st ab cur rt ch) (h : Q (.ref st.lA) m (objs st ++ rest)) : Op prog w A g L E (getAttr (.ref st.c) "_LFUCache__links" ex) Q m (objs st ++ rest) :=
  let ⟨_, _, att⟩ := ci.att; s_get cx (kf_links _) (kf_noget _) att rfl rfl h
theorem c_root {Q : Value → Loc → FP → Prop} (cx : Cx w base outer g L A env n) (ci : CI prog w st ab cur rt ch) (h : Q (.ref rt.a) m (objs st ++ rest)) : Op prog w A g L E (getAttr (.ref st.c) "_LFUCache__root" ex) Q m (objs st ++ rest) :=
  let ⟨_, _, att⟩ := ci.att; s_get cx (kf_root _) (kf_noget _) att rfl rfl h
theorem c_max {Q : Value → Loc → FP → Prop} (cx : Cx w base outer g L A env n) (ci : CI prog w st ab cur rt ch) (h : ∀ t, Q (.int ab.room t) m (objs st ++ rest)) : Op prog w A g L E (getAttr (.ref st.c) "_Cache__maxsize" ex) Q m (objs st ++ rest) :=
  let ⟨_, _, att⟩ := ci.att; s_get cx (kf_max _) (kf_noget _) att rfl rfl (h _)
theorem c_cur {Q : Value → Loc → FP → Prop} (cx : Cx w base outer g L A env n) (ci : CI prog w st ab cur rt ch) (h : ∀ t, Q (.int cur t) m (objs st ++ rest)) : Op prog w A g L E (getAttr (.ref st.c) "_Cache__currsize" ex) Q m (objs st ++ rest) :=
  let ⟨_, _, att⟩ := ci.att; s_get cx (kf_cur _) (kf_noget _) att rfl rfl (h _)
theorem c_meth {name : Str} {fa : Addr} {pl : Sem Bool} {Q : Value × List Value → Loc → FP → Prop} (cx : Cx w base outer g L A env n) (ci : CI prog w st ab cur rt ch) (hf : findIn (K w.params) (.ref 929) name = some (some (.ref fa))) (ht : isFn (K w.params) (.ref fa) = true)
    (hl : ∀ sz dA rt lA cur tc room tm, attF sz dA rt lA cur tc room tm name = none) (h : Q (.ref fa, [.ref st.c]) m (objs st ++ rest)) : Op prog w A g L E (getMethod (.ref st.c) name pl) Q m (objs st ++ rest) :=
  let ⟨_, _, att⟩ := ci.att; s_meth cx hf ht att (hl _ _ _ _ _ _ _ _) h

theorem contains_spec {Q : Value → Loc → FP → Prop} (cx : Cx w base outer g L A env (n + 1)) (ci : CI prog w st ab cur rt ch) (h : Q (.bool (atI ab.D key).isSome) m (objs st ++ rest)) :
    Op prog w A g L E (call (.ref 749) [.ref st.c, .int key t]) Q m (objs st ++ rest) := by
  obtain ⟨kv, hkv, lo, hp⟩ := ci.hD
  have hb : (valueAt kv key).isSome = (atI ab.D key).isSome := by
    rcases hp.at_ key with ⟨a, b⟩ | ⟨n, t, a, b⟩ <;> rw [a, b] <;> rfl
  refine o_call cx (kl_749 _) (kc_749 _) (fun s _ => BindsTo.of_eq rfl) (locs rfl) (by decide) fun g' L' E' cx' _ _ => ?_
  exact o_cons (o_ret (o_compare (o_loc rfl (o_attr (o_loc rfl (c_data cx' ci (o_in m_dA hkv lo hb h)))))))

theorem cget_spec {v : Int} {Q : Value → Loc → FP → Prop} (cx : Cx w base outer g L A env (n + 1)) (ci : CI prog w st ab cur rt ch) (hv : atI ab.D key = some v) (h : ∀ t, Q (.int v t) m (objs st ++ rest)) :
    Op prog w A g L E (call (.ref 728) [.ref st.c, .int key t]) Q m (objs st ++ rest) := by
  obtain ⟨kv, hkv, lo, hp⟩ := ci.hD
  obtain ⟨tk, hb⟩ : ∃ tk, valueAt kv key = some (.int v tk) := by
    rcases hp.at_ key with ⟨a, b⟩ | ⟨n, t, a, b⟩
    · rw [hv] at b; cases b
    · rw [hv] at b; cases b; exact ⟨t, a⟩
  refine o_call cx (kl_728 _) (kc_728 _) (fun s _ => BindsTo.of_eq rfl) (locs rfl) (by decide) fun g' L' E' cx' _ _ => ?_
  exact o_cons (o_tryNo (o_cons (o_ret (o_subscript (o_attr (o_loc rfl (c_data cx' ci (o_loc rfl (o_item m_dA hkv hb (h _))))))))))
end
end Mine
end
section
open PySem PySem.W PySem.Calls PyProof.Rows
set_option Elab.async false
set_option maxRecDepth 100000
set_option linter.unusedVariables false
namespace Mine
section
variable {prog : Program} {w : World} {A : Around} {g base : Heap} {outer : List Env} {L : Addr} {E : Value → Heap → Prop} {m : Loc} {fp : FP} {n : Nat} {env env' : Env} {st : St} {rest : FP} {ab : Ab} {cur : Int} {rt : Nd} {ch : List Nd} {ex : Bool} {key : Int} {t : Tok}

/-- __missing__, called while a KeyError is handled -/
theorem missing_handled {A₀ : Around} {c a : Addr} {oe : Obj} {s : Shared} {R : Value → Shared → Prop} {Q : Value → Shared → Prop} (K₀ : Below A₀ base outer g) (X : (K w.params).In g) (T : ∃ p loose mg mb, TopRead p loose mg mb g) (hA : A.frames = some (env :: outer)) (hf : env.frame = some L) (hke : env.scope.kind = .function)
    (hdep : A.depth < recursionLimit) (hh : A.handled = some (.ref a)) (F : Fr g L s.heap m) (N : News g L s.heap ((a, oe) :: fp)) (hoe : ∃ vs, oe.data = .fields vs ∧ vs[2]? = some .none)
    (hR : ∀ a1 h' t' g₁, Fr g L g₁ m → XR base (env :: outer) g₁ "KeyError" ((a, oe) :: fp) a1 h' → R (.ref a1) { s with heap := h', toks := t' }) :
    wpAny (model prog w) A (call (.ref 756) [.ref c, .int key t]) Q R s := by
  obtain ⟨p, loose, mg, mb, T⟩ := T
  have X' := X.keeps F.keep
  refine wpAny_call (callX_plain (cl := []) (scope := f756.1.2.2) K₀ F N T.nolimit hA hf hke (X' _ _ (kl_756 _)) rfl (codeRec_of X' (kc_756 _)) hdep (BindsTo.of_eq rfl) (locs rfl) (fun g' L' h₁ FG F' N' B' st lt => ?_) (by decide))
  have X1 : (K w.params).In g' := X.keeps st
  have T1 : TopRead p loose mg mb g' := T.keeps st
  refine wpAny_execs_cons (made_raise excClass_KeyError (Call_ (nameX_B F' X1 T1 (kn_KeyError _) rfl (by decide) (callWith_type1 (args_cons (nameX_L F' rfl (args_nil (call_exc excClass_KeyError (fun h' e x => ⟨e, rfl, .of_new x, ?_⟩) (by show 1 ≤ sizeLine; rw [sizeLine_eq]; decide))))))))) 
  obtain ⟨vs, hd, h2⟩ := hoe
  have ha := (N' (a, oe) (.head _)).1
  have hne : a ≠ e := fun q => by have := x.new; rw [← q] at this; rw [this] at ha; cases ha
  refine raiseNew_some (oe := oe) (vs := vs) (s := { s with heap := h', toks := _ }) hh (x.keeps _ _ ha) hd h2 hne (.of_new x) fun h'' k1 k2 k3 => ?_
  have nx : NewX h₁ h'' e "KeyError" := by
    obtain ⟨ob, t0, q1, q2, q3⟩ := x.there
    obtain ⟨ob', ws', r1, r2, r3⟩ := k3 ob _ _ q1 q3 rfl
    obtain ⟨ob2, vs2, u1, u2, u3, u4, _⟩ := k2
    rw [r1] at u1; cases u1
    rw [r2] at u3; cases u3
    exact ⟨fun b o hb => k1 b o (fun q => by rw [q, x.new] at hb; cases hb) (x.keeps b o hb), x.new, ob', ws', _, r1, u2, r2, u4, r3⟩
  refine leaveX (fp := (a, oe) :: fp) (s' := { s with heap := h'', toks := _ }) B' (XC.fresh F' N' nx) fun a1 h3 ea hr => ?_
  cases ea
  exact hR _ _ _ _ FG hr

theorem cmiss_spec {Q : Value → Loc → FP → Prop} (cx : Cx w base outer g L A env (n + 2)) (ci : CI prog w st ab cur rt ch) (hv : atI ab.D key = none)
    (hE : ∀ e h', XC base env outer g L "KeyError" (objs st ++ rest) (fun m' => m' = m) e h' → E e h') :
    Op prog w A g L E (call (.ref 728) [.ref st.c, .int key t]) Q m (objs st ++ rest) := by
  obtain ⟨kv, hkv, lo, hp⟩ := ci.hD
  have hb : valueAt kv key = none := by
    rcases hp.at_ key with ⟨a, b⟩ | ⟨n, t, a, b⟩
    · exact a
    · rw [hv] at b; cases b
  refine o_callE (P := fun _ => True) cx (kl_728 _) (kc_728 _) (fun s _ => BindsTo.of_eq rfl) (locs rfl) (by decide) (fun g' L' cx' st' lt => ?_) hE
  refine o_cons ?_
  refine .intro fun s F N => ?_
  obtain ⟨A₀, B⟩ := cx'.B
  refine wpAny_Try_except (wpAny_mono (Op.run (show Op prog w _ g' L' (fun e h' => ∃ a h m', e = .ref a ∧ (m' "self" = some (.ref st.c) ∧ m' "key" = some (.int key t)) ∧ Fr g' L' h m' ∧ News g' L' h (objs st ++ rest) ∧ Heap.NewExc h h' a "KeyError") _ (fun _ _ _ => False) _ (objs st ++ rest) from ?_) s F N) (fun _ _ ⟨_, _, _, _, _, _, _, z⟩ => z.elim) fun e s₁ ⟨h1, t1, es, a, h, m', ea, ⟨hm1, hm2⟩, F1, N1, hx⟩ => ?_)
  · exact o_cons (o_ret (o_subscript (o_attr (o_loc rfl (c_data cx' ci (o_loc rfl (o_itemMiss (t := t) cx'.handled m_dA hkv lo hb fun h a h' F N x => ⟨a, h, _, rfl, ⟨rfl, rfl⟩, F, N, x⟩)))))))
  subst es ea
  have XB := cx'.XB
  have TB := cx'.TB
  have K' : Below A base (env :: outer) g' := ⟨cx.hA, B.stays, B.frames⟩
  refine caughtNew (s' := { s with heap := h1, toks := t1 }) XB TB K' F1 N1 hx (kn_KeyError _) rfl (by decide) kr_isExc_KeyError kr_notTuple_KeyError subKeyKey fun h2 g2 oe ld => ?_
  have X2 : (K w.params).In g2 := XB.keeps ld.below.stays
  have T2 : ∃ p loose mg mb, TopRead p loose mg mb g2 := let ⟨p, loose, mg, mb, T⟩ := TB; ⟨p, loose, mg, mb, T.keeps ld.below.stays⟩
  obtain ⟨tc, tm, att⟩ := ci.att
  have i1 : (st.c, inst 929 st.dc) ∈ objs st ++ rest := m_c
  have i2 : (st.dc, dictOf st.es st.ep) ∈ objs st ++ rest := m_dc
  refine wpAny_execs_cons (wpAny_Return_some (methodCall_KW (nameX_L ld.fr hm1 (method_inst ld.fr X2 (InstAt.of_news ld.news (.tail _ i1) (.tail _ i2)) (kf_pg _ _) (kf_missing _) (kfn_756 _) (by rw [att.at_]; rfl)
    (callWith_K X2 (kp_756 _) (args_cons (nameX_L ld.fr hm2 (args_nil ⟨X2.keeps ld.fr.keep, ?_⟩))))))))
  refine missing_handled ld.below X2 T2 cx'.hA rfl rfl (by have := cx.depth; show A.depth + 1 < recursionLimit; simp only [recursionLimit]; omega) rfl ld.fr ld.news ld.val fun a1 h3 t3 g₁ F3 hr => ?_
  exact goesOn (s' := { s with heap := h3, toks := t3 }) cx'.hA rfl ld F3 hr fun h' x => x
end
end Mine
end
section
open PySem PySem.W PySem.Calls PyProof.Rows
set_option Elab.async false
set_option maxRecDepth 100000
set_option linter.unusedVariables false
namespace Mine
section
variable (P : Params)
theorem kl_882 : (K P).lookup 882 = some o882 := by kernel_rfl
theorem kl_889 : (K P).lookup 889 = some o889 := by kernel_rfl
theorem kc_889 : codeIn (K P) (.ref 888) "LFUCache.__getitem__" = true := by kernel_rfl
theorem kp_728 : keepIn (K P) (.ref 728) = true := by kernel_rfl
theorem kf_touch : findIn (K P) (.ref 929) "_LFUCache__touch" = some (some (.ref 926)) := by kernel_rfl
theorem kfn_926 : isFn (K P) (.ref 926) = true := by kernel_rfl
theorem kp_926 : keepIn (K P) (.ref 926) = true := by kernel_rfl
end
section
variable {prog : Program} {w : World} {A : Around} {g base : Heap} {outer : List Env} {L : Addr} {E : Value → Heap → Prop} {m : Loc} {fp : FP} {n : Nat} {env env' : Env} {st : St} {rest : FP} {ab : Ab} {cur : Int} {rt : Nd} {ch : List Nd} {ex : Bool} {key : Int} {t : Tok}

theorem CI.linked (ci : CI prog w st ab cur rt ch) : ∃ kv, IsD prog w st.oL kv ∧ (st.lA == sysModules) = false ∧ ∀ k, (valueAt kv k).isSome = decide (k ∈ ab.M.flatMap (·.2)) := by
  obtain ⟨kv, h1, h2, h3, h4⟩ := ci.hL
  refine ⟨kv, h1, h2, fun k => ?_⟩
  by_cases e : k ∈ ab.M.flatMap (·.2)
  · rw [decide_eq_true e, valueAt_mem]; exact h4.mem_iff.mpr e
  · rw [decide_eq_false e, Bool.eq_false_iff]; intro q; rw [valueAt_mem] at q; exact e (h4.mem_iff.mp q)

theorem lget_spec {v : Int} {Q : Value → Loc → FP → Prop} (cx : Cx w base outer g L A env (n + 5)) (hw : WF st rest) (ci : CI prog w st ab cur rt ch) (mok : MOK ab.M) (hv : atI ab.D key = some v) (hk : key ∈ ab.M.flatMap (·.2))
    (h : ∀ st' ch' M' t, Same st' st → WF st' rest → CI prog w st' { ab with M := M' } cur rt ch' → TouchR key ab.M M' → Q (.int v t) m (objs st' ++ rest)) :
    Op prog w A g L E (call (.ref 889) [.ref st.c, .int key t]) Q m (objs st ++ rest) := by
  refine o_call cx (kl_889 _) (kc_889 _) (fun s X => binds_K (T := 882) X rfl (kl_882 _) rfl rfl rfl) (locs rfl) (by decide) fun g' L' E' cx' _ _ => ?_
  refine o_cons (o_assign (o_nameCall (o_loc rfl (o_callK cx' (kp_728 _) (o_argsCons (o_loc rfl (o_argsCons (o_loc rfl (o_argsNil (cget_spec cx' ci hv fun tv => o_store ?_)))))))))) 
  obtain ⟨kv, h1, h2, h3⟩ := ci.linked
  refine o_cons (o_if (o_isCompare (o_loc rfl (o_attr (o_loc rfl (c_links cx' ci (o_in m_lA h1 h2 ((h3 key).trans (decide_eq_true hk)) (o_truthyBool ?_))))))))
  rw [if_pos rfl]
  refine o_cons (o_exprStmt (o_methodCall _ (o_loc rfl (c_meth cx' ci (kf_touch _) (kfn_926 _) (fun _ _ _ _ _ _ _ _ => rfl) (o_callK cx' (kp_926 _) (o_argsCons (o_loc rfl (o_argsNil (touch_spec cx' hw ci mok hk fun st' ch' M' ec hw' ci' ht => o_nil (o_cons (o_ret (o_loc rfl ?_)))))))))))) 
  exact h st' ch' M' tv ec hw' ci' ht

theorem lmiss_spec {Q : Value → Loc → FP → Prop} (cx : Cx w base outer g L A env (n + 3)) (ci : CI prog w st ab cur rt ch) (hv : atI ab.D key = none)
    (hE : ∀ e h', XC base env outer g L "KeyError" (objs st ++ rest) (fun m' => m' = m) e h' → E e h') :
    Op prog w A g L E (call (.ref 889) [.ref st.c, .int key t]) Q m (objs st ++ rest) := by
  refine o_callE (P := fun _ => True) cx (kl_889 _) (kc_889 _) (fun s X => binds_K (T := 882) X rfl (kl_882 _) rfl rfl rfl) (locs rfl) (by decide) (fun g' L' cx' _ _ => ?_) hE
  exact o_cons (o_assign (o_nameCall (o_loc rfl (o_callK cx' (kp_728 _) (o_argsCons (o_loc rfl (o_argsCons (o_loc rfl (o_argsNil (cmiss_spec cx' ci hv fun e h' x => x.mono fun _ _ => trivial)))))))))) 
end
end Mine
end
section
open PySem PySem.W PySem.Calls PyProof.Rows
set_option Elab.async false
set_option maxRecDepth 100000
set_option linter.unusedVariables false
namespace Mine
section
variable (P : Params)
theorem kl_742 : (K P).lookup 742 = some o742 := by kernel_rfl
theorem kc_742 : codeIn (K P) (.ref 741) "Cache.__delitem__" = true := by kernel_rfl
theorem kf_sizeNone : specialIn (K P) .none "__get__" = some none := by kernel_rfl
end
theorem Sh.copy {st st' : St} {rt : Nd} {ch : List Nd} (h : Sh st rt ch) (e1 : st'.nodes = st.nodes := by rfl) (e2 : st'.nx = st.nx := by rfl) (e3 : st'.pv = st.pv := by rfl) : Sh st' rt ch :=
  ⟨by rw [e1]; exact h.rtm, by rw [e1]; exact h.chm, h.nod, by rw [e2, e3]; exact h.ring, h.rt0⟩
theorem attF_cur {sz : Option Addr} {dA r lA : Addr} {cur c : Int} {tc t : Tok} {room : Int} {tm : Tok} :
    (fun y : Str => if y = "_Cache__currsize" then some (.int c t) else attF sz dA r lA cur tc room tm y) = attF sz dA r lA c t room tm := by
  funext y
  unfold attF
  by_cases e : y = "_Cache__currsize"
  · rw [if_pos e, if_pos e]
  · rw [if_neg e, if_neg e, if_neg e]
theorem withoutI_map {D : List (Int × Int)} {k : Int} {f : Int → Int} : withoutI (D.map fun p => (p.1, f p.2)) k = (withoutI D k).map fun p => (p.1, f p.2) := by
  unfold withoutI
  rw [List.filter_map]; rfl
theorem atI_map {D : List (Int × Int)} {k : Int} {f : Int → Int} : atI (D.map fun p => (p.1, f p.2)) k = (atI D k).map f := by
  unfold atI
  induction D with
  | nil => rfl
  | cons x D ih =>
    rw [List.map_cons, List.find?_cons, List.find?_cons]
    by_cases e : x.1 = k
    · rw [decide_eq_true e]; rfl
    · rw [decide_eq_false e]; exact ih
theorem storedI_map {D : List (Int × Int)} {k v : Int} {f : Int → Int} : storedI (D.map fun p => (p.1, f p.2)) k (f v) = (storedI D k v).map fun p => (p.1, f p.2) := by
  unfold storedI
  have e : ((D.map fun p => (p.1, f p.2)).any fun kv => decide (kv.1 = k)) = D.any fun kv => decide (kv.1 = k) := by rw [List.any_map]; rfl
  rw [e]
  split
  · rw [List.map_map, List.map_map]
    refine List.map_congr_left fun x _ => ?_
    dsimp only [Function.comp]
    split <;> rfl
  · rw [List.map_append]; rfl

section
variable {prog : Program} {w : World} {A : Around} {g base : Heap} {outer : List Env} {L : Addr} {E : Value → Heap → Prop} {m : Loc} {fp : FP} {n : Nat} {env env' : Env} {st : St} {rest : FP} {ab : Ab} {cur : Int} {rt : Nd} {ch : List Nd} {ex : Bool} {key : Int} {t : Tok}

theorem CI.dlen (ci : CI prog w st ab cur rt ch) (dok : DOK ab.D) : ∃ kv, IsD prog w st.oD kv ∧ (st.dA == sysModules) = false ∧ PairsI kv ab.D ∧ kv.length ≤ 1000 := by
  obtain ⟨kv, h1, h2, h3⟩ := ci.hD
  exact ⟨kv, h1, h2, h3, by rw [h3.len]; have := dok.five; omega⟩
/-- self.__size -/
theorem c_sizeNo {Q : Value → Loc → FP → Prop} (cx : Cx w base outer g L A env n) (ci : CI prog w st ab cur rt ch) (hs : st.sz = none) (h : Q .none m (objs st ++ rest)) :
    Op prog w A g L E (getAttr (.ref st.c) "_Cache__size" ex) Q m (objs st ++ rest) := by
  obtain ⟨tc, tm, att⟩ := ci.att
  exact o_getCls cx m_c m_dc (kf_pg _ _) (kf_hd _) (kf_size _) (kf_sizeNone _) rfl (by decide) (by rw [att.at_, hs]; rfl) h
theorem c_sizeYes {sA : Addr} {oS : Obj} {Q : Value → Loc → FP → Prop} (cx : Cx w base outer g L A env n) (ci : CI prog w st ab cur rt ch) (hs : st.sz = some (sA, oS)) (h : Q (.ref sA) m (objs st ++ rest)) :
    Op prog w A g L E (getAttr (.ref st.c) "_Cache__size" ex) Q m (objs st ++ rest) := by
  obtain ⟨tc, tm, att⟩ := ci.att
  exact s_get cx (kf_size _) (kf_nogetN _) att (by rw [hs]; rfl) rfl h
theorem ci_sz (ci : CI prog w st ab cur rt ch) (hs : st.sz = none) : ab.sized = false := by have := ci.hS; rw [hs] at this; exact this
theorem ci_szS {sA : Addr} {oS : Obj} (ci : CI prog w st ab cur rt ch) (hs : st.sz = some (sA, oS)) : ab.sized = true ∧ ∃ kv, IsD prog w oS kv ∧ (sA == sysModules) = false ∧ PairsI kv (ab.D.map fun p => (p.1, szOf true p.2)) := by have := ci.hS; rw [hs] at this; exact this

theorem cdel_spec {v : Int} {Q : Value → Loc → FP → Prop} (cx : Cx w base outer g L A env (n + 1)) (hw : WF st rest) (ci : CI prog w st ab cur rt ch) (dok : DOK ab.D) (hv : atI ab.D key = some v)
    (h : ∀ st', Same st' st → WF st' rest → CI prog w st' { ab with D := withoutI ab.D key } (cur - szOf ab.sized v) rt ch → Q .none m (objs st' ++ rest)) :
    Op prog w A g L E (call (.ref 742) [.ref st.c, .int key t]) Q m (objs st ++ rest) := by
  obtain ⟨kv, hkv, lo, hp, hlen⟩ := ci.dlen dok
  have hb : (valueAt kv key).isSome = true := by
    rcases hp.at_ key with ⟨a, b⟩ | ⟨n, t, a, b⟩
    · rw [hv] at b; cases b
    · rw [a]; rfl
  obtain ⟨tc, tm, att⟩ := ci.att
  refine o_call cx (kl_742 _) (kc_742 _) (fun s _ => BindsTo.of_eq rfl) (locs rfl) (by decide) fun g' L' E' cx' _ _ => ?_
  cases hs : st.sz with
  | none =>
    have hsz := ci_sz ci hs
    refine o_cons (o_assign (o_attr (o_loc rfl (c_sizeNo cx' ci hs (o_store ?_)))))
    refine o_cons (o_if (o_isCompare (o_loc rfl (o_none (o_isNone (o_truthyBool ?_))))))
    rw [if_pos (by rfl)]
    refine o_cons (o_delSub (o_attr (o_loc rfl (c_data cx' ci (o_loc rfl (o_delItem m_dA hkv hb hlen fun o' ho' => to_data hw ?_))))))
    refine o_cons (o_augAttr (o_loc rfl (s_get (st := { st with oD := o' }) cx' (kf_cur _) (kf_noget _) att rfl rfl (o_int fun _ => o_isub fun tr => s_set (st := { st with oD := o' }) cx' hw (kt_cur _) (by decide) att rfl fun es ep att' => to_attr (st := { st with oD := o' }) hw (o_nil (o_nil ?_))))))
    rw [attF_cur] at att'
    refine h { st with oD := o', es := es, ep := ep } ⟨rfl, rfl, rfl⟩ hw ⟨⟨tr, tm, ?_⟩, ci.sh.copy, ci.kd, ci.M, ci.hL, ⟨_, ho', lo, hp.without key⟩, ?_⟩
    · rw [hsz]; exact att'
    · show match st.sz with | some (sA, oS) => _ | none => _
      rw [hs]; exact hsz
  | some p =>
    obtain ⟨sA, oS⟩ := p
    obtain ⟨hsz, kvS, hS, loS, hpS⟩ := ci_szS ci hs
    have hbS : valueAt kvS key = some (.int (szOf true v) 0) ∨ ∃ tk, valueAt kvS key = some (.int (szOf true v) tk) := by
      rcases hpS.at_ key with ⟨a, b⟩ | ⟨n, t, a, b⟩
      · rw [atI_map, hv] at b; cases b
      · rw [atI_map, hv] at b; cases b; exact .inr ⟨t, a⟩
    obtain ⟨tk, hbS⟩ : ∃ tk, valueAt kvS key = some (.int (szOf true v) tk) := hbS.elim (fun q => ⟨0, q⟩) id
    have hlenS : kvS.length ≤ 1000 := by rw [hpS.len, List.length_map, ← hp.len]; exact hlen
    refine o_cons (o_assign (o_attr (o_loc rfl (c_sizeYes cx' ci hs (o_store ?_)))))
    refine o_cons (o_if (o_isCompare (o_loc rfl (o_none (o_isNone (o_truthyBool ?_))))))
    rw [if_neg (by rw [show (Value.ref sA == Value.none) = false from rfl]; simp)]
    refine o_cons (o_assign (o_methodCall _ (o_loc rfl (o_dictMeth PySem.F.slot_dict_pop (by rfl) (m_sz hs) hS (o_callB (o_argsCons (o_loc rfl (o_argsNil (o_pop (m_sz hs) hS hbS hlenS fun oS' hoS' => to_sz hw hs (o_store ?_))))))))))
    have hw1 : WF { st with sz := some (sA, oS') } rest := hw.same (by simp only [addrs', hs, Option.toList, List.map_cons, List.map_nil])
    have att1 : Att 7 ({ st with sz := some (sA, oS') } : St).es (attF (st.sz.map (·.1)) st.dA rt.a st.lA cur tc ab.room tm) := att
    refine o_cons (o_delSub (o_attr (o_loc rfl (s_get (st := { st with sz := some (sA, oS') }) cx' (kf_data _) (kf_noget _) att1 rfl rfl (o_loc rfl (o_delItem m_dA hkv hb hlen fun o' ho' => to_data hw1 ?_))))))
    have att2 : Att 7 ({ st with sz := some (sA, oS'), oD := o' } : St).es (attF (st.sz.map (·.1)) st.dA rt.a st.lA cur tc ab.room tm) := att
    refine o_cons (o_augAttr (o_loc rfl (s_get (st := { st with sz := some (sA, oS'), oD := o' }) cx' (kf_cur _) (kf_noget _) att2 rfl rfl (o_loc rfl (o_isub fun tr => s_set (st := { st with sz := some (sA, oS'), oD := o' }) cx' hw1 (kt_cur _) (by decide) att2 rfl fun es ep att' => to_attr (st := { st with sz := some (sA, oS'), oD := o' }) hw1 (o_nil (o_nil ?_)))))))
    rw [attF_cur] at att'
    refine h { st with sz := some (sA, oS'), oD := o', es := es, ep := ep } ⟨rfl, rfl, by rw [hs]; rfl⟩ hw1 ⟨⟨tr, tm, ?_⟩, ci.sh.copy, ci.kd, ci.M, ci.hL, ⟨_, ho', lo, hp.without key⟩, ⟨hsz, _, hoS', loS, ?_⟩⟩
    · rw [hsz]; rw [hs] at att'; exact att'
    · rw [← withoutI_map]; exact hpS.without key
end
end Mine
end
section
open PySem PySem.W PySem.Calls PyProof.Rows
set_option Elab.async false
set_option maxRecDepth 100000
set_option linter.unusedVariables false
namespace Mine
section
variable (P : Params)
theorem kl_898 : (K P).lookup 898 = some o898 := by kernel_rfl
theorem kl_905 : (K P).lookup 905 = some o905 := by kernel_rfl
theorem kc_905 : codeIn (K P) (.ref 904) "LFUCache.__delitem__" = true := by kernel_rfl
theorem kp_742 : keepIn (K P) (.ref 742) = true := by kernel_rfl
end
def DelR (k : Int) (M M' : List (Int × List Int)) : Prop := ∃ pre c ks r, M = pre ++ (c, ks) :: r ∧ k ∈ ks ∧ M' = pre ++ (dropE c (outOf k ks) ++ r)
section
variable {prog : Program} {w : World} {A : Around} {g base : Heap} {outer : List Env} {L : Addr} {E : Value → Heap → Prop} {m : Loc} {fp : FP} {n : Nat} {env env' : Env} {st : St} {rest : FP} {ab : Ab} {cur : Int} {rt : Nd} {ch : List Nd} {ex : Bool} {key : Int} {t : Tok}

theorem cdelMiss_spec {Q : Value → Loc → FP → Prop} (cx : Cx w base outer g L A env (n + 1)) (ci : CI prog w st ab cur rt ch) (hv : atI ab.D key = none)
    (hE : ∀ e h', XC base env outer g L "KeyError" (objs st ++ rest) (fun m' => m' = m) e h' → E e h') :
    Op prog w A g L E (call (.ref 742) [.ref st.c, .int key t]) Q m (objs st ++ rest) := by
  obtain ⟨kv, hkv, lo, hp⟩ := ci.hD
  have hb : valueAt kv key = none := by
    rcases hp.at_ key with ⟨a, b⟩ | ⟨n, t, a, b⟩
    · exact a
    · rw [hv] at b; cases b
  refine o_callE (P := fun _ => True) cx (kl_742 _) (kc_742 _) (fun s _ => BindsTo.of_eq rfl) (locs rfl) (by decide) (fun g' L' cx' _ _ => ?_) hE
  cases hs : st.sz with
  | none =>
    refine o_cons (o_assign (o_attr (o_loc rfl (c_sizeNo cx' ci hs (o_store ?_)))))
    refine o_cons (o_if (o_isCompare (o_loc rfl (o_none (o_isNone (o_truthyBool ?_))))))
    rw [if_pos (by rfl)]
    exact o_cons (o_delSub (o_attr (o_loc rfl (c_data cx' ci (o_loc rfl (o_delMiss cx'.handled m_dA hkv lo hb fun e h' x => x.mono fun _ _ => trivial))))))
  | some p =>
    obtain ⟨sA, oS⟩ := p
    obtain ⟨hsz, kvS, hS, loS, hpS⟩ := ci_szS ci hs
    have hbS : valueAt kvS key = none := by
      rcases hpS.at_ key with ⟨a, b⟩ | ⟨n, t, a, b⟩
      · exact a
      · rw [atI_map, hv] at b; cases b
    refine o_cons (o_assign (o_attr (o_loc rfl (c_sizeYes cx' ci hs (o_store ?_)))))
    refine o_cons (o_if (o_isCompare (o_loc rfl (o_none (o_isNone (o_truthyBool ?_))))))
    rw [if_neg (by rw [show (Value.ref sA == Value.none) = false from rfl]; simp)]
    exact o_cons (o_assign (o_methodCall _ (o_loc rfl (o_dictMeth PySem.F.slot_dict_pop (by rfl) (m_sz hs) hS (o_callB (o_argsCons (o_loc rfl (o_argsNil (o_popMiss cx'.handled (m_sz hs) hS loS hbS fun e h' x => x.mono fun _ _ => trivial)))))))))

theorem ldelMiss_spec {Q : Value → Loc → FP → Prop} (cx : Cx w base outer g L A env (n + 2)) (ci : CI prog w st ab cur rt ch) (hv : atI ab.D key = none)
    (hE : ∀ e h', XC base env outer g L "KeyError" (objs st ++ rest) (fun m' => m' = m) e h' → E e h') :
    Op prog w A g L E (call (.ref 905) [.ref st.c, .int key t]) Q m (objs st ++ rest) := by
  refine o_callE (P := fun _ => True) cx (kl_905 _) (kc_905 _) (fun s X => binds_K (T := 898) X rfl (kl_898 _) rfl rfl rfl) (locs rfl) (by decide) (fun g' L' cx' _ _ => ?_) hE
  exact o_cons (o_exprStmt (o_nameCall (o_loc rfl (o_callK cx' (kp_742 _) (o_argsCons (o_loc rfl (o_argsCons (o_loc rfl (o_argsNil (cdelMiss_spec cx' ci hv fun e h' x => x.mono fun _ _ => trivial))))))))))

theorem filter_none {l : List Int} {k : Int} (h : k ∉ l) : (l.filter fun x => decide (x ≠ k)) = l := List.filter_eq_self.mpr fun x hx => by simpa using nem hx h

theorem ldel_spec {v : Int} {Q : Value → Loc → FP → Prop} (cx : Cx w base outer g L A env (n + 3)) (hw : WF st rest) (ci : CI prog w st ab cur rt ch) (mok : MOK ab.M) (dok : DOK ab.D) (hv : atI ab.D key = some v) (hk : key ∈ ab.M.flatMap (·.2))
    (h : ∀ st' ch' M', Same st' st → WF st' rest → CI prog w st' { ab with D := withoutI ab.D key, M := M' } (cur - szOf ab.sized v) rt ch' → DelR key ab.M M' → Q .none m (objs st' ++ rest)) :
    Op prog w A g L E (call (.ref 905) [.ref st.c, .int key t]) Q m (objs st ++ rest) := by
  refine o_call cx (kl_905 _) (kc_905 _) (fun s X => binds_K (T := 898) X rfl (kl_898 _) rfl rfl rfl) (locs rfl) (by decide) fun g' L' E' cx' _ _ => ?_
  refine o_cons (o_exprStmt (o_nameCall (o_loc rfl (o_callK cx' (kp_742 _) (o_argsCons (o_loc rfl (o_argsCons (o_loc rfl (o_argsNil (cdel_spec cx' hw ci dok hv fun st1 ec1 hw1 ci1 => ?_))))))))))
  rw [← ec1.1]
  have eM : ch.map gOf = ab.M := ci1.M
  obtain ⟨nd, hnd, hkn⟩ : ∃ nd ∈ ch, key ∈ nd.keys := by
    obtain ⟨gr, hg, hkg⟩ := List.mem_flatMap.mp hk
    rw [← eM] at hg
    obtain ⟨nd, h1, h2⟩ := List.mem_map.mp hg
    exact ⟨nd, h1, by rw [← h2] at hkg; exact hkg⟩
  have ln := ci1.key_len mok.five hnd
  obtain ⟨pre, post, ech⟩ := List.append_of_mem hnd
  subst ech
  rw [List.map_append, List.map_cons] at eM
  have hM : ab.M.flatMap (·.2) = (pre.map gOf).flatMap (·.2) ++ (nd.keys ++ (post.map gOf).flatMap (·.2)) := by rw [← eM, List.flatMap_append, List.flatMap_cons]
  have nod := mok.keys
  rw [hM] at nod
  have n1 := List.nodup_append.mp nod
  have n2 := List.nodup_append.mp n1.2.1
  have kpostM : key ∉ (post.map gOf).flatMap (·.2) := fun q => n2.2.2 key hkn key q rfl
  have kpreM : key ∉ (pre.map gOf).flatMap (·.2) := fun q => n1.2.2 key q key (List.mem_append_left _ hkn) rfl
  have kpost : ∀ x ∈ post, key ∉ x.keys := fun x hx q => kpostM (List.mem_flatMap.mpr ⟨gOf x, List.mem_map_of_mem hx, q⟩)
  have kpre : ∀ x ∈ pre, key ∉ x.keys := fun x hx q => kpreM (List.mem_flatMap.mpr ⟨gOf x, List.mem_map_of_mem hx, q⟩)
  obtain ⟨kv, hkv, lo, hat, hperm⟩ := ci1.hL
  have hlen : kv.length ≤ 1000 := by
    have := hperm.length_eq
    have h5 : (ab.M.flatMap (·.2)).length ≤ 5 := mok.five
    rw [List.length_map] at this
    have e5 : ({ ab with D := withoutI ab.D key } : Ab).M = ab.M := rfl
    rw [e5] at this; omega
  refine o_cons (o_assign (o_methodCall _ (o_attr (o_loc rfl (c_links cx' ci1 (o_dictMeth PySem.F.slot_dict_pop (by rfl) m_lA hkv (o_callB (o_argsCons (o_loc rfl (o_argsNil (o_pop m_lA hkv (hat nd hnd key hkn) hlen fun oL' hoL' => to_lnk hw1 (o_store ?_)))))))))))) 
  have sh1 : Sh { st1 with oL := oL' } rt (pre ++ nd :: post) := ci1.sh.copy
  have m1 := sh1.chm nd hnd
  refine o_cons (o_delSub (o_attr (o_loc rfl (s_keys (st := { st1 with oL := oL' }) cx' m1 (o_loc rfl (o_delItem (m_keys m1) (ci1.kd _ hnd).1 (by rw [units_mem]; exact hkn) (by rw [List.length_map]; omega) fun ok hok => ?_))))))
  rw [units_without] at hok
  refine to_keys (st := { st1 with oL := oL' }) (ks := outOf key nd.keys) hw1 m1 ?_
  have sh2 : Sh (updN { st1 with oL := oL' } nd.a (setK ok (outOf key nd.keys))) rt (pre ++ setK ok (outOf key nd.keys) nd :: post) := Sh.upd (f := setK ok (outOf key nd.keys)) sh1 rfl
  have hw2 : WF (updN { st1 with oL := oL' } nd.a (setK ok (outOf key nd.keys))) rest := WF.same (st := { st1 with oL := oL' }) hw1 (updN_addrs _ nd.a fun _ => rfl)
  have m2 := sh2.chm (setK ok (outOf key nd.keys) nd) (by simp)
  have hcore : ∀ st' ch', st'.c = st1.c → st'.oL = oL' → st'.lA = st1.lA → WF st' rest → Sh st' rt ch' → st'.es = st1.es → st'.sz = st1.sz → st'.dA = st1.dA → st'.oD = st1.oD →
      ch' = pre ++ (if (outOf key nd.keys).isEmpty then [] else [setK ok (outOf key nd.keys) nd]) ++ post → Q .none m (objs st' ++ rest) := by
    intro st' ch' ec eoL elA hw' sh' ees esz edA eoD ech
    obtain ⟨tc, tm, att⟩ := ci1.att
    refine h st' ch' (pre.map gOf ++ (dropE nd.cnt (outOf key nd.keys) ++ post.map gOf)) (Same.trans (b := st1) ⟨ec, edA, congrArg _ esz⟩ ec1) hw' ⟨⟨tc, tm, by rw [ees, esz, edA, elA]; exact att⟩, sh', ?_, ?_, ⟨_, eoL ▸ hoL', elA ▸ lo, ?_, ?_⟩, ?_, ?_⟩ ⟨pre.map gOf, nd.cnt, nd.keys, post.map gOf, eM.symm, hkn, rfl⟩
    · intro x hx
      rw [ech] at hx
      rcases List.mem_append.mp hx with hx | hx
      · rcases List.mem_append.mp hx with hx | hx
        · exact ci1.kd x (List.mem_append_left _ hx)
        · by_cases em : (outOf key nd.keys).isEmpty = true
          · rw [if_pos em] at hx; cases hx
          · rw [if_neg em] at hx
            rw [List.mem_singleton.mp hx]; exact ⟨hok, (ci1.kd nd hnd).2⟩
      · exact ci1.kd x (List.mem_append_right _ (.tail _ hx))
    · rw [ech]
      show _ = pre.map gOf ++ (dropE nd.cnt (outOf key nd.keys) ++ post.map gOf)
      unfold dropE
      by_cases em : (outOf key nd.keys).isEmpty = true
      · rw [if_pos em, if_pos em]; simp
      · rw [if_neg em, if_neg em]; simp
    · intro x hx k hkx
      rw [valueAt_without]
      rw [ech] at hx
      rcases List.mem_append.mp hx with hx | hx
      · rcases List.mem_append.mp hx with hx | hx
        · rw [if_neg (nem hkx (kpre x hx))]; exact hat x (List.mem_append_left _ hx) k hkx
        · by_cases em : (outOf key nd.keys).isEmpty = true
          · rw [if_pos em] at hx; cases hx
          · rw [if_neg em] at hx
            have hx := List.mem_singleton.mp hx
            subst hx
            have q := List.mem_filter.mp hkx
            rw [if_neg (by simpa using q.2)]; exact hat nd hnd k q.1
      · rw [if_neg (nem hkx (kpost x hx))]; exact hat x (List.mem_append_right _ (.tail _ hx)) k hkx
    · rw [keys_without]
      have q : (kv.map (·.1)).Perm (ab.M.flatMap (·.2)) := hperm
      rw [hM] at q
      have := q.filter fun x => decide (x ≠ key)
      rw [List.filter_append, List.filter_append, filter_none kpreM, filter_none kpostM] at this
      show ((kv.map (·.1)).filter _).Perm ((pre.map gOf ++ (dropE nd.cnt (outOf key nd.keys) ++ post.map gOf)).flatMap (·.2))
      rw [List.flatMap_append, List.flatMap_append, flat_dropE]
      exact this
    · have := ci1.hD; show ∃ kv, IsD prog w st'.oD kv ∧ (st'.dA == sysModules) = false ∧ _; rw [eoD, edA]; exact this
    · have := ci1.hS; show match st'.sz with | some (sA, oS) => _ | none => _; rw [esz]; exact this
  refine o_cons (o_if (o_isTrueNot (o_isTrue (o_attr (o_loc rfl (s_keys (nd := setK ok (outOf key nd.keys) nd) cx' m2 (o_truthyDict (m_keys m2) hok (ci1.kd _ hnd).2 (by rw [List.length_map]; exact Nat.le_trans (List.length_filter_le _ _) (by omega)) ?_)))))))
  by_cases em : (outOf key nd.keys).isEmpty = true
  · have : (!(!(unitsOf (outOf key nd.keys)).isEmpty)) = true := by rw [Bool.not_not, List.isEmpty_map]; exact em
    show if (!(!(unitsOf (outOf key nd.keys)).isEmpty)) = true then _ else _
    rw [if_pos this]
    obtain ⟨X, p, q, Y, e1, e2, hp, hq, ep, eq⟩ := sh2.around
    have sh3 := sh2.out e1 e2
    refine o_cons (o_exprStmt (o_methodCall _ (o_loc rfl (o_meth cx' (m_link (nd := setK ok (outOf key nd.keys) nd) m2) (m_ld (nd := setK ok (outOf key nd.keys) nd) m2) (lk_pg _ _) (lk_unl _) (lk_fn863 _) rfl (o_callK0 cx' (kp_863 _) (unlink_spec (nd := setK ok (outOf key nd.keys) nd) cx' hw2 m2 hp hq ep eq (o_nil ?_)))))))
    exact o_nil (hcore _ _ rfl rfl rfl hw2 sh3 rfl rfl rfl rfl (by rw [if_pos em]; simp))
  · have : ¬ (!(!(unitsOf (outOf key nd.keys)).isEmpty)) = true := by rw [Bool.not_not, List.isEmpty_map]; exact em
    show if (!(!(unitsOf (outOf key nd.keys)).isEmpty)) = true then _ else _
    rw [if_neg this]
    exact o_nil (o_nil (hcore _ _ rfl rfl rfl hw2 sh2 rfl rfl rfl rfl (by rw [if_neg em]; simp)))
end
end Mine
end
section
open PySem PySem.W PySem.Calls PyProof.Rows
set_option Elab.async false
set_option maxRecDepth 100000
set_option linter.unusedVariables false
namespace Mine
section
variable (P : Params)
theorem kl_912 : (K P).lookup 912 = some o912 := by kernel_rfl
theorem kc_912 : codeIn (K P) (.ref 911) "LFUCache.popitem" = true := by kernel_rfl
theorem kT_830 : typeIn (K P) (.ref 830) = some (.ref 89) := by kernel_rfl
theorem kr_830 : readsIn (K P) 830 (.ref 89) = true := by kernel_rfl
theorem kg_830 : specialIn (K P) (.ref 830) "__getattribute__" = some (some (.builtin "type.__getattribute__")) := by kernel_rfl
theorem kcl_get : findCls (K P) (.ref 830) (.ref 89) "__getitem__" = some (.val (.ref 728)) := by kernel_rfl
theorem kf_noSeq : noSeq (K P) 929 = true := by kernel_rfl
theorem kf_del : findIn (K P) (.ref 929) "__delitem__" = some (some (.ref 905)) := by kernel_rfl
theorem kfn_905 : isFn (K P) (.ref 905) = true := by kernel_rfl
end
section
variable {prog : Program} {w : World} {A : Around} {g base : Heap} {outer : List Env} {L : Addr} {E : Value → Heap → Prop} {m : Loc} {fp : FP} {n : Nat} {env env' : Env} {st : St} {rest : FP} {ab : Ab} {cur : Int} {rt : Nd} {ch : List Nd} {ex : Bool} {key : Int} {t : Tok}

theorem lpop_spec {c v : Int} {ks : List Int} {r : List (Int × List Int)} {Q : Value → Loc → FP → Prop} (cx : Cx w base outer g L A env (n + 4)) (hw : WF st rest) (ci : CI prog w st ab cur rt ch) (mok : MOK ab.M) (dok : DOK ab.D) (hM : ab.M = (c, key :: ks) :: r) (hv : atI ab.D key = some v)
    (h : ∀ st' ch' M' T t1 t2, Same st' st → WF st' rest → CI prog w st' { ab with D := withoutI ab.D key, M := M' } (cur - szOf ab.sized v) rt ch' → DelR key ab.M M' → (∀ p ∈ objs st' ++ rest, p.1 < T) →
      Q (.ref T) m ((T, tupO [.int key t1, .int v t2]) :: (objs st' ++ rest))) :
    Op prog w A g L E (call (.ref 912) [.ref st.c]) Q m (objs st ++ rest) := by
  obtain ⟨nd, post, ech, hnk⟩ : ∃ nd post, ch = nd :: post ∧ nd.keys = key :: ks := by
    have := ci.M
    rw [hM] at this
    cases ch with
    | nil => cases this
    | cons nd post =>
      rw [List.map_cons] at this
      exact ⟨nd, post, rfl, (Prod.mk.inj (List.cons.inj this).1).2⟩
  subst ech
  have hnd : nd ∈ nd :: post := .head _
  have mn := ci.sh.chm nd hnd
  have ernx : st.nx rt.a = nd.a := ci.sh.ring.1.1
  have hne : nd.a ≠ rt.a := fun e => by
    have := ci.sh.nod
    rw [List.map_cons, List.map_cons, List.nodup_cons] at this
    exact this.1 (e ▸ .head _)
  have hk : key ∈ ab.M.flatMap (·.2) := by rw [hM]; simp
  refine o_call cx (kl_912 _) (kc_912 _) (fun s _ => BindsTo.of_eq rfl) (locs rfl) (by decide) fun g' L' E' cx' _ _ => ?_
  refine o_cons (o_assign (o_attr (o_loc rfl (c_root cx' ci (o_store ?_)))))
  refine o_cons (o_assign (o_attr (o_loc rfl (s_next cx' ci.sh.rtm (o_store ?_)))))
  rw [ernx]
  refine o_cons (o_if (o_isCompare (o_loc rfl (o_loc rfl (o_isOther (m_link mn) (m_link ci.sh.rtm) hne (fun T q => by cases q) (o_truthyBool ?_))))))
  rw [if_neg (by simp)]
  refine o_nil ?_
  refine o_cons (o_assign (o_nameCall (o_built cx' (kn_next _) rfl (by decide) (o_callB (o_argsCons (o_nameCall (o_built cx' (kn_iter _) rfl (by decide) (o_callB (o_argsCons (o_attr (o_loc rfl (s_keys cx' mn (o_argsNil (o_iter (m_keys mn) (ci.kd nd hnd).1 (ci.kd nd hnd).2 fun I oI ep lt hi ha => ?_))))))))))))))
  refine o_argsNil (o_next (k := key) (x := .none) (.head _) hi ha (.tail _ (m_keys mn)) (Nat.ne_of_lt (lt _ (m_keys mn))) (by rw [hnk]; rfl) fun o' t1 _ => o_store ?_)
  refine Op.weaken (fp' := objs st ++ rest) ?_ fun p hp => put_ne (.tail _ hp) (Nat.ne_of_lt (lt p hp))
  refine o_cons (o_assign (o_methodCall _ (o_glob cx' (kn_Cache _) (o_methCls cx' (kg_830 _) (o_clsVal cx' (kT_830 _) (kr_830 _) (kcl_get _) rfl (o_callK cx' (kp_728 _) (o_argsCons (o_loc rfl (o_argsCons (o_loc rfl (o_argsNil (cget_spec cx' ci hv fun t2 => o_store ?_)))))))))))) 
  refine o_cons (o_delSub (o_loc rfl (o_loc rfl (o_delItemInst cx' m_c m_dc (kf_noSeq _) (kf_del _) (kfn_905 _) (ldel_spec cx' hw ci mok dok hv hk fun st' ch' M' ec hw' ci' hd => ?_)))))
  refine o_cons (o_ret (o_tuple (o_argsCons (o_loc rfl (o_argsCons (o_loc rfl (o_argsNil ⟨by simp, fun T lt => ?_⟩)))))))
  exact h st' ch' M' T t1 t2 ec hw' ci' hd lt
end
end Mine
end
section
open PySem PySem.W PySem.Calls PyProof.Rows
set_option Elab.async false
set_option maxRecDepth 100000
set_option linter.unusedVariables false
namespace Mine
section
variable (P : Params)
theorem kn_type : nsIn (K P) mainGlobals "type" = some none := by kernel_rfl
theorem kcl_name : findCls (K P) (.ref 929) (.ref 89) "__name__" = some (.get (.builtin "getset_descriptor.__get__") (.builtin "type.__name__") (.ref 929) (.ref 89)) := by kernel_rfl
theorem ks_89 : subIn (K P) (.ref 89) (.type "type") = some true := by kernel_rfl
theorem kl_929 : (K P).lookup 929 = some o929 := by kernel_rfl
theorem kl_771 : (K P).lookup 771 = some o771 := by kernel_rfl
theorem kl_778 : (K P).lookup 778 = some o778 := by kernel_rfl
theorem kc_778 : codeIn (K P) (.ref 777) "Cache.get" = true := by kernel_rfl
theorem kf_contains : findIn (K P) (.ref 929) "__contains__" = some (some (.ref 749)) := by kernel_rfl
theorem kfn_749 : isFn (K P) (.ref 749) = true := by kernel_rfl
theorem kf_getitem : findIn (K P) (.ref 929) "__getitem__" = some (some (.ref 889)) := by kernel_rfl
theorem kfn_889 : isFn (K P) (.ref 889) = true := by kernel_rfl
theorem kin_889 : fnIn (K P) 889 = true := by kernel_rfl
theorem kl_770 : (K P).lookup 770 = some o770 := by kernel_rfl
theorem kc_770 : codeIn (K P) (.ref 769) "Cache.__len__" = true := by kernel_rfl
theorem kl_763 : (K P).lookup 763 = some o763 := by kernel_rfl
theorem kc_763 : codeIn (K P) (.ref 762) "Cache.__iter__" = true := by kernel_rfl
theorem kl_808 : (K P).lookup 808 = some o808 := by kernel_rfl
theorem kc_808 : codeIn (K P) (.ref 807) "Cache.maxsize" = true := by kernel_rfl
theorem kl_816 : (K P).lookup 816 = some o816 := by kernel_rfl
theorem kc_816 : codeIn (K P) (.ref 815) "Cache.currsize" = true := by kernel_rfl
theorem kl_786 : (K P).lookup 786 = some o786 := by kernel_rfl
theorem kc_786 : codeIn (K P) (.ref 785) "Cache.pop" = true := by kernel_rfl
theorem kl_779 : (K P).lookup 779 = some o779 := by kernel_rfl
theorem kl_706 : (K P).lookup 706 = some o706 := by kernel_rfl
theorem kf_marker : findIn (K P) (.ref 929) "_Cache__marker" = some (some (.ref 706)) := by kernel_rfl
theorem kf_markGet : specialIn (K P) (.ref 706) "__get__" = some none := by kernel_rfl
end
section
variable {prog : Program} {w : World} {A : Around} {g base : Heap} {outer : List Env} {L : Addr} {E : Value → Heap → Prop} {m : Loc} {fp : FP} {n : Nat} {env env' : Env} {st : St} {rest : FP} {ab : Ab} {cur : Int} {rt : Nd} {ch : List Nd} {ex : Bool} {key : Int} {t : Tok}

theorem lpopEmpty_spec {Q : Value → Loc → FP → Prop} (cx : Cx w base outer g L A env (n + 2)) (ci : CI prog w st ab cur rt ch) (hM : ab.M = [])
    (hE : ∀ e h', XC base env outer g L "KeyError" (objs st ++ rest) (fun m' => m' = m) e h' → E e h') :
    Op prog w A g L E (call (.ref 912) [.ref st.c]) Q m (objs st ++ rest) := by
  have ech : ch = [] := by have := ci.M; rw [hM] at this; exact List.map_eq_nil_iff.mp this
  subst ech
  have ernx : st.nx rt.a = rt.a := ci.sh.ring.1.1
  refine o_callE (P := fun _ => True) cx (kl_912 _) (kc_912 _) (fun s _ => BindsTo.of_eq rfl) (locs rfl) (by decide) (fun g' L' cx' _ _ => ?_) hE
  refine o_cons (o_assign (o_attr (o_loc rfl (c_root cx' ci (o_store ?_)))))
  refine o_cons (o_assign (o_attr (o_loc rfl (s_next cx' ci.sh.rtm (o_store ?_)))))
  rw [ernx]
  refine o_cons (o_if (o_isCompare (o_loc rfl (o_loc rfl (o_isSelf (o_truthyBool ?_))))))
  rw [if_pos rfl]
  refine o_cons (o_raiseFrom (base := base) (outer := env :: outer) (env := envX "LFUCache.popitem" f912.1.2.2 L' 912 (.ref 911) []) excClass_KeyError cx'.handled (o_built cx' (kn_KeyError _) rfl (by decide) ⟨rfl, ?_⟩))
  exact o_binop (o_str fun _ => o_attr (o_nameCall (o_built cx' (kn_type _) rfl (by decide) (o_callT (o_argsCons (o_loc rfl (o_argsNil (o_typeOf m_c m_dc (o_clsName cx' (kT_929 _) (kr_929 _) (kcl_name _) (ks_89 _) (kl_929 _) rfl rfl (o_emptyText fun r e h' x => x.mono fun _ _ => trivial))))))))))

/-- len(cache), iter(cache), the properties -/
theorem clen_spec {Q : Value → Loc → FP → Prop} (cx : Cx w base outer g L A env (n + 1)) (ci : CI prog w st ab cur rt ch) (dok : DOK ab.D) (h : ∀ t, Q (.int ab.D.length t) m (objs st ++ rest)) :
    Op prog w A g L E (call (.ref 770) [.ref st.c]) Q m (objs st ++ rest) := by
  obtain ⟨kv, hkv, lo, hp, hlen⟩ := ci.dlen dok
  refine o_call cx (kl_770 _) (kc_770 _) (fun s _ => BindsTo.of_eq rfl) (locs rfl) (by decide) fun g' L' E' cx' _ _ => ?_
  refine o_cons (o_ret (o_nameCall (o_built cx' (kn_len _) rfl (by decide) (o_callB (o_argsCons (o_attr (o_loc rfl (c_data cx' ci (o_argsNil (o_len m_dA hkv lo hlen fun t => ?_)))))))))) 
  rw [hp.len]; exact h t
theorem cmax_spec {Q : Value → Loc → FP → Prop} (cx : Cx w base outer g L A env (n + 1)) (ci : CI prog w st ab cur rt ch) (h : ∀ t, Q (.int ab.room t) m (objs st ++ rest)) :
    Op prog w A g L E (call (.ref 808) [.ref st.c]) Q m (objs st ++ rest) := by
  refine o_call cx (kl_808 _) (kc_808 _) (fun s _ => BindsTo.of_eq rfl) (locs rfl) (by decide) fun g' L' E' cx' _ _ => ?_
  exact o_cons (o_ret (o_attr (o_loc rfl (c_max cx' ci h))))
theorem ccur_spec {Q : Value → Loc → FP → Prop} (cx : Cx w base outer g L A env (n + 1)) (ci : CI prog w st ab cur rt ch) (h : ∀ t, Q (.int cur t) m (objs st ++ rest)) :
    Op prog w A g L E (call (.ref 816) [.ref st.c]) Q m (objs st ++ rest) := by
  refine o_call cx (kl_816 _) (kc_816 _) (fun s _ => BindsTo.of_eq rfl) (locs rfl) (by decide) fun g' L' E' cx' _ _ => ?_
  exact o_cons (o_ret (o_attr (o_loc rfl (c_cur cx' ci h))))

/-- key in cache -/
theorem c_in {Q : Value → Loc → FP → Prop} (cx : Cx w base outer g L A env (n + 1)) (ci : CI prog w st ab cur rt ch) (h : Q (.bool (atI ab.D key).isSome) m (objs st ++ rest)) :
    Op prog w A g L E (compareOp .In (.int key t) (.ref st.c)) Q m (objs st ++ rest) :=
  o_inInst cx m_c m_dc (kf_contains _) (kfn_749 _) (contains_spec cx ci (o_truthyBool h))
/-- cache[key] -/
theorem c_sub {v : Int} {value slice : PySem.Expr} {Q : Value → Loc → FP → Prop} (cx : Cx w base outer g L A env (n + 6)) (hw : WF st rest) (ci : CI prog w st ab cur rt ch) (mok : MOK ab.M) (hv : atI ab.D key = some v) (hk : key ∈ ab.M.flatMap (·.2))
    (h : ∀ st' ch' M' t, Same st' st → WF st' rest → CI prog w st' { ab with M := M' } cur rt ch' → TouchR key ab.M M' → Q (.int v t) m (objs st' ++ rest))
    (hsl : subscripted slice true (.ref st.c) (.int key t) = runValue (.builtin "lifetime.subscript" ⟨[.ref st.c, .int key t], []⟩) := by with_unfolding_all rfl) :
    Op prog w A g L E (subscriptTail value slice (.ref st.c) (.int key t)) Q m (objs st ++ rest) :=
  o_subInst cx m_c m_dc (kf_getitem _) (kfn_889 _) (kin_889 _) (lget_spec cx.in1 hw ci mok hv hk h) hsl
theorem c_subMiss {value slice : PySem.Expr} {Q : Value → Loc → FP → Prop} (cx : Cx w base outer g L A env (n + 4)) (ci : CI prog w st ab cur rt ch) (hv : atI ab.D key = none)
    (hE : ∀ e h', XC base env outer g L "KeyError" (objs st ++ rest) (fun m' => m' = m) e h' → E e h')
    (hsl : subscripted slice true (.ref st.c) (.int key t) = runValue (.builtin "lifetime.subscript" ⟨[.ref st.c, .int key t], []⟩) := by with_unfolding_all rfl) :
    Op prog w A g L E (subscriptTail value slice (.ref st.c) (.int key t)) Q m (objs st ++ rest) :=
  o_subInst cx m_c m_dc (kf_getitem _) (kfn_889 _) (kin_889 _) (lmiss_spec cx.in1 ci hv hE) hsl

/-- cache.get(key, default) -/
theorem cget2_spec {v : Int} {d : Value} {Q : Value → Loc → FP → Prop} (cx : Cx w base outer g L A env (n + 7)) (hw : WF st rest) (ci : CI prog w st ab cur rt ch) (mok : MOK ab.M) (hv : atI ab.D key = some v) (hk : key ∈ ab.M.flatMap (·.2))
    (h : ∀ st' ch' M' t, Same st' st → WF st' rest → CI prog w st' { ab with M := M' } cur rt ch' → TouchR key ab.M M' → Q (.int v t) m (objs st' ++ rest)) :
    Op prog w A g L E (call (.ref 778) [.ref st.c, .int key t, d]) Q m (objs st ++ rest) := by
  refine o_call cx (kl_778 _) (kc_778 _) (fun s X => binds_K (T := 771) X rfl (kl_771 _) rfl rfl rfl) (locs rfl) (by decide) fun g' L' E' cx' _ _ => ?_
  refine o_cons (o_if (o_isCompare (o_loc rfl (o_loc rfl (c_in cx' ci (o_truthyBool ?_))))))
  rw [if_pos (by rw [hv]; rfl)]
  exact o_cons (o_ret (o_subscript (o_loc rfl (o_loc rfl (c_sub cx' hw ci mok hv hk h)))))
theorem cget2Miss_spec {d : Value} {Q : Value → Loc → FP → Prop} (cx : Cx w base outer g L A env (n + 2)) (ci : CI prog w st ab cur rt ch) (hv : atI ab.D key = none) (h : Q d m (objs st ++ rest)) :
    Op prog w A g L E (call (.ref 778) [.ref st.c, .int key t, d]) Q m (objs st ++ rest) := by
  refine o_call cx (kl_778 _) (kc_778 _) (fun s X => binds_K (T := 771) X rfl (kl_771 _) rfl rfl rfl) (locs rfl) (by decide) fun g' L' E' cx' _ _ => ?_
  refine o_cons (o_if (o_isCompare (o_loc rfl (o_loc rfl (c_in cx' ci (o_truthyBool ?_))))))
  rw [if_neg (by rw [hv]; simp)]
  exact o_cons (o_ret (o_loc rfl h))
end
end Mine
end
section
open PySem PySem.W PySem.Calls PyProof.Rows
set_option Elab.async false
set_option maxRecDepth 100000
set_option linter.unusedVariables false
namespace Mine
section
variable (P : Params)
theorem kl_938 : (K P).lookup 938 = some o938 := by kernel_rfl
theorem kc_938 : codeIn (K P) (.ref 937) "_law_size" = true := by kernel_rfl
theorem kp_938 : keepIn (K P) (.ref 938) = true := by kernel_rfl
theorem kf_gso : findIn (K P) (.ref 929) "getsizeof" = some (some (.ref 826)) := by kernel_rfl
theorem kt_826 : (some (Value.ref 826)).all (fun a => (typeIn (K P) a).any fun t => t != .type "function" && t != .type "method_descriptor" && t != .type "wrapper_descriptor") = true := by kernel_rfl
theorem kg_826 : specialIn (K P) (.ref 826) "__get__" = some (some (.builtin "staticmethod.__get__")) := by kernel_rfl
theorem kk_826 : takesIn (K P) (.ref 826) = some false := by kernel_rfl
theorem kl_735 : (K P).lookup 735 = some o735 := by kernel_rfl
theorem kc_735 : codeIn (K P) (.ref 734) "Cache.__setitem__" = true := by kernel_rfl
theorem kf_popitem : findIn (K P) (.ref 929) "popitem" = some (some (.ref 912)) := by kernel_rfl
theorem kfn_912 : isFn (K P) (.ref 912) = true := by kernel_rfl
theorem kp_912 : keepIn (K P) (.ref 912) = true := by kernel_rfl
end

structure AOK (ab : Ab) : Prop where
  mok : MOK ab.M
  dok : DOK ab.D
  perm : (ab.M.flatMap (·.2)).Perm (ab.D.map (·.1))

theorem dropE_mem {c : Int} {ks : List Int} {g : Int × List Int} (h : g ∈ dropE c ks) : g = (c, ks) ∧ ks ≠ [] := by
  unfold dropE at h
  split at h
  · cases h
  · rename_i q
    refine ⟨List.mem_singleton.mp h, fun e => q (by rw [e]; rfl)⟩
theorem dropE_sub {c : Int} {ks : List Int} : List.Sublist (dropE c ks) [(c, ks)] := by
  unfold dropE; split
  · exact List.nil_sublist _
  · exact List.Sublist.refl _
theorem atI_mem {D : List (Int × Int)} {k : Int} : (atI D k).isSome = true ↔ k ∈ D.map (·.1) := by
  unfold atI
  induction D with
  | nil => simp
  | cons x D ih =>
    rw [List.find?_cons, List.map_cons, List.mem_cons]
    by_cases e : x.1 = k
    · rw [decide_eq_true e]; simp [e]
    · rw [decide_eq_false e]
      refine ih.trans ⟨.inr, fun h => h.resolve_left fun q => e q.symm⟩
theorem withoutI_keys {D : List (Int × Int)} {k : Int} : (withoutI D k).map (·.1) = (D.map (·.1)).filter fun x => decide (x ≠ k) := by
  unfold withoutI
  rw [List.filter_map]; rfl
theorem DOK.without {D : List (Int × Int)} (h : DOK D) (k : Int) : DOK (withoutI D k) :=
  ⟨by rw [withoutI_keys]; exact h.keys.filter _, fun x hx => by rw [withoutI_keys] at hx; exact h.small x (List.mem_filter.mp hx).1⟩
theorem DelR.flat {k : Int} {M M' : List (Int × List Int)} (h : DelR k M M') (mok : MOK M) : M'.flatMap (·.2) = (M.flatMap (·.2)).filter fun x => decide (x ≠ k) := by
  obtain ⟨pre, c, ks, r, rfl, hk, rfl⟩ := h
  have nod := mok.keys
  rw [List.flatMap_append, List.flatMap_cons] at nod
  have n1 := List.nodup_append.mp nod
  have n2 := List.nodup_append.mp n1.2.1
  have kr : k ∉ r.flatMap (·.2) := fun q => n2.2.2 k hk k q rfl
  have kp : k ∉ pre.flatMap (·.2) := fun q => n1.2.2 k q k (List.mem_append_left _ hk) rfl
  rw [List.flatMap_append, List.flatMap_append, flat_dropE, List.flatMap_append, List.flatMap_cons, List.filter_append, List.filter_append, filter_none kr, filter_none kp]; rfl
theorem MOK.del {k : Int} {M M' : List (Int × List Int)} (mok : MOK M) (h : DelR k M M') : MOK M' := by
  have e := h.flat mok
  obtain ⟨pre, c, ks, r, rfl, hk, rfl⟩ := h
  have sub : ∀ g ∈ pre ++ (dropE c (outOf k ks) ++ r), g ∈ pre ++ (c, ks) :: r ∨ (g.1 = c ∧ g.2 ≠ []) := fun g hg => by
    rcases List.mem_append.mp hg with q | q
    · exact .inl (List.mem_append_left _ q)
    · rcases List.mem_append.mp q with q | q
      · obtain ⟨e, ne⟩ := dropE_mem q
        exact .inr (by rw [e]; exact ⟨rfl, ne⟩)
      · exact .inl (List.mem_append_right _ (.tail _ q))
  refine ⟨by rw [e]; exact mok.keys.filter _, fun x hx => by rw [e] at hx; exact mok.small x (List.mem_filter.mp hx).1, fun g hg => ?_, fun g hg => ?_, ?_⟩
  · rcases sub g hg with q | q
    · exact mok.full g q
    · exact q.2
  · rcases sub g hg with q | q
    · exact mok.pos g q
    · rw [q.1]; exact mok.pos (c, ks) (by simp)
  · have := mok.asc
    have h2 : List.Pairwise (fun a b : Int => a < b) ((pre ++ (c, ks) :: r).map (·.1)) := List.pairwise_map.mpr this
    refine (List.pairwise_map (R := fun a b : Int => a < b) (f := fun x : Int × List Int => x.1)).mp ?_
    refine List.Pairwise.sublist ?_ h2
    rw [List.map_append, List.map_append, List.map_append, List.map_cons]
    refine List.Sublist.append (List.Sublist.refl _) ?_
    have : List.Sublist ((dropE c (outOf k ks)).map (·.1)) [c] := (dropE_sub (c := c) (ks := outOf k ks)).map (·.1)
    exact this.append (List.Sublist.refl _)
theorem AOK.del {ab : Ab} {k : Int} {M' : List (Int × List Int)} (a : AOK ab) (h : DelR k ab.M M') : AOK { ab with D := withoutI ab.D k, M := M' } :=
  ⟨a.mok.del h, a.dok.without k, by
    show (M'.flatMap (·.2)).Perm ((withoutI ab.D k).map (·.1))
    rw [h.flat a.mok, withoutI_keys]; exact a.perm.filter _⟩
theorem roomOf_without {sized : Bool} {D : List (Int × Int)} {k v : Int} (hn : (D.map (·.1)).Nodup) (h : atI D k = some v) : roomOf sized (withoutI D k) = roomOf sized D - szOf sized v := by
  unfold roomOf withoutI
  induction D with
  | nil => cases h
  | cons x D ih =>
    rw [List.map_cons, List.nodup_cons] at hn
    unfold atI at h ih
    rw [List.find?_cons] at h
    rw [List.filter_cons]
    by_cases e : x.1 = k
    · rw [decide_eq_true e] at h
      have hx : x.2 = v := by simpa using h
      rw [if_neg (by simpa using e), List.map_cons, List.sum_cons, hx]
      have : (D.filter fun kv => decide (kv.1 ≠ k)) = D := List.filter_eq_self.mpr fun y hy => by
        have : y.1 ≠ k := fun q => hn.1 (by rw [e, ← q]; exact List.mem_map_of_mem hy)
        simpa using this
      rw [this]; omega
    · rw [decide_eq_false e] at h
      rw [if_pos (by simpa using e), List.map_cons, List.sum_cons, List.map_cons, List.sum_cons, ih hn.2 h]; omega
theorem withoutI_none {D : List (Int × Int)} {k : Int} (h : atI D k = none) : withoutI D k = D := by
  unfold withoutI
  refine List.filter_eq_self.mpr fun y hy => ?_
  have : y.1 ≠ k := fun q => by
    have := atI_mem.mpr (List.mem_map_of_mem (f := (·.1)) hy)
    rw [q, h] at this; cases this
  simpa using this

/-- making room for a key: the least used go while it does not fit -/
inductive EvR (key sz : Int) : Ab → Ab → Prop
  | done {ab : Ab} : ¬ roomOf ab.sized (withoutI ab.D key) + sz > ab.room → EvR key sz ab ab
  | step {ab ab' : Ab} {c k : Int} {ks : List Int} {r M' : List (Int × List Int)} : roomOf ab.sized (withoutI ab.D key) + sz > ab.room → ab.M = (c, k :: ks) :: r → DelR k ab.M M' → EvR key sz { ab with D := withoutI ab.D k, M := M' } ab' → EvR key sz ab ab'

section
variable {prog : Program} {w : World} {A : Around} {g base : Heap} {outer : List Env} {L : Addr} {E : Value → Heap → Prop} {m : Loc} {fp : FP} {n : Nat} {env env' : Env} {st : St} {rest : FP} {ab : Ab} {cur : Int} {rt : Nd} {ch : List Nd} {ex : Bool} {key : Int} {t : Tok}

theorem size_spec {v : Int} {Q : Value → Loc → FP → Prop} (cx : Cx w base outer g L A env (n + 1)) (h : ∀ t, Q (.int (v % 5 - 1) t) m fp) : Op prog w A g L E (call (.ref 938) [.int v t]) Q m fp := by
  refine o_call cx (kl_938 _) (kc_938 _) (fun s _ => BindsTo.of_eq rfl) (locs rfl) (by decide) fun g' L' E' cx' _ _ => ?_
  exact o_cons (o_ret (o_binop (o_binop (o_loc rfl (o_int fun _ => o_mod (by decide) fun _ => o_int fun _ => o_sub h)))))
/-- the getsizeof of a sized cache, looked up to be called -/
theorem c_gso {sA : Addr} {oS : Obj} {pl : Sem Bool} {Q : Value × List Value → Loc → FP → Prop} (cx : Cx w base outer g L A env n) (ci : CI prog w st ab cur rt ch) (hs : st.sz = some (sA, oS)) (h : Q (.ref 938, []) m (objs st ++ rest)) :
    Op prog w A g L E (getMethod (.ref st.c) "getsizeof" pl) Q m (objs st ++ rest) := by
  obtain ⟨tc, tm, att⟩ := ci.att
  exact o_methUsual cx m_c m_dc (kf_pg _ _) (kf_gso _) (kt_826 _) (o_getSm cx m_c m_dc (kf_pg _ _) (kf_hd _) (kf_gso _) (kg_826 _) (kk_826 _) (by rw [att.at_, hs]; rfl) rfl h)

/-- self.popitem(), called for its effect -/
theorem c_pop {c k : Int} {ks : List Int} {r : List (Int × List Int)} {e : PySem.Expr} {env' : Env} {apos pos : Pos} {Q : Value → Loc → FP → Prop} (cx : Cx w base outer g L A env (n + 4)) (hw : WF st rest) (ci : CI prog w st ab cur rt ch) (aok : AOK ab) (hM : ab.M = (c, k :: ks) :: r)
    (he : ∀ Q' : Value → Loc → FP → Prop, Q' (.ref st.c) m (objs st ++ rest) → Op prog w A g L E (eval e env') Q' m (objs st ++ rest))
    (h : ∀ st' ch' M' v', Same st' st → WF st' rest → CI prog w st' { ab with D := withoutI ab.D k, M := M' } (cur - szOf ab.sized v') rt ch' → DelR k ab.M M' → atI ab.D k = some v' → ∀ u fp', (∀ p ∈ objs st' ++ rest, p ∈ fp') → Q u m fp')
    {pl : Sem Bool} (hc : eval (.Call (.Attribute e "popitem" apos) [] [] pos) env' = (do
      let ov ← eval e env'
      standAt apos.atName
      let (f, first) ← holding [ov] (getMethod ov "popitem" pl)
      callWith pos f first (backTo pos (starEach [] env')) (backToKw pos (keywordEach [] env'))) := by rfl) :
    Op prog w A g L E (eval (.Call (.Attribute e "popitem" apos) [] [] pos) env') Q m (objs st ++ rest) := by
  have hk : k ∈ ab.D.map (·.1) := aok.perm.mem_iff.mp (by rw [hM]; simp)
  obtain ⟨v', hv'⟩ := Option.isSome_iff_exists.mp (atI_mem.mpr hk)
  exact o_methodCall _ (he _ (c_meth cx ci (kf_popitem _) (kfn_912 _) (fun _ _ _ _ _ _ _ _ => rfl) (o_callK0 cx (kp_912 _) (lpop_spec cx hw ci aok.mok aok.dok hM hv' fun st' ch' M' T t1 t2 ec hw' ci' hd lt => h st' ch' M' v' ec hw' ci' hd hv' _ _ fun p hp => .tail _ hp)))) hc
end
end Mine
end
section
open PySem PySem.W PySem.Calls PyProof.Rows
set_option Elab.async false
set_option maxRecDepth 100000
set_option linter.unusedVariables false
namespace Mine
structure SetJ5 (st : St) (ab : Ab) (key v : Int) (t tv : Tok) (m' : Loc) : Prop where
  a1 : m' "self" = some (.ref st.c)
  a2 : m' "data" = some (.ref st.dA)
  a3 : m' "key" = some (.int key t)
  a4 : m' "value" = some (.int v tv)
  a5 : ∃ tx, m' "maxsize" = some (.int ab.room tx)
section
variable {prog : Program} {w : World} {A : Around} {g base : Heap} {outer : List Env} {L : Addr} {E : Value → Heap → Prop} {m : Loc} {fp : FP} {n : Nat} {env env' : Env} {st : St} {rest : FP} {ab : Ab} {cur : Int} {rt : Nd} {ch : List Nd} {ex : Bool} {key : Int} {t : Tok}

/-- where a loop that makes room stands -/
structure EvAt (prog : Program) (w : World) (st₀ : St) (ab₀ : Ab) (rt : Nd) (rest : FP) (key sz : Int) (st : St) (ch : List Nd) (ab : Ab) : Prop where
  same : Same st st₀
  wf : WF st rest
  ci : CI prog w st ab (roomOf ab.sized ab.D) rt ch
  aok : AOK ab
  sized : ab.sized = ab₀.sized
  room : ab.room = ab₀.room
  reach : ∀ ab', EvR key sz ab ab' → EvR key sz ab₀ ab'

theorem EvAt.pop {st₀ : St} {ab₀ : Ab} {sz c k v' : Int} {ks : List Int} {r M' : List (Int × List Int)} {st' : St} {ch' : List Nd} (x : EvAt prog w st₀ ab₀ rt rest key sz st ch ab) (hc : roomOf ab.sized (withoutI ab.D key) + sz > ab.room) (hM : ab.M = (c, k :: ks) :: r)
    (ec : Same st' st) (hw' : WF st' rest) (ci' : CI prog w st' { ab with D := withoutI ab.D k, M := M' } (roomOf ab.sized ab.D - szOf ab.sized v') rt ch') (hd : DelR k ab.M M') (hv : atI ab.D k = some v') :
    EvAt prog w st₀ ab₀ rt rest key sz st' ch' { ab with D := withoutI ab.D k, M := M' } :=
  ⟨ec.trans x.same, hw', by rw [← roomOf_without x.aok.dok.keys hv] at ci'; exact ci', x.aok.del hd, x.sized, x.room, fun ab' h => x.reach _ (.step hc hM hd h)⟩
theorem withoutI_lt {D : List (Int × Int)} {k v : Int} (h : atI D k = some v) : (withoutI D k).length < D.length := by
  unfold withoutI
  have hm := atI_mem.mp (by rw [h]; rfl)
  obtain ⟨y, hy, e⟩ := List.mem_map.mp hm
  exact List.length_filter_lt_length_iff_exists.mpr ⟨y, hy, by simpa using e⟩
theorem nonempty_of {sized : Bool} {D : List (Int × Int)} {M : List (Int × List Int)} {key sz room : Int} (aok : AOK ⟨sized, room, D, M⟩) (hsz : sz ≤ room) (hc : roomOf sized (withoutI D key) + sz > room) : ∃ c k ks r, M = (c, k :: ks) :: r := by
  cases M with
  | nil =>
    have : D = [] := by
      have := aok.perm.length_eq
      simp only [List.flatMap_nil, List.length_nil, List.length_map] at this
      exact List.length_eq_zero_iff.mp this.symm
    subst this
    simp only [withoutI, List.filter_nil, roomOf, List.map_nil, List.sum_nil] at hc
    omega
  | cons g r =>
    obtain ⟨c, ks⟩ := g
    cases ks with
    | nil => exact absurd rfl (aok.mok.full (c, []) (.head _))
    | cons k ks => exact ⟨c, k, ks, r, rfl⟩
theorem atI_without {D : List (Int × Int)} {k j : Int} (h : atI D j = none) : atI (withoutI D k) j = none := by
  cases q : atI (withoutI D k) j with
  | none => rfl
  | some v =>
    have h1 := atI_mem.mp (show (atI (withoutI D k) j).isSome = true by rw [q]; rfl)
    rw [withoutI_keys] at h1
    have h2 := atI_mem.mpr (List.mem_filter.mp h1).1
    rw [h] at h2; cases h2

theorem storedI_old {D : List (Int × Int)} {k v : Int} (h : (atI D k).isSome = true) : storedI D k v = D.map fun kv => if kv.1 = k then (kv.1, v) else kv := by
  unfold storedI
  rw [if_pos]
  obtain ⟨y, hy, e⟩ := List.mem_map.mp (atI_mem.mp h)
  exact List.any_eq_true.mpr ⟨y, hy, by simpa using e⟩
theorem storedI_new {D : List (Int × Int)} {k v : Int} (h : atI D k = none) : storedI D k v = D ++ [(k, v)] := by
  unfold storedI
  rw [if_neg]
  intro q
  obtain ⟨y, hy, e⟩ := List.any_eq_true.mp q
  have := atI_mem.mpr (List.mem_map.mpr ⟨y, hy, (by simpa using e : y.1 = k)⟩)
  rw [h] at this; cases this
theorem roomOf_app {sized : Bool} {D : List (Int × Int)} {k v : Int} : roomOf sized (D ++ [(k, v)]) = roomOf sized D + szOf sized v := by
  unfold roomOf; rw [List.map_append, List.sum_append]; simp
theorem roomOf_stored_old {sized : Bool} {D : List (Int × Int)} {k v v0 : Int} (hn : (D.map (·.1)).Nodup) (h : atI D k = some v0) : roomOf sized (storedI D k v) = roomOf sized D - szOf sized v0 + szOf sized v := by
  rw [storedI_old (by rw [h]; rfl)]
  unfold roomOf
  induction D with
  | nil => cases h
  | cons x D ih =>
    rw [List.map_cons, List.nodup_cons] at hn
    unfold atI at h ih
    rw [List.find?_cons] at h
    rw [List.map_cons, List.map_cons, List.sum_cons, List.map_cons, List.sum_cons]
    by_cases e : x.1 = k
    · rw [decide_eq_true e] at h
      have hx : x.2 = v0 := by simpa using h
      rw [if_pos e, hx]
      have : (D.map fun kv => if kv.1 = k then (kv.1, v) else kv) = D := by
        conv => rhs; rw [← List.map_id D]
        refine List.map_congr_left fun y hy => if_neg fun q => hn.1 ?_
        rw [e, ← q]; exact List.mem_map_of_mem hy
      rw [this]; dsimp only; omega
    · rw [decide_eq_false e] at h
      rw [if_neg e, ih hn.2 h]; omega

/-- the store into data, after room is made: unsized -/
theorem csetU_spec {v : Int} {tv : Tok} {Q : Value → Loc → FP → Prop} (cx : Cx w base outer g L A env (n + 6)) (hw : WF st rest) (ci : CI prog w st ab (roomOf ab.sized ab.D) rt ch) (aok : AOK ab) (hs : st.sz = none) (hr : 1 ≤ ab.room) (hcur : roomOf ab.sized ab.D ≤ ab.room)
    (h : ∀ st' ch' ab', Same st' st → WF st' rest → EvR key 1 ab ab' → AOK ab' → ab'.sized = ab.sized → ab'.room = ab.room → CI prog w st' { ab' with D := storedI ab'.D key v } (roomOf ab'.sized (storedI ab'.D key v)) rt ch' → Q .none m (objs st' ++ rest)) :
    Op prog w A g L E (call (.ref 735) [.ref st.c, .int key t, .int v tv]) Q m (objs st ++ rest) := by
  have hsz := ci_sz ci hs
  obtain ⟨kv, hkv, lo, hp, hlen⟩ := ci.dlen aok.dok
  refine o_call cx (kl_735 _) (kc_735 _) (fun s _ => BindsTo.of_eq rfl) (locs rfl) (by decide) fun g' L' E' cx' _ _ => ?_
  refine o_cons (o_assign (o_attr (o_loc rfl (c_data cx' ci (o_store ?_)))))
  refine o_cons (o_assign (o_attr (o_loc rfl (c_sizeNo cx' ci hs (o_store ?_)))))
  refine o_cons (o_assign (o_attr (o_loc rfl (c_max cx' ci fun tm => o_store ?_))))
  refine o_cons (o_if (o_isCompare (o_loc rfl (o_none (o_isNone (o_truthyBool ?_))))))
  rw [if_pos (by rfl)]
  refine o_cons (o_if (o_isCompare (o_loc rfl (o_int fun _ => o_ltI (o_truthyBool ?_)))))
  rw [if_neg (by simpa using hr)]
  refine o_cons (o_if (o_isCompare (o_loc rfl (o_loc rfl (o_in m_dA hkv lo rfl (o_truthyBool ?_))))))
  have hb : (valueAt kv key).isSome = (atI ab.D key).isSome := by
    rcases hp.at_ key with ⟨a, b⟩ | ⟨n, t, a, b⟩ <;> rw [a, b] <;> rfl
  rw [hb]
  cases hat : atI ab.D key with
  | some v0 =>
    rw [if_pos (by rfl)]
    refine o_cons (o_assignSub (o_loc rfl (o_loc rfl (o_loc rfl (o_setItem m_dA hkv hlen fun o' ho' => to_data hw (o_nil (o_nil (o_nil (o_nil ?_)))))))))
    have e1 := roomOf_without (sized := ab.sized) aok.dok.keys hat
    have e2 := roomOf_stored_old (sized := ab.sized) (v := v) aok.dok.keys hat
    have e3 : szOf ab.sized v0 = 1 ∧ szOf ab.sized v = 1 := by rw [hsz]; exact ⟨rfl, rfl⟩
    obtain ⟨tc, tm, att⟩ := ci.att
    refine h { st with oD := o' } ch ab ⟨rfl, rfl, rfl⟩ hw (.done (by omega)) aok rfl rfl ⟨⟨tc, tm, ?_⟩, ci.sh.copy, ci.kd, ci.M, ci.hL, ⟨_, ho', lo, hp.stored key v tv⟩, ?_⟩
    · have : roomOf ab.sized (storedI ab.D key v) = roomOf ab.sized ab.D := by omega
      show Att 7 st.es (attF _ _ _ _ (roomOf ab.sized (storedI ab.D key v)) _ _ _)
      rw [this]; exact att
    · show match st.sz with | some (sA, oS) => _ | none => _
      rw [hs]; exact hsz
  | none =>
    rw [if_neg (by simp)]
    obtain ⟨J, hJ⟩ : ∃ J : Nat → Loc → FP → Prop, ∀ n' m' fp', J n' m' fp' ↔ (∃ st' ch' ab', SetJ5 st ab key v t tv m' ∧ fp' = objs st' ++ rest ∧
      EvAt prog w st ab rt rest key 1 st' ch' ab' ∧ ab'.D.length = n' ∧ atI ab'.D key = none) := ⟨_, fun _ _ _ => Iff.rfl⟩
    refine o_cons (o_while J ab.D.length ((hJ _ _ _).mpr ⟨st, ch, ab, ⟨rfl, rfl, rfl, rfl, _, rfl⟩, rfl, ⟨⟨rfl, rfl, rfl⟩, hw, ci, aok, rfl, rfl, fun _ x => x⟩, rfl, hat⟩) rfl ?_)
    intro n1 m1 fp1 hj
    obtain ⟨st1, ch1, ab1, ⟨hm1, hm2, hm3, hm4, tx, hm5⟩, rfl, ev, hn1, hno⟩ := (hJ _ _ _).mp hj
    rw [← ev.same.1] at hm1
    rw [← ev.same.2.1] at hm2
    refine o_isCompare (o_binop (o_attr (o_loc hm1 (c_cur cx' ev.ci fun _ => o_int fun _ => o_add fun _ => o_loc hm5 (o_gtI (o_truthyBool ?_))))))
    by_cases hc : roomOf ab1.sized ab1.D + 1 > ab.room
    · rw [if_pos (by simpa using hc)]
      have hc' : roomOf ab1.sized (withoutI ab1.D key) + 1 > ab1.room := by rw [withoutI_none hno, ev.room]; exact hc
      obtain ⟨c, k, ks, r, hM⟩ := nonempty_of (sized := ab1.sized) (room := ab1.room) (D := ab1.D) (M := ab1.M) (sz := 1) ev.aok (by rw [ev.room]; exact hr) hc'
      refine o_cons (o_exprStmt (c_pop cx' ev.wf ev.ci ev.aok hM (fun Q' q => o_loc hm1 q) fun st2 ch2 M2 v2 ec hw2 ci2 hd hv2 u fp2 hsub => ?_))
      refine Op.weaken (o_nil ⟨_, hn1 ▸ withoutI_lt hv2, (hJ _ _ _).mpr ⟨st2, ch2, _, ⟨?_, ?_, hm3, hm4, tx, hm5⟩, rfl, ev.pop hc' hM ec hw2 ci2 hd hv2, rfl, atI_without hno⟩⟩) hsub
      · rw [hm1, ev.same.1]
      · rw [hm2, ev.same.2.1]
    · rw [if_neg (by simpa using hc)]
      obtain ⟨kv1, hkv1, lo1, hp1, hlen1⟩ := ev.ci.dlen ev.aok.dok
      obtain ⟨tc1, tm1, att1⟩ := ev.ci.att
      refine o_cons (o_assignSub (o_loc hm4 (o_loc hm2 (o_loc hm3 (o_setItem m_dA hkv1 hlen1 fun o' ho' => to_data ev.wf ?_)))))
      refine o_cons (o_augAttr (o_loc hm1 (s_get (st := { st1 with oD := o' }) cx' (kf_cur _) (kf_noget _) att1 rfl rfl (o_int fun _ => o_iadd fun tr => s_set (st := { st1 with oD := o' }) cx' ev.wf (kt_cur _) (by decide) att1 rfl fun es ep att' => to_attr (st := { st1 with oD := o' }) ev.wf (o_nil (o_nil (o_nil (o_nil ?_))))))))
      rw [attF_cur] at att'
      have hsz1 : ab1.sized = false := ev.sized.trans hsz
      have hs1 : st1.sz = none := by have := ev.same.2.2; rw [hs] at this; exact Option.map_eq_none_iff.mp this
      refine h { st1 with oD := o', es := es, ep := ep } ch1 ab1 ev.same ev.wf (ev.reach _ (.done (by rw [withoutI_none hno, ev.room]; exact hc))) ev.aok ev.sized ev.room ⟨⟨tr, tm1, ?_⟩, ev.ci.sh.copy, ev.ci.kd, ev.ci.M, ev.ci.hL, ⟨_, ho', lo1, hp1.stored key v tv⟩, ?_⟩
      · rw [storedI_new hno, roomOf_app, hsz1]
        rw [hsz1] at att'
        exact att'
      · show match st1.sz with | some (sA, oS) => _ | none => _
        rw [hs1]; exact hsz1
end
end Mine
end
section
open PySem PySem.W PySem.Calls PyProof.Rows
set_option Elab.async false
set_option maxRecDepth 100000
set_option linter.unusedVariables false
namespace Mine
structure SetJ8 (st : St) (ab : Ab) (sA : Addr) (key v d : Int) (t tv ti td : Tok) (m' : Loc) : Prop where
  a1 : m' "self" = some (.ref st.c)
  a2 : m' "data" = some (.ref st.dA)
  a3 : m' "key" = some (.int key t)
  a4 : m' "value" = some (.int v tv)
  a5 : ∃ tx, m' "maxsize" = some (.int ab.room tx)
  a6 : m' "size" = some (.ref sA)
  a7 : m' "itemsize" = some (.int (szOf true v) ti)
  a8 : m' "diffsize" = some (.int d td)
def elseOf : Stmt → List Stmt
  | .If _ _ b _ => b
  | _ => []
noncomputable abbrev env735 (L : Addr) : Env := envX "Cache.__setitem__" f735.1.2.2 L 735 (.ref 734) []
section
variable {prog : Program} {w : World} {A : Around} {g base : Heap} {outer : List Env} {L : Addr} {E : Value → Heap → Prop} {m : Loc} {fp : FP} {n : Nat} {env env' : Env} {st : St} {rest : FP} {ab : Ab} {cur : Int} {rt : Nd} {ch : List Nd} {ex : Bool} {key : Int} {t : Tok}

theorem csetS_tail {v d : Int} {tv ti td : Tok} {sA : Addr} {oS : Obj} {Q : Flow → Loc → FP → Prop} (cx : Cx w base outer g L A (env735 L) n) (hw : WF st rest) (ci : CI prog w st ab (roomOf ab.sized ab.D) rt ch) (aok : AOK ab) (hs : st.sz = some (sA, oS))
    (hd : roomOf ab.sized ab.D + d = roomOf ab.sized (storedI ab.D key v))
    (h1 : m "self" = some (.ref st.c)) (h2 : m "data" = some (.ref st.dA)) (h3 : m "key" = some (.int key t)) (h4 : m "value" = some (.int v tv)) (h5 : m "size" = some (.ref sA)) (h6 : m "itemsize" = some (.int (szOf true v) ti)) (h7 : m "diffsize" = some (.int d td))
    (h : ∀ st', Same st' st → WF st' rest → CI prog w st' { ab with D := storedI ab.D key v } (roomOf ab.sized (storedI ab.D key v)) rt ch → Q .next m (objs st' ++ rest)) :
    Op prog w A g L E (execs (List.drop 4 (elseOf (nth f735.1.2.1 3))) (env735 L)) Q m (objs st ++ rest) := by
  obtain ⟨kv, hkv, lo, hp, hlen⟩ := ci.dlen aok.dok
  obtain ⟨hsz, kvS, hS, loS, hpS⟩ := ci_szS ci hs
  obtain ⟨tc, tm, att⟩ := ci.att
  have hlenS : kvS.length ≤ 1000 := by rw [hpS.len, List.length_map, ← hp.len]; exact hlen
  refine o_cons (o_assignSub (o_loc h4 (o_loc h2 (o_loc h3 (o_setItem m_dA hkv hlen fun o' ho' => to_data hw ?_)))))
  have hs1 : ({ st with oD := o' } : St).sz = some (sA, oS) := hs
  refine o_cons (o_assignSub (o_loc h6 (o_loc h5 (o_loc h3 (o_setItem (m_sz hs1) hS hlenS fun oS' hoS' => to_sz (st := { st with oD := o' }) hw hs1 ?_)))))
  have hw1 : WF { st with oD := o', sz := some (sA, oS') } rest := hw.same (by simp only [addrs', hs, Option.toList, List.map_cons, List.map_nil])
  have att1 : Att 7 ({ st with oD := o', sz := some (sA, oS') } : St).es (attF (st.sz.map (·.1)) st.dA rt.a st.lA (roomOf ab.sized ab.D) tc ab.room tm) := att
  refine o_cons (o_augAttr (o_loc h1 (s_get (st := { st with oD := o', sz := some (sA, oS') }) cx (kf_cur _) (kf_noget _) att1 rfl rfl (o_loc h7 (o_iadd fun tr => s_set (st := { st with oD := o', sz := some (sA, oS') }) cx hw1 (kt_cur _) (by decide) att1 rfl fun es ep att' => to_attr (st := { st with oD := o', sz := some (sA, oS') }) hw1 (o_nil ?_))))))
  rw [attF_cur] at att'
  refine h { st with oD := o', sz := some (sA, oS'), es := es, ep := ep } ⟨rfl, rfl, by rw [hs]; rfl⟩ hw1 ⟨⟨tr, tm, ?_⟩, ci.sh.copy, ci.kd, ci.M, ci.hL, ⟨_, ho', lo, hp.stored key v tv⟩, ⟨hsz, _, hoS', loS, ?_⟩⟩
  · rw [← hd]; rw [hs] at att'; exact att'
  · have := hpS.stored key (szOf true v) ti
    rw [storedI_map (f := szOf true)] at this
    exact this

theorem atI_ne {D : List (Int × Int)} {k j : Int} (h : j ≠ k) : atI (withoutI D k) j = atI D j := by
  unfold atI withoutI
  induction D with
  | nil => rfl
  | cons x D ih =>
    rw [List.filter_cons, List.find?_cons]
    by_cases e : x.1 = k
    · rw [if_neg (by simpa using e), ih, decide_eq_false (fun q => h (q.symm.trans e))]
    · rw [if_pos (by simpa using e), List.find?_cons]
      cases decide (x.1 = j)
      · exact ih
      · rfl
theorem csetS_spec {v : Int} {tv : Tok} {sA : Addr} {oS : Obj} {Q : Value → Loc → FP → Prop} (cx : Cx w base outer g L A env (n + 6)) (hw : WF st rest) (ci : CI prog w st ab (roomOf ab.sized ab.D) rt ch) (aok : AOK ab) (hs : st.sz = some (sA, oS)) (h0 : 0 ≤ szOf true v) (hr : szOf true v ≤ ab.room)
    (h : ∀ st' ch' ab', Same st' st → WF st' rest → EvR key (szOf true v) ab ab' → AOK ab' → ab'.sized = ab.sized → ab'.room = ab.room → CI prog w st' { ab' with D := storedI ab'.D key v } (roomOf ab'.sized (storedI ab'.D key v)) rt ch' → Q .none m (objs st' ++ rest)) :
    Op prog w A g L E (call (.ref 735) [.ref st.c, .int key t, .int v tv]) Q m (objs st ++ rest) := by
  obtain ⟨hsz, kvS, hS, loS, hpS⟩ := ci_szS ci hs
  obtain ⟨kv, hkv, lo, hp, hlen⟩ := ci.dlen aok.dok
  refine o_call cx (kl_735 _) (kc_735 _) (fun s _ => BindsTo.of_eq rfl) (locs rfl) (by decide) fun g' L' E' cx' _ _ => ?_
  refine o_cons (o_assign (o_attr (o_loc rfl (c_data cx' ci (o_store ?_)))))
  refine o_cons (o_assign (o_attr (o_loc rfl (c_sizeYes cx' ci hs (o_store ?_)))))
  refine o_cons (o_assign (o_attr (o_loc rfl (c_max cx' ci fun tm => o_store ?_))))
  refine o_cons (o_if (o_isCompare (o_loc rfl (o_none (o_isNone (o_truthyBool ?_))))))
  rw [if_neg (by rw [show (Value.ref sA == Value.none) = false from rfl]; simp)]
  refine o_cons (o_assign (o_methodCall _ (o_loc rfl (c_gso cx' ci hs (o_callK cx' (kp_938 _) (o_argsCons (o_loc rfl (o_argsNil (size_spec cx' fun ti => o_store ?_)))))))))
  refine o_cons (o_if (o_isCompare (o_loc rfl (o_loc rfl (o_gtI (o_truthyBool ?_))))))
  rw [if_neg (by rw [decide_eq_true_eq]; have := hr; rw [show szOf true v = v % 5 - 1 from rfl] at this; omega)]
  refine o_nil ?_
  refine o_cons (o_if (o_isCompare (o_loc rfl (o_int fun _ => o_ltI (o_truthyBool ?_)))))
  rw [if_neg (by rw [decide_eq_true_eq]; have := h0; rw [show szOf true v = v % 5 - 1 from rfl] at this; omega)]
  refine o_nil ?_
  refine o_cons (o_if (o_isCompare (o_loc rfl (o_loc rfl (o_notIn m_dA hkv lo rfl (o_truthyBool ?_))))))
  have hb : (valueAt kv key).isSome = (atI ab.D key).isSome := by
    rcases hp.at_ key with ⟨a, b⟩ | ⟨n, t, a, b⟩ <;> rw [a, b] <;> rfl
  rw [hb]
  cases hat : atI ab.D key with
  | none =>
    rw [if_pos (by rfl)]
    refine o_cons (o_assign (o_loc rfl (o_store ?_)))
    obtain ⟨J, hJ⟩ : ∃ J : Nat → Loc → FP → Prop, ∀ n' m' fp', J n' m' fp' ↔ (∃ st' ch' ab', SetJ8 st ab sA key v (szOf true v) t tv ti ti m' ∧ fp' = objs st' ++ rest ∧
      EvAt prog w st ab rt rest key (szOf true v) st' ch' ab' ∧ ab'.D.length = n' ∧ atI ab'.D key = none) := ⟨_, fun _ _ _ => Iff.rfl⟩
    refine o_cons (o_while J ab.D.length ((hJ _ _ _).mpr ⟨st, ch, ab, ⟨rfl, rfl, rfl, rfl, ⟨_, rfl⟩, rfl, rfl, rfl⟩, rfl, ⟨⟨rfl, rfl, rfl⟩, hw, ci, aok, rfl, rfl, fun _ x => x⟩, rfl, hat⟩) rfl ?_)
    intro n1 m1 fp1 hj
    obtain ⟨st1, ch1, ab1, ⟨hm1, hm2, hm3, hm4, ⟨tx, hm5⟩, hm6, hm7, hm8⟩, rfl, ev, hn1, hno⟩ := (hJ _ _ _).mp hj
    rw [← ev.same.1] at hm1
    rw [← ev.same.2.1] at hm2
    refine o_isCompare (o_binop (o_attr (o_loc hm1 (c_cur cx' ev.ci fun _ => o_loc hm8 (o_add fun _ => o_loc hm5 (o_gtI (o_truthyBool ?_)))))))
    by_cases hc : roomOf ab1.sized ab1.D + szOf true v > ab.room
    · rw [if_pos (by simpa using hc)]
      have hc' : roomOf ab1.sized (withoutI ab1.D key) + szOf true v > ab1.room := by rw [withoutI_none hno, ev.room]; exact hc
      obtain ⟨c, k, ks, r, hM⟩ := nonempty_of (sized := ab1.sized) (room := ab1.room) (D := ab1.D) (M := ab1.M) (sz := szOf true v) ev.aok (by rw [ev.room]; exact hr) hc'
      refine o_cons (o_exprStmt (c_pop cx' ev.wf ev.ci ev.aok hM (fun Q' q => o_loc hm1 q) fun st2 ch2 M2 v2 ec hw2 ci2 hd hv2 u fp2 hsub => ?_))
      refine Op.weaken (o_nil ⟨_, hn1 ▸ withoutI_lt hv2, (hJ _ _ _).mpr ⟨st2, ch2, _, ⟨?_, ?_, hm3, hm4, ⟨tx, hm5⟩, hm6, hm7, hm8⟩, rfl, ev.pop hc' hM ec hw2 ci2 hd hv2, rfl, atI_without hno⟩⟩) hsub
      · rw [hm1, ev.same.1]
      · rw [hm2, ev.same.2.1]
    · rw [if_neg (by simpa using hc)]
      obtain ⟨oS1, hs1⟩ : ∃ oS1, st1.sz = some (sA, oS1) := by
        have := ev.same.2.2; rw [hs] at this
        obtain ⟨p, hp, e⟩ := Option.map_eq_some_iff.mp this
        exact ⟨p.2, by rw [hp]; exact congrArg some (Prod.ext e rfl)⟩
      refine o_nil (csetS_tail (t := t) (tv := tv) (ti := ti) (td := ti) (d := szOf true v) (v := v) cx' ev.wf ev.ci ev.aok hs1 ?_ hm1 hm2 hm3 hm4 hm6 hm7 hm8 fun st2 ec hw2 ci2 => o_nil ?_)
      · rw [storedI_new hno, roomOf_app, ev.sized, hsz]
      · exact h st2 ch1 ab1 (ec.trans ev.same) hw2 (ev.reach _ (.done (by rw [withoutI_none hno, ev.room]; exact hc))) ev.aok ev.sized ev.room ci2
  | some v0 =>
    rw [if_neg (by simp)]
    obtain ⟨tk, hbS⟩ : ∃ tk, valueAt kvS key = some (.int (szOf true v0) tk) := by
      rcases hpS.at_ key with ⟨a, b⟩ | ⟨n, t, a, b⟩
      · rw [atI_map, hat] at b; cases b
      · rw [atI_map, hat] at b; cases b; exact ⟨t, a⟩
    refine o_cons (o_assign (o_binop (o_loc rfl (o_subscript (o_loc rfl (o_loc rfl (o_item (m_sz hs) hS hbS (o_sub fun td => o_store ?_))))))))
    obtain ⟨J, hJ⟩ : ∃ J : Nat → Loc → FP → Prop, ∀ n' m' fp', J n' m' fp' ↔ (∃ st' ch' ab' d td, SetJ8 st ab sA key v d t tv ti td m' ∧ fp' = objs st' ++ rest ∧
      EvAt prog w st ab rt rest key (szOf true v) st' ch' ab' ∧ ab'.D.length = n' ∧ ((atI ab'.D key = some v0 ∧ d = szOf true v - szOf true v0) ∨ (atI ab'.D key = none ∧ d = szOf true v))) := ⟨_, fun _ _ _ => Iff.rfl⟩
    refine o_cons (o_while J ab.D.length ((hJ _ _ _).mpr ⟨st, ch, ab, _, _, ⟨rfl, rfl, rfl, rfl, ⟨_, rfl⟩, rfl, rfl, rfl⟩, rfl, ⟨⟨rfl, rfl, rfl⟩, hw, ci, aok, rfl, rfl, fun _ x => x⟩, rfl, .inl ⟨hat, rfl⟩⟩) rfl ?_)
    intro n1 m1 fp1 hj
    obtain ⟨st1, ch1, ab1, d, td1, ⟨hm1, hm2, hm3, hm4, ⟨tx, hm5⟩, hm6, hm7, hm8⟩, rfl, ev, hn1, hno⟩ := (hJ _ _ _).mp hj
    rw [← ev.same.1] at hm1
    rw [← ev.same.2.1] at hm2
    have hsz1 : ab1.sized = true := ev.sized.trans hsz
    have hcond : roomOf ab1.sized (withoutI ab1.D key) + szOf true v = roomOf ab1.sized ab1.D + d := by
      rcases hno with ⟨a, b⟩ | ⟨a, b⟩
      · rw [roomOf_without ev.aok.dok.keys a, b, hsz1]; omega
      · rw [withoutI_none a, b]
    refine o_isCompare (o_binop (o_attr (o_loc hm1 (c_cur cx' ev.ci fun _ => o_loc hm8 (o_add fun _ => o_loc hm5 (o_gtI (o_truthyBool ?_)))))))
    by_cases hc : roomOf ab1.sized ab1.D + d > ab.room
    · rw [if_pos (by simpa using hc)]
      have hc' : roomOf ab1.sized (withoutI ab1.D key) + szOf true v > ab1.room := by rw [hcond, ev.room]; exact hc
      obtain ⟨c, k, ks, r, hM⟩ := nonempty_of (sized := ab1.sized) (room := ab1.room) (D := ab1.D) (M := ab1.M) (sz := szOf true v) ev.aok (by rw [ev.room]; exact hr) hc'
      refine o_cons (o_exprStmt (c_pop cx' ev.wf ev.ci ev.aok hM (fun Q' q => o_loc hm1 q) fun st2 ch2 M2 v2 ec hw2 ci2 hd hv2 u fp2 hsub => ?_))
      have ev2 := ev.pop hc' hM ec hw2 ci2 hd hv2
      refine Op.weaken ?_ hsub
      rw [← ec.2.1] at hm2
      obtain ⟨kv2, hkv2, lo2, hp2⟩ := ev2.ci.hD
      have hb2 : (valueAt kv2 key).isSome = (atI (withoutI ab1.D k) key).isSome := by
        rcases hp2.at_ key with ⟨a, b⟩ | ⟨n, t, a, b⟩ <;> rw [a, b] <;> rfl
      refine o_cons (o_if (o_isCompare (o_loc hm3 (o_loc hm2 (o_notIn m_dA hkv2 lo2 hb2 (o_truthyBool ?_))))))
      cases hat2 : atI (withoutI ab1.D k) key with
      | none =>
        rw [if_pos (by rfl)]
        refine o_cons (o_assign (o_loc hm7 (o_store (o_nil (o_nil ⟨_, hn1 ▸ withoutI_lt hv2, (hJ _ _ _).mpr ⟨st2, ch2, _, _, _, ⟨?_, ?_, hm3, hm4, ⟨tx, hm5⟩, hm6, hm7, rfl⟩, rfl, ev2, rfl, .inr ⟨hat2, rfl⟩⟩⟩)))))
        · exact hm1.trans (by rw [ev.same.1])
        · exact hm2.trans (by rw [ec.2.1, ev.same.2.1])
      | some v3 =>
        rw [if_neg (by simp)]
        have hkey : atI ab1.D key = some v0 ∧ d = szOf true v - szOf true v0 := by
          rcases hno with q | ⟨a, _⟩
          · exact q
          · rw [atI_without a] at hat2; cases hat2
        have hne : key ≠ k := fun q => by
          have := atI_mem.mp (show (atI (withoutI ab1.D k) key).isSome = true by rw [hat2]; rfl)
          rw [withoutI_keys, q] at this
          simpa using (List.mem_filter.mp this).2
        have hat3 : atI (withoutI ab1.D k) key = some v0 := by rw [atI_ne hne]; exact hkey.1
        refine o_nil (o_nil ⟨_, hn1 ▸ withoutI_lt hv2, (hJ _ _ _).mpr ⟨st2, ch2, _, _, _, ⟨?_, ?_, hm3, hm4, ⟨tx, hm5⟩, hm6, hm7, hm8⟩, rfl, ev2, rfl, .inl ⟨hat3, hkey.2⟩⟩⟩)
        · exact hm1.trans (by rw [ev.same.1])
        · exact hm2.trans (by rw [ec.2.1, ev.same.2.1])
    · rw [if_neg (by simpa using hc)]
      obtain ⟨oS1, hs1⟩ : ∃ oS1, st1.sz = some (sA, oS1) := by
        have := ev.same.2.2; rw [hs] at this
        obtain ⟨p, hp, e⟩ := Option.map_eq_some_iff.mp this
        exact ⟨p.2, by rw [hp]; exact congrArg some (Prod.ext e rfl)⟩
      refine o_nil (csetS_tail (t := t) (tv := tv) (ti := ti) (td := td1) (d := d) (v := v) cx' ev.wf ev.ci ev.aok hs1 ?_ hm1 hm2 hm3 hm4 hm6 hm7 hm8 fun st2 ec hw2 ci2 => o_nil ?_)
      · rcases hno with ⟨a, b⟩ | ⟨a, b⟩
        · rw [roomOf_stored_old ev.aok.dok.keys a, b, hsz1]; omega
        · rw [storedI_new a, roomOf_app, b, hsz1]
      · exact h st2 ch1 ab1 (ec.trans ev.same) hw2 (ev.reach _ (.done (by rw [hcond, ev.room]; exact hc))) ev.aok ev.sized ev.room ci2
end
end Mine
end
section
open PySem PySem.W PySem.Calls PyProof.Rows
set_option Elab.async false
set_option maxRecDepth 100000
set_option linter.unusedVariables false
namespace Mine
section
variable (P : Params)
theorem kl_890 : (K P).lookup 890 = some o890 := by kernel_rfl
theorem kl_897 : (K P).lookup 897 = some o897 := by kernel_rfl
theorem kc_897 : codeIn (K P) (.ref 896) "LFUCache.__setitem__" = true := by kernel_rfl
theorem kp_735 : keepIn (K P) (.ref 735) = true := by kernel_rfl
end
def AddR (k : Int) (M M' : List (Int × List Int)) : Prop :=
  (∃ ks r, M = (1, ks) :: r ∧ M' = (1, ks ++ [k]) :: r) ∨ ((∀ g ∈ M.head?, g.1 ≠ 1) ∧ M' = (1, [k]) :: M)
section
variable {prog : Program} {w : World} {A : Around} {g base : Heap} {outer : List Env} {L : Addr} {E : Value → Heap → Prop} {m : Loc} {fp : FP} {n : Nat} {env env' : Env} {st : St} {rest : FP} {ab : Ab} {cur : Int} {rt : Nd} {ch : List Nd} {ex : Bool} {key : Int} {t : Tok}

theorem cset_spec {v : Int} {tv : Tok} {Q : Value → Loc → FP → Prop} (cx : Cx w base outer g L A env (n + 6)) (hw : WF st rest) (ci : CI prog w st ab (roomOf ab.sized ab.D) rt ch) (aok : AOK ab) (h0 : 0 ≤ szOf ab.sized v) (hr : szOf ab.sized v ≤ ab.room) (hcur : roomOf ab.sized ab.D ≤ ab.room)
    (h : ∀ st' ch' ab', Same st' st → WF st' rest → EvR key (szOf ab.sized v) ab ab' → AOK ab' → ab'.sized = ab.sized → ab'.room = ab.room → CI prog w st' { ab' with D := storedI ab'.D key v } (roomOf ab'.sized (storedI ab'.D key v)) rt ch' → Q .none m (objs st' ++ rest)) :
    Op prog w A g L E (call (.ref 735) [.ref st.c, .int key t, .int v tv]) Q m (objs st ++ rest) := by
  cases hs : st.sz with
  | none =>
    have hsz := ci_sz ci hs
    rw [hsz] at h0 hr h
    exact csetU_spec cx hw ci aok hs hr hcur fun st' ch' ab' a b c d e f g => h st' ch' ab' a b c d (e.trans hsz) f g
  | some p =>
    obtain ⟨sA, oS⟩ := p
    have hsz := (ci_szS ci hs).1
    rw [hsz] at h0 hr h
    exact csetS_spec cx hw ci aok hs h0 hr fun st' ch' ab' a b c d e f g => h st' ch' ab' a b c d (e.trans hsz) f g

theorem crefuse_spec {v : Int} {tv : Tok} {Q : Value → Loc → FP → Prop} (cx : Cx w base outer g L A env (n + 3)) (ci : CI prog w st ab cur rt ch) (hr : szOf ab.sized v > ab.room ∨ szOf ab.sized v < 0)
    (hE : ∀ e h', XC base env outer g L "ValueError" (objs st ++ rest) (fun m' => m' = m) e h' → E e h') :
    Op prog w A g L E (call (.ref 735) [.ref st.c, .int key t, .int v tv]) Q m (objs st ++ rest) := by
  refine o_callE (P := fun _ => True) cx (kl_735 _) (kc_735 _) (fun s _ => BindsTo.of_eq rfl) (locs rfl) (by decide) (fun g' L' cx' _ _ => ?_) hE
  refine o_cons (o_assign (o_attr (o_loc rfl (c_data cx' ci (o_store ?_)))))
  cases hs : st.sz with
  | none =>
    have hsz := ci_sz ci hs
    rw [hsz] at hr
    have hr : (1 : Int) > ab.room := hr.elim id fun q => absurd (show (1 : Int) < 0 from q) (by decide)
    refine o_cons (o_assign (o_attr (o_loc rfl (c_sizeNo cx' ci hs (o_store ?_)))))
    refine o_cons (o_assign (o_attr (o_loc rfl (c_max cx' ci fun tm => o_store ?_))))
    refine o_cons (o_if (o_isCompare (o_loc rfl (o_none (o_isNone (o_truthyBool ?_))))))
    rw [if_pos (by rfl)]
    refine o_cons (o_if (o_isCompare (o_loc rfl (o_int fun _ => o_ltI (o_truthyBool ?_)))))
    rw [if_pos (by rw [decide_eq_true_eq]; omega)]
    exact o_cons (o_raise (base := base) (outer := env :: outer) (env := env735 L') excClass_ValueError cx'.handled (o_built cx' (kn_ValueError _) rfl (by decide) ⟨rfl, o_str fun _ e h' x => x.mono fun _ _ => trivial⟩))
  | some p =>
    obtain ⟨sA, oS⟩ := p
    have hsz := (ci_szS ci hs).1
    rw [hsz] at hr
    have hr : v % 5 - 1 > ab.room ∨ v % 5 - 1 < 0 := hr
    refine o_cons (o_assign (o_attr (o_loc rfl (c_sizeYes cx' ci hs (o_store ?_)))))
    refine o_cons (o_assign (o_attr (o_loc rfl (c_max cx' ci fun tm => o_store ?_))))
    refine o_cons (o_if (o_isCompare (o_loc rfl (o_none (o_isNone (o_truthyBool ?_))))))
    rw [if_neg (by rw [show (Value.ref sA == Value.none) = false from rfl]; simp)]
    refine o_cons (o_assign (o_methodCall _ (o_loc rfl (c_gso cx' ci hs (o_callK cx' (kp_938 _) (o_argsCons (o_loc rfl (o_argsNil (size_spec cx' fun ti => o_store ?_)))))))))
    refine o_cons (o_if (o_isCompare (o_loc rfl (o_loc rfl (o_gtI (o_truthyBool ?_))))))
    by_cases h1 : v % 5 - 1 > ab.room
    · rw [if_pos (by rw [decide_eq_true_eq]; omega)]
      exact o_cons (o_raise (base := base) (outer := env :: outer) (env := env735 L') excClass_ValueError cx'.handled (o_built cx' (kn_ValueError _) rfl (by decide) ⟨rfl, o_str fun _ e h' x => x.mono fun _ _ => trivial⟩))
    · rw [if_neg (by rw [decide_eq_true_eq]; omega)]
      refine o_nil ?_
      refine o_cons (o_if (o_isCompare (o_loc rfl (o_int fun _ => o_ltI (o_truthyBool ?_)))))
      rw [if_pos (by rw [decide_eq_true_eq]; omega)]
      exact o_cons (o_raise (base := base) (outer := env :: outer) (env := env735 L') excClass_ValueError cx'.handled (o_built cx' (kn_ValueError _) rfl (by decide) ⟨rfl, o_str fun _ e h' x => x.mono fun _ _ => trivial⟩))

theorem lrefuse_spec {v : Int} {tv : Tok} {Q : Value → Loc → FP → Prop} (cx : Cx w base outer g L A env (n + 4)) (ci : CI prog w st ab cur rt ch) (hr : szOf ab.sized v > ab.room ∨ szOf ab.sized v < 0)
    (hE : ∀ e h', XC base env outer g L "ValueError" (objs st ++ rest) (fun m' => m' = m) e h' → E e h') :
    Op prog w A g L E (call (.ref 897) [.ref st.c, .int key t, .int v tv]) Q m (objs st ++ rest) := by
  refine o_callE (P := fun _ => True) cx (kl_897 _) (kc_897 _) (fun s X => binds_K (T := 890) X rfl (kl_890 _) rfl rfl rfl) (locs rfl) (by decide) (fun g' L' cx' _ _ => ?_) hE
  exact o_cons (o_exprStmt (o_nameCall (o_loc rfl (o_callK cx' (kp_735 _) (o_argsCons (o_loc rfl (o_argsCons (o_loc rfl (o_argsCons (o_loc rfl (o_argsNil (crefuse_spec cx' ci hr fun e h' x => x.mono fun _ _ => trivial))))))))))))
end
end Mine
end
section
open PySem PySem.W PySem.Calls PyProof.Rows
set_option Elab.async false
set_option maxRecDepth 100000
set_option linter.unusedVariables false
namespace Mine
noncomputable abbrev env897 (L : Addr) : Env := envX "LFUCache.__setitem__" f897.1.2.2 L 897 (.ref 896) []
section
variable {prog : Program} {w : World} {A : Around} {g base : Heap} {outer : List Env} {L : Addr} {E : Value → Heap → Prop} {m : Loc} {fp : FP} {n : Nat} {env env' : Env} {st : St} {rest : FP} {ab : Ab} {cur : Int} {rt fn : Nd} {ch post : List Nd} {ex : Bool} {key : Int} {t : Tok}

theorem add_tail {Q : Flow → Loc → FP → Prop} (cx : Cx w base outer g L A (env897 L) n) (hw : WF st rest) (ci : CI prog w st ab cur rt (fn :: post)) (hk : key ∉ ab.M.flatMap (·.2)) (len : (ab.M.flatMap (·.2)).length ≤ 5)
    (h1 : m "self" = some (.ref st.c)) (h2 : m "link" = some (.ref fn.a)) (h3 : m "key" = some (.int key t))
    (h : ∀ st' ch', Same st' st → WF st' rest → CI prog w st' { ab with M := (fn.cnt, fn.keys ++ [key]) :: post.map gOf } cur rt ch' → Q .next m (objs st' ++ rest)) :
    Op prog w A g L E (execs (List.drop 5 f897.1.2.1) (env897 L)) Q m (objs st ++ rest) := by
  have eM : gOf fn :: post.map gOf = ab.M := ci.M
  have hfn : fn ∈ fn :: post := .head _
  have mf := ci.sh.chm fn hfn
  have ln := ci.key_len len hfn
  have kfn : key ∉ fn.keys := fun q => hk (by rw [← eM, List.flatMap_cons]; exact List.mem_append_left _ q)
  have kpost : ∀ x ∈ post, key ∉ x.keys := fun x hx q => hk (by rw [← eM, List.flatMap_cons]; exact List.mem_append_right _ (List.mem_flatMap.mpr ⟨gOf x, List.mem_map_of_mem hx, q⟩))
  obtain ⟨kv, hkv, lo, hat, hperm⟩ := ci.hL
  obtain ⟨tc, tm, att⟩ := ci.att
  have hlen : kv.length ≤ 1000 := by
    have := hperm.length_eq
    rw [List.length_map] at this; omega
  have hno : valueAt kv key = none := by
    cases q : valueAt kv key with
    | none => rfl
    | some u => exact absurd (hperm.mem_iff.mp (valueAt_mem.mp (by rw [q]; rfl))) hk
  refine o_cons (o_assignSub (o_none (o_attr (o_loc h2 (s_keys cx mf (o_loc h3 (o_setItem (m_keys mf) (ci.kd _ hfn).1 (by rw [List.length_map]; omega) fun ok hok => ?_)))))))
  rw [units_stored kfn] at hok
  refine to_keys (ks := fn.keys ++ [key]) hw mf ?_
  have sh1 : Sh (updN st fn.a (setK ok (fn.keys ++ [key]))) rt (setK ok (fn.keys ++ [key]) fn :: post) := Sh.upd (pre := []) (f := setK ok (fn.keys ++ [key])) ci.sh rfl
  have hw1 : WF (updN st fn.a (setK ok (fn.keys ++ [key]))) rest := hw.same (updN_addrs st fn.a fun _ => rfl)
  have att1 : Att 7 (updN st fn.a (setK ok (fn.keys ++ [key]))).es (attF (st.sz.map (·.1)) st.dA rt.a st.lA cur tc ab.room tm) := att
  refine o_cons (o_assignSub (o_loc h2 (o_attr (o_loc h1 (s_get (st := updN st fn.a (setK ok (fn.keys ++ [key]))) cx (kf_links _) (kf_noget _) att1 rfl rfl (o_loc h3 (o_setItem (o := st.oL) m_lA hkv hlen fun o' ho' => to_lnk (st := updN st fn.a (setK ok (fn.keys ++ [key]))) hw1 (o_nil ?_))))))))
  refine h { updN st fn.a (setK ok (fn.keys ++ [key])) with oL := o' } (setK ok (fn.keys ++ [key]) fn :: post) ⟨rfl, rfl, rfl⟩ hw1 ⟨⟨tc, tm, att⟩, sh1.copy, ?_, rfl, ⟨_, ho', lo, ?_, ?_⟩, ci.hD, ci.hS⟩
  · intro x hx
    rcases List.mem_cons.mp hx with rfl | hx
    · exact ⟨hok, (ci.kd fn hfn).2⟩
    · exact ci.kd x (.tail _ hx)
  · intro x hx k hkx
    rw [valueAt_stored]
    rcases List.mem_cons.mp hx with rfl | hx
    · rcases List.mem_append.mp hkx with q | q
      · rw [if_neg (nem q kfn)]; exact hat fn hfn k q
      · rw [if_pos (List.mem_singleton.mp q)]
    · rw [if_neg (nem hkx (kpost x hx))]; exact hat x (.tail _ hx) k hkx
  · rw [keys_stored_new hno]
    show (kv.map (·.1) ++ [key]).Perm (((fn.cnt, fn.keys ++ [key]) :: post.map gOf).flatMap (·.2))
    have : ((fn.cnt, fn.keys ++ [key]) :: post.map gOf).flatMap (·.2) = fn.keys ++ key :: (post.map gOf).flatMap (·.2) := by simp
    rw [this]
    have hp2 : (kv.map (·.1)).Perm (fn.keys ++ (post.map gOf).flatMap (·.2)) := by rw [← eM] at hperm; exact hperm
    exact ((hp2.append_right [key]).trans List.perm_append_comm).trans (show (key :: (fn.keys ++ _)).Perm _ from List.perm_middle.symm)

/-- cache[key] = value -/
theorem lset_spec {v : Int} {tv : Tok} {Q : Value → Loc → FP → Prop} (cx : Cx w base outer g L A env (n + 7)) (hw : WF st rest) (ci : CI prog w st ab (roomOf ab.sized ab.D) rt ch) (aok : AOK ab) (h0 : 0 ≤ szOf ab.sized v) (hr : szOf ab.sized v ≤ ab.room) (hcur : roomOf ab.sized ab.D ≤ ab.room)
    (h : ∀ st' ch' ab1 M', Same st' st → WF st' rest → EvR key (szOf ab.sized v) ab ab1 → ((key ∈ ab1.M.flatMap (·.2) ∧ TouchR key ab1.M M') ∨ (key ∉ ab1.M.flatMap (·.2) ∧ AddR key ab1.M M')) →
      ab1.sized = ab.sized → ab1.room = ab.room → CI prog w st' { ab1 with D := storedI ab1.D key v, M := M' } (roomOf ab1.sized (storedI ab1.D key v)) rt ch' → Q .none m (objs st' ++ rest)) :
    Op prog w A g L E (call (.ref 897) [.ref st.c, .int key t, .int v tv]) Q m (objs st ++ rest) := by
  refine o_call cx (kl_897 _) (kc_897 _) (fun s X => binds_K (T := 890) X rfl (kl_890 _) rfl rfl rfl) (locs rfl) (by decide) fun g' L' E' cx' _ _ => ?_
  refine o_cons (o_exprStmt (o_nameCall (o_loc rfl (o_callK cx' (kp_735 _) (o_argsCons (o_loc rfl (o_argsCons (o_loc rfl (o_argsCons (o_loc rfl (o_argsNil (cset_spec cx' hw ci aok h0 hr hcur fun st1 ch1 ab1 ec1 hw1 ev aok1 es1 er1 ci1 => ?_))))))))))))
  obtain ⟨kv, h1, h2, h3⟩ := ci1.linked
  rw [← ec1.1]
  refine o_cons (o_if (o_isCompare (o_loc rfl (o_attr (o_loc rfl (c_links cx' ci1 (o_in m_lA h1 h2 (h3 key) (o_truthyBool ?_))))))))
  by_cases hk : key ∈ ab1.M.flatMap (·.2)
  · rw [if_pos (by exact decide_eq_true hk)]
    refine o_cons (o_exprStmt (o_methodCall _ (o_loc rfl (c_meth cx' ci1 (kf_touch _) (kfn_926 _) (fun _ _ _ _ _ _ _ _ => rfl) (o_callK cx' (kp_926 _) (o_argsCons (o_loc rfl (o_argsNil (touch_spec cx' hw1 ci1 aok1.mok hk fun st' ch' M' ec hw' ci' ht => o_cons (o_retNone ?_))))))))))
    exact h st' ch' ab1 M' (Same.trans ec ec1) hw' ev (.inl ⟨hk, ht⟩) es1 er1 ci'
  · rw [if_neg (by simpa using hk)]
    refine o_nil ?_
    have len : (ab1.M.flatMap (·.2)).length ≤ 5 := aok1.mok.five
    refine o_cons (o_assign (o_attr (o_loc rfl (c_root cx' ci1 (o_store ?_)))))
    have mrt := ci1.sh.rtm
    refine o_cons (o_assign (o_attr (o_loc rfl (s_next cx' mrt (o_store ?_)))))
    obtain ⟨X, p, q, Y, e1, e2, -, hq⟩ := Sh.places (pre := []) (post := ch1) ci1.sh
    have ep : p = rt := by
      cases X with
      | nil => exact (List.cons.inj e1).1.symm
      | cons y X => have := congrArg List.length e1; simp at this
    have eX : X = [] := by have := congrArg List.length e1; simpa using this
    subst ep eX
    have enx : st1.nx p.a = q.a := (Sh.next (pre := []) (X := []) ci1.sh rfl e2).1
    rw [enx]
    refine o_cons (o_if (o_isCompare (o_attr (o_loc rfl (s_count (nd := q) cx' hq (o_int fun _ => o_neI (o_truthyBool ?_)))))))
    have eM : ch1.map gOf = ab1.M := ci1.M
    by_cases hc : q.cnt = 1
    · rw [if_neg (by simpa using hc)]
      have : ∃ post, ch1 = q :: post := by
        cases ch1 with
        | nil =>
          have : q = p := (List.cons.inj e2).1.symm
          rw [this, ci1.sh.rt0] at hc; cases hc
        | cons x post => exact ⟨post, by rw [(List.cons.inj e2).1]⟩
      obtain ⟨post, rfl⟩ := this
      refine o_nil (add_tail (t := t) (fn := q) cx' hw1 ci1 hk len rfl rfl rfl fun st' ch' ec hw' ci' => ?_)
      exact h st' ch' ab1 _ (Same.trans ec ec1) hw' ev (.inr ⟨hk, .inl ⟨q.keys, post.map gOf, by rw [← eM, ← hc]; rfl, by rw [hc]⟩⟩) es1 er1 ci'
    · rw [if_pos (by simpa using hc)]
      refine o_cons (o_assign (o_linkCall (c := 1) cx' ?_ ?_))
      · exact fun Q' k => o_int k
      intro tc y dy ky oK fr l1 l2 lo2 hoK
      refine o_store ?_
      refine Op.weaken (fp' := objs st1 ++ (y, rawL dy #[some (.int 1 tc), some (.ref ky)]) :: (dy, dictOf [] 0) :: (ky, oK) :: rest) ?_ fun x hx => by
        rcases List.mem_append.mp hx with hx | hx
        · exact .tail _ (.tail _ (.tail _ (List.mem_append_left _ hx)))
        · rcases List.mem_cons.mp hx with rfl | hx
          · exact .head _
          · rcases List.mem_cons.mp hx with rfl | hx
            · exact .tail _ (.head _)
            · rcases List.mem_cons.mp hx with rfl | hx
              · exact .tail _ (.tail _ (.head _))
              · exact .tail _ (.tail _ (.tail _ (List.mem_append_right _ hx)))
      have hwn : ∀ o, WF st1 ((y, o) :: (dy, dictOf [] 0) :: (ky, oK) :: rest) := fun o => hw1.of_fresh fr l1 l2
      refine o_cons (o_assignAttr (o_attr (o_loc rfl (s_next cx' mrt (o_loc rfl (o_setSlot (sl' := #[some (.int 1 tc), some (.ref ky), some (.ref q.a)]) cx' (List.mem_append_right _ (.head _)) (List.mem_append_right _ (.tail _ (.head _))) (lk_sa _) (lk_po _) (lk_kn _) (lk_Tn _) (lk_in _) (by decide) (by rw [enx]; rfl) (to_raw (hwn _) ?_)))))))
      refine o_cons (o_assign2 (o_loc rfl (o_asAttr (o_loc rfl (s_setNext cx' mrt (to_next (hwn _) mrt (o_asAttr (o_attr (o_loc rfl
        (o_slot (v := .ref q.a) (sl := #[some (.int 1 tc), some (.ref ky), some (.ref q.a)]) cx' (List.mem_append_right _ (.head _)) (List.mem_append_right _ (.tail _ (.head _))) (lk_pg _ _) (lk_cls _) (lk_fn _) (lk_gn _) (lk_tn _) (lk_in _) rfl rfl
          (s_setPrev (st := { st1 with nx := upA st1.nx p.a y }) cx' hq (to_prev (st := { st1 with nx := upA st1.nx p.a y }) (hwn _) hq ?_))))))))))))
      refine o_cons (o_assignAttr (o_loc rfl (o_loc rfl (o_setSlot (sl := #[some (.int 1 tc), some (.ref ky), some (.ref q.a)]) (sl' := #[some (.int 1 tc), some (.ref ky), some (.ref q.a), some (.ref p.a)]) cx' (List.mem_append_right _ (.head _)) (List.mem_append_right _ (.tail _ (.head _))) (lk_sa _) (lk_po _) (lk_kp _) (lk_Tp _) (lk_ip _) (by decide) rfl
        (to_raw (st := { st1 with nx := upA st1.nx p.a y, pv := upA st1.pv q.a y }) (hwn _) ?_)))))
      refine to_add (yn := ⟨y, dy, ky, 1, tc, oK, []⟩) (hwn _) ?_
      have hwA : WF (addN st1 ⟨y, dy, ky, 1, tc, oK, []⟩ p.a q.a) rest := WF.add (o1 := oK) (o2 := oK) (o3 := oK) (hwn _)
      have fa : ∀ z ∈ st1.nodes, z.a ≠ y := fun z hz => (hwn oK).apart (nd_addr hz)
      have shA : Sh (addN st1 ⟨y, dy, ky, 1, tc, oK, []⟩ p.a q.a) p (⟨y, dy, ky, 1, tc, oK, []⟩ :: ch1) :=
        Sh.ins (st := st1) (rt := p) (y := ⟨y, dy, ky, 1, tc, oK, []⟩) (p := p) (q := q) (pre := []) (post := ch1) (X := []) (Y := Y) ci1.sh rfl e2 fa
      obtain ⟨kv1, hkv1, lo1, hat1, hperm1⟩ := ci1.hL
      obtain ⟨ta, tm, att⟩ := ci1.att
      have ciA : CI prog w (addN st1 ⟨y, dy, ky, 1, tc, oK, []⟩ p.a q.a) { ab1 with D := storedI ab1.D key v, M := (1, []) :: ab1.M } (roomOf ab1.sized (storedI ab1.D key v)) p (⟨y, dy, ky, 1, tc, oK, []⟩ :: ch1) := by
        refine ⟨⟨ta, tm, att⟩, shA, fun x hx => ?_, by rw [← eM]; rfl, ⟨kv1, hkv1, lo1, fun x hx k hk => ?_, hperm1⟩, ci1.hD, ci1.hS⟩
        · rcases List.mem_cons.mp hx with rfl | hx
          · exact ⟨hoK, lo2⟩
          · exact ci1.kd x hx
        · rcases List.mem_cons.mp hx with rfl | hx
          · cases hk
          · exact hat1 x hx k hk
      refine o_nil ?_
      refine add_tail (t := t) (Q := fun fl _ fp' => Q (retOf fl) m fp') (fn := ⟨y, dy, ky, 1, tc, oK, []⟩) cx' hwA ciA hk len rfl rfl rfl fun st' ch' ec hw' ci' => ?_
      refine h st' ch' ab1 _ (Same.trans ec ec1) hw' ev (.inr ⟨hk, .inr ⟨?_, rfl⟩⟩) es1 er1 (by rw [← eM]; exact ci')
      intro gr hgr
      rw [← eM] at hgr
      cases ch1 with
      | nil => cases hgr
      | cons x post =>
        have hx : x = q := (List.cons.inj e2).1
        cases hgr
        show x.cnt ≠ 1
        rw [hx]; exact hc
end
end Mine
end
section
open PySem PySem.W PySem.Calls PyProof.Rows
set_option Elab.async false
set_option maxRecDepth 100000
set_option linter.unusedVariables false
namespace Mine
abbrev cnts (M : List (Int × List Int)) : List Int := M.map (·.1)
theorem MOK.of {M M' : List (Int × List Int)} (mok : MOK M) (hp : (M'.flatMap (·.2)).Perm (M.flatMap (·.2))) (full : ∀ g ∈ M', g.2 ≠ []) (pos : ∀ g ∈ M', 0 < g.1) (asc : (cnts M').Pairwise (· < ·)) : MOK M' :=
  ⟨(hp.nodup_iff).mpr mok.keys, fun x hx => mok.small x (hp.mem_iff.mp hx), full, pos, List.pairwise_map.mp asc⟩
theorem MOK.cnts {M : List (Int × List Int)} (mok : MOK M) : (cnts M).Pairwise (· < ·) := List.pairwise_map.mpr mok.asc

theorem flat_out {k : Int} {ks : List Int} (h : ks.Nodup) (hk : k ∈ ks) : (k :: outOf k ks).Perm ks := (perm_out h hk).symm
theorem MOK.touch {k : Int} {M M' : List (Int × List Int)} (mok : MOK M) (h : TouchR k M M') : MOK M' ∧ (M'.flatMap (·.2)).Perm (M.flatMap (·.2)) := by
  obtain ⟨pre, c, ks, r, rfl, hk, rfl⟩ := h
  have nod := mok.keys
  rw [List.flatMap_append, List.flatMap_cons] at nod
  have n1 := List.nodup_append.mp nod
  have n2 := List.nodup_append.mp n1.2.1
  have hc : 0 < c := mok.pos (c, ks) (by simp)
  have asc := mok.cnts
  rw [Mine.cnts, List.map_append, List.map_cons, List.pairwise_append, List.pairwise_cons] at asc
  obtain ⟨a1, ⟨a2, a3⟩, a4⟩ := asc
  have preFull : ∀ g ∈ pre, g.2 ≠ [] := fun g hg => mok.full g (List.mem_append_left _ hg)
  have rFull : ∀ g ∈ r, g.2 ≠ [] := fun g hg => mok.full g (List.mem_append_right _ (.tail _ hg))
  have prePos : ∀ g ∈ pre, 0 < g.1 := fun g hg => mok.pos g (List.mem_append_left _ hg)
  have rPos : ∀ g ∈ r, 0 < g.1 := fun g hg => mok.pos g (List.mem_append_right _ (.tail _ hg))
  have fo := flat_out n2.1 hk
  -- the three shapes
  have shapeDrop : ∀ (c2 : Int) (ks2 : List Int) (r2 : List (Int × List Int)), c < c2 → (∀ x ∈ Mine.cnts r2, c2 < x) → (Mine.cnts r2).Pairwise (· < ·) → (∀ g ∈ r2, g.2 ≠ [] ∧ 0 < g.1) → ks2 ≠ [] →
      (∀ x ∈ Mine.cnts pre, x < c) → (outOf k ks ++ (ks2 ++ r2.flatMap (·.2))).Perm (ks ++ r.flatMap (·.2)) →
      MOK (pre ++ (dropE c (outOf k ks) ++ (c2, ks2) :: r2)) ∧ ((pre ++ (dropE c (outOf k ks) ++ (c2, ks2) :: r2)).flatMap (·.2)).Perm ((pre ++ (c, ks) :: r).flatMap (·.2)) := by
    intro c2 ks2 r2 h1 h2 h3 h4 h5 h6 h7
    have hp : ((pre ++ (dropE c (outOf k ks) ++ (c2, ks2) :: r2)).flatMap (·.2)).Perm ((pre ++ (c, ks) :: r).flatMap (·.2)) := by
      rw [List.flatMap_append, List.flatMap_append, flat_dropE, List.flatMap_cons, List.flatMap_append, List.flatMap_cons]
      exact List.Perm.append_left _ h7
    refine ⟨mok.of hp (fun g hg => ?_) (fun g hg => ?_) ?_, hp⟩
    · rcases List.mem_append.mp hg with q | q
      · exact preFull g q
      · rcases List.mem_append.mp q with q | q
        · obtain ⟨e, ne⟩ := dropE_mem q; rw [e]; exact ne
        · rcases List.mem_cons.mp q with rfl | q
          · exact h5
          · exact (h4 g q).1
    · rcases List.mem_append.mp hg with q | q
      · exact prePos g q
      · rcases List.mem_append.mp q with q | q
        · obtain ⟨e, ne⟩ := dropE_mem q; rw [e]; exact hc
        · rcases List.mem_cons.mp q with rfl | q
          · exact Int.lt_trans hc h1
          · exact (h4 g q).2
    · have big : (Mine.cnts pre ++ ([c] ++ c2 :: Mine.cnts r2)).Pairwise (· < ·) := by
        rw [List.pairwise_append]
        refine ⟨a1, ?_, fun x hx y hy => ?_⟩
        · show (c :: c2 :: Mine.cnts r2).Pairwise (· < ·)
          rw [List.pairwise_cons, List.pairwise_cons]
          refine ⟨fun x hx => ?_, h2, h3⟩
          rcases List.mem_cons.mp hx with rfl | hx
          · exact h1
          · exact Int.lt_trans h1 (h2 x hx)
        · have hx' := h6 x hx
          rcases List.mem_cons.mp hy with rfl | hy
          · exact hx'
          · rcases List.mem_cons.mp hy with rfl | hy
            · exact Int.lt_trans hx' h1
            · exact Int.lt_trans hx' (Int.lt_trans h1 (h2 y hy))
      refine List.Pairwise.sublist ?_ big
      show List.Sublist ((pre ++ (dropE c (outOf k ks) ++ (c2, ks2) :: r2)).map (·.1)) _
      rw [List.map_append, List.map_append, List.map_cons]
      refine List.Sublist.append (List.Sublist.refl _) (List.Sublist.append ?_ (List.Sublist.refl _))
      exact (dropE_sub (c := c) (ks := outOf k ks)).map (·.1)
  have prelt : ∀ x ∈ Mine.cnts pre, x < c := fun x hx => a4 x hx c (.head _)
  have oneK : ks.length = 1 → ks = [k] := fun e => by
    obtain ⟨y, hy⟩ := List.length_eq_one_iff.mp e
    subst hy; rw [List.mem_singleton.mp hk]
  have shapeOne : ks.length = 1 → (∀ x ∈ Mine.cnts r, c + 1 < x) → MOK (pre ++ (c + 1, ks) :: r) ∧ ((pre ++ (c + 1, ks) :: r).flatMap (·.2)).Perm ((pre ++ (c, ks) :: r).flatMap (·.2)) := by
    intro h1 h2
    have hp : ((pre ++ (c + 1, ks) :: r).flatMap (·.2)).Perm ((pre ++ (c, ks) :: r).flatMap (·.2)) := by
      rw [List.flatMap_append, List.flatMap_cons, List.flatMap_append, List.flatMap_cons]
    refine ⟨mok.of hp (fun g hg => ?_) (fun g hg => ?_) ?_, hp⟩
    · rcases List.mem_append.mp hg with q | q
      · exact preFull g q
      · rcases List.mem_cons.mp q with rfl | q
        · show ks ≠ []; intro e; rw [e] at h1; cases h1
        · exact rFull g q
    · rcases List.mem_append.mp hg with q | q
      · exact prePos g q
      · rcases List.mem_cons.mp q with rfl | q
        · show 0 < c + 1; omega
        · exact rPos g q
    · show ((pre ++ (c + 1, ks) :: r).map (·.1)).Pairwise (· < ·)
      rw [List.map_append, List.map_cons, List.pairwise_append, List.pairwise_cons]
      refine ⟨a1, ⟨h2, a3⟩, fun x hx y hy => ?_⟩
      have := prelt x hx
      rcases List.mem_cons.mp hy with rfl | hy
      · show x < c + 1; omega
      · have := h2 y hy; omega
  have permNew : (outOf k ks ++ ([k] ++ r.flatMap (·.2))).Perm (ks ++ r.flatMap (·.2)) := by
    rw [← List.append_assoc]
    refine List.Perm.append_right _ ?_
    exact List.perm_append_comm.trans fo
  cases r with
  | nil =>
    unfold stepM
    by_cases h1 : ks.length = 1
    · rw [if_pos h1]; exact shapeOne h1 fun x hx => nomatch hx
    · rw [if_neg h1]; exact shapeDrop (c + 1) [k] [] (by omega) (fun x hx => nomatch hx) .nil (fun g hg => nomatch hg) (by simp) prelt permNew
  | cons g r2 =>
    obtain ⟨c2, ks2⟩ := g
    have hlt : c < c2 := a2 c2 (.head _)
    have a3' := List.pairwise_cons.mp a3
    simp only [stepM]
    by_cases h0 : c2 = c + 1
    · rw [if_pos h0]
      refine shapeDrop c2 (ks2 ++ [k]) r2 hlt a3'.1 a3'.2 (fun g hg => ⟨rFull g (.tail _ hg), rPos g (.tail _ hg)⟩) (by simp) prelt ?_
      have e1 : outOf k ks ++ ((ks2 ++ [k]) ++ r2.flatMap (·.2)) = (outOf k ks ++ ks2) ++ k :: r2.flatMap (·.2) := by simp
      have e2 : ks ++ ((c2, ks2) :: r2).flatMap (·.2) = ks ++ (ks2 ++ r2.flatMap (·.2)) := by rw [List.flatMap_cons]
      rw [e1, e2]
      refine List.perm_middle.trans ?_
      rw [← List.append_assoc]
      have : (k :: (outOf k ks ++ ks2 ++ r2.flatMap (·.2))) = (k :: outOf k ks) ++ (ks2 ++ r2.flatMap (·.2)) := by simp
      rw [this, List.append_assoc]
      exact fo.append_right _
    · rw [if_neg h0]
      have big : ∀ x ∈ Mine.cnts ((c2, ks2) :: r2), c + 1 < x := fun x hx => by
        rcases List.mem_cons.mp hx with e | hx
        · have e : x = c2 := e
          omega
        · have : c2 < x := a3'.1 x hx
          omega
      by_cases h1 : ks.length = 1
      · rw [if_pos h1]; exact shapeOne h1 big
      · rw [if_neg h1]; exact shapeDrop (c + 1) [k] ((c2, ks2) :: r2) (by omega) big a3 (fun g hg => ⟨rFull g hg, rPos g hg⟩) (by simp) prelt permNew
theorem MOK.add {k : Int} {M M' : List (Int × List Int)} (mok : MOK M) (h : AddR k M M') (hk : k ∉ M.flatMap (·.2)) (h5 : 0 ≤ k ∧ k < 5) : MOK M' ∧ (M'.flatMap (·.2)).Perm (k :: M.flatMap (·.2)) := by
  have key : ∀ M', (M'.flatMap (·.2)).Perm (k :: M.flatMap (·.2)) → (∀ g ∈ M', g.2 ≠ []) → (∀ g ∈ M', 0 < g.1) → (Mine.cnts M').Pairwise (· < ·) → MOK M' := fun M' hp full pos asc =>
    ⟨(hp.nodup_iff).mpr (List.nodup_cons.mpr ⟨hk, mok.keys⟩), fun x hx => by
      rcases List.mem_cons.mp (hp.mem_iff.mp hx) with rfl | q
      · exact h5
      · exact mok.small x q, full, pos, List.pairwise_map.mp asc⟩
  rcases h with ⟨ks, r, rfl, rfl⟩ | ⟨hh, rfl⟩
  · have hp : (((1, ks ++ [k]) :: r : List (Int × List Int)).flatMap (·.2)).Perm (k :: ((1, ks) :: r : List (Int × List Int)).flatMap (·.2)) := by
      rw [List.flatMap_cons, List.flatMap_cons]
      have : (ks ++ [k]) ++ r.flatMap (·.2) = ks ++ k :: r.flatMap (·.2) := by simp
      rw [this]; exact List.perm_middle
    refine ⟨key _ hp (fun g hg => ?_) (fun g hg => ?_) mok.cnts, hp⟩
    · rcases List.mem_cons.mp hg with rfl | q
      · simp
      · exact mok.full g (.tail _ q)
    · rcases List.mem_cons.mp hg with rfl | q
      · exact (by show (0 : Int) < 1; decide)
      · exact mok.pos g (.tail _ q)
  · have hp : (((1, [k]) :: M : List (Int × List Int)).flatMap (·.2)).Perm (k :: M.flatMap (·.2)) := List.Perm.refl _
    refine ⟨key _ hp (fun g hg => ?_) (fun g hg => ?_) ?_, hp⟩
    · rcases List.mem_cons.mp hg with rfl | q
      · simp
      · exact mok.full g q
    · rcases List.mem_cons.mp hg with rfl | q
      · exact (by show (0 : Int) < 1; decide)
      · exact mok.pos g q
    · show ((1 : Int) :: Mine.cnts M).Pairwise (· < ·)
      rw [List.pairwise_cons]
      refine ⟨fun x hx => ?_, mok.cnts⟩
      cases M with
      | nil => cases hx
      | cons g r =>
        have h1 : g.1 ≠ 1 := hh g rfl
        have h2 := mok.pos g (.head _)
        have h3 := List.pairwise_cons.mp mok.cnts
        rcases List.mem_cons.mp hx with e | hx
        · have e : x = g.1 := e
          omega
        · have h4 : g.1 < x := h3.1 x hx
          omega
theorem AOK.touch {ab : Ab} {k : Int} {M' : List (Int × List Int)} (a : AOK ab) (h : TouchR k ab.M M') : AOK { ab with M := M' } :=
  let ⟨x, y⟩ := a.mok.touch h; ⟨x, a.dok, y.trans a.perm⟩
end Mine
end
section
open PySem PySem.W PySem.Calls PyProof.Rows
set_option Elab.async false
set_option maxRecDepth 100000
set_option linter.unusedVariables false
namespace Mine
section
variable (P : Params)
theorem kl_787 : (K P).lookup 787 = some o787 := by kernel_rfl
theorem kl_794 : (K P).lookup 794 = some o794 := by kernel_rfl
theorem kc_794 : codeIn (K P) (.ref 793) "Cache.setdefault" = true := by kernel_rfl
theorem kl_801 : (K P).lookup 801 = some o801 := by kernel_rfl
theorem kc_801 : codeIn (K P) (.ref 800) "Cache.clear" = true := by kernel_rfl
theorem kl_919 : (K P).lookup 919 = some o919 := by kernel_rfl
theorem kc_919 : codeIn (K P) (.ref 918) "LFUCache.clear" = true := by kernel_rfl
theorem kf_set : findIn (K P) (.ref 929) "__setitem__" = some (some (.ref 897)) := by kernel_rfl
theorem kfn_897 : isFn (K P) (.ref 897) = true := by kernel_rfl
theorem kcl_clear : findCls (K P) (.ref 830) (.ref 89) "clear" = some (.val (.ref 801)) := by kernel_rfl
theorem kp_801 : keepIn (K P) (.ref 801) = true := by kernel_rfl
end
section
variable {prog : Program} {w : World} {A : Around} {g base : Heap} {outer : List Env} {L : Addr} {E : Value → Heap → Prop} {m : Loc} {fp : FP} {n : Nat} {env env' : Env} {st : St} {rest : FP} {ab : Ab} {cur : Int} {rt : Nd} {ch : List Nd} {ex : Bool} {key : Int} {t : Tok}

theorem o_asSub {o i : PySem.Expr} {pos : Pos} {v : Value} {Q : Unit → Loc → FP → Prop}
    (h : Op prog w A g L E (eval o env') (fun ov => Op prog w A g L E (eval i env') (fun iv => Op prog w A g L E (setItem ov iv v) Q)) m fp) : Op prog w A g L E (assign (.Subscript o i pos) env' v) Q m fp :=
  Op.of fun s F N _ k => by
    rw [assign_Subscript]
    exact wpAny_bind (wpAny_holding (h.use F N fun ov _ _ _ _ F1 N1 q1 => wpAny_bind (wpAny_holding (q1.use F1 N1 fun iv _ _ _ _ F2 N2 q2 => wpAny_bind (wpAny_standAt (wpAny_bind (wpAny_holding (q2.use F2 N2 fun _ h' t' m' fp' F3 N3 q3 => wpAny_releaseD (k _ h' t' m' fp' F3 N3 q3)))))))))

/-- self.__marker -/
theorem c_mark {Q : Value → Loc → FP → Prop} (cx : Cx w base outer g L A env n) (ci : CI prog w st ab cur rt ch) (h : Q (.ref 706) m (objs st ++ rest)) :
    Op prog w A g L E (getAttr (.ref st.c) "_Cache__marker" ex) Q m (objs st ++ rest) := by
  obtain ⟨tc, tm, att⟩ := ci.att
  exact o_getCls cx m_c m_dc (kf_pg _ _) (kf_hd _) (kf_marker _) (kf_markGet _) rfl (by decide) (by rw [att.at_]; rfl) h

/-- del self[key], as a statement of the class itself -/
theorem c_del {v : Int} {Q : Unit → Loc → FP → Prop} (cx : Cx w base outer g L A env (n + 3)) (hw : WF st rest) (ci : CI prog w st ab cur rt ch) (mok : MOK ab.M) (dok : DOK ab.D) (hv : atI ab.D key = some v) (hk : key ∈ ab.M.flatMap (·.2))
    (h : ∀ st' ch' M', Same st' st → WF st' rest → CI prog w st' { ab with D := withoutI ab.D key, M := M' } (cur - szOf ab.sized v) rt ch' → DelR key ab.M M' → Q () m (objs st' ++ rest)) :
    Op prog w A g L E (delItem (.ref st.c) (.int key t)) Q m (objs st ++ rest) :=
  o_delItemInst cx m_c m_dc (kf_noSeq _) (kf_del _) (kfn_905 _) (ldel_spec cx hw ci mok dok hv hk h)

theorem cpop_spec {v : Int} {d : Value} {Q : Value → Loc → FP → Prop} (cx : Cx w base outer g L A env (n + 7)) (hw : WF st rest) (ci : CI prog w st ab cur rt ch) (mok : MOK ab.M) (dok : DOK ab.D) (hv : atI ab.D key = some v) (hk : key ∈ ab.M.flatMap (·.2)) {args : List Value} (ha : args = [d] ∨ args = [])
    (h : ∀ st' ch' M1 M' t, Same st' st → WF st' rest → TouchR key ab.M M1 → DelR key M1 M' → CI prog w st' { ab with D := withoutI ab.D key, M := M' } (cur - szOf ab.sized v) rt ch' → Q (.int v t) m (objs st' ++ rest)) :
    Op prog w A g L E (call (.ref 786) (.ref st.c :: .int key t :: args)) Q m (objs st ++ rest) := by
  have core : ∀ (dv : Value) (env'' : Env) (g' : Heap) (L' : Addr) (E' : Value → Heap → Prop) (A' : Around) (m' : Loc), env'' = envX "Cache.pop" f786.1.2.2 L' 786 (.ref 785) [] → Cx w base (env :: outer) g' L' A' env'' (n + 6) → m' "self" = some (.ref st.c) → m' "key" = some (.int key t) →
      Op prog w A' g' L' E' (execs f786.1.2.1 env'') (fun fl _ fp' => Q (retOf fl) m fp') m' (objs st ++ rest) := by
    rintro dv env'' g' L' E' A' m' rfl cx' h1 h2
    refine o_cons (o_if (o_isCompare (o_loc h2 (o_loc h1 (c_in cx' ci (o_truthyBool ?_))))))
    rw [if_pos (by rw [hv]; rfl)]
    refine o_cons (o_assign (o_subscript (o_loc h1 (o_loc h2 (c_sub cx' hw ci mok hv hk fun st1 ch1 M1 tv ec1 hw1 ci1 ht => o_store ?_)))))
    rw [← ec1.1] at h1
    have mok1 := mok.touch ht
    refine o_cons (o_delSub (o_loc h1 (o_loc h2 (c_del cx' hw1 ci1 mok1.1 dok hv (mok1.2.mem_iff.mpr hk) fun st2 ch2 M2 ec2 hw2 ci2 hd => o_nil ?_))))
    exact o_cons (o_ret (o_loc rfl (h st2 ch2 M1 M2 tv (Same.trans ec2 ec1) hw2 ht hd ci2)))
  rcases ha with rfl | rfl
  · refine o_call cx (kl_786 _) (kc_786 _) (fun s X => binds_K (T := 779) X rfl (kl_779 _) rfl rfl rfl) (locs rfl) (by decide) fun g' L' E' cx' _ _ => ?_
    exact core d _ g' L' E' _ _ rfl cx' rfl rfl
  · refine o_call cx (kl_786 _) (kc_786 _) (fun s X => binds_K (T := 779) X rfl (kl_779 _) rfl rfl rfl) (locs rfl) (by decide) fun g' L' E' cx' _ _ => ?_
    exact core d _ g' L' E' _ _ rfl cx' rfl rfl

theorem cpopDef_spec {d : Int} {td : Tok} {Q : Value → Loc → FP → Prop} (cx : Cx w base outer g L A env (n + 2)) (ci : CI prog w st ab cur rt ch) (hv : atI ab.D key = none) (h : Q (.int d td) m (objs st ++ rest)) :
    Op prog w A g L E (call (.ref 786) [.ref st.c, .int key t, .int d td]) Q m (objs st ++ rest) := by
  refine o_call cx (kl_786 _) (kc_786 _) (fun s X => binds_K (T := 779) X rfl (kl_779 _) rfl rfl rfl) (locs rfl) (by decide) fun g' L' E' cx' _ _ => ?_
  refine o_cons (o_if (o_isCompare (o_loc rfl (o_loc rfl (c_in cx' ci (o_truthyBool ?_))))))
  rw [if_neg (by rw [hv]; simp)]
  refine o_cons (o_if (o_isCompare (o_loc rfl (o_attr (o_loc rfl (c_mark cx' ci (o_isIntRef (o_truthyBool ?_))))))))
  rw [if_neg (by simp)]
  exact o_cons (o_assign (o_loc rfl (o_store (o_nil (o_nil (o_cons (o_ret (o_loc rfl h))))))))

theorem cpopMiss_spec {Q : Value → Loc → FP → Prop} (cx : Cx w base outer g L A env (n + 2)) (ci : CI prog w st ab cur rt ch) (hv : atI ab.D key = none)
    (hE : ∀ e h', XC base env outer g L "KeyError" (objs st ++ rest) (fun m' => m' = m) e h' → E e h') :
    Op prog w A g L E (call (.ref 786) [.ref st.c, .int key t]) Q m (objs st ++ rest) := by
  refine o_callE (P := fun _ => True) cx (kl_786 _) (kc_786 _) (fun s X => binds_K (T := 779) X rfl (kl_779 _) rfl rfl rfl) (locs rfl) (by decide) (fun g' L' cx' _ _ => ?_) hE
  refine o_cons (o_if (o_isCompare (o_loc rfl (o_loc rfl (c_in cx' ci (o_truthyBool ?_))))))
  rw [if_neg (by rw [hv]; simp)]
  refine o_cons (o_if (o_isCompare (o_loc rfl (o_attr (o_loc rfl (c_mark cx' ci (o_isSelf (o_truthyBool ?_))))))))
  rw [if_pos rfl]
  exact o_cons (o_raise (base := base) (outer := env :: outer) (env := envX "Cache.pop" f786.1.2.2 L' 786 (.ref 785) []) excClass_KeyError cx'.handled (o_built cx' (kn_KeyError _) rfl (by decide) ⟨rfl, o_loc rfl fun e h' x => x.mono fun _ _ => trivial⟩))
end
end Mine
end
section
open PySem PySem.W PySem.Calls PyProof.Rows
set_option Elab.async false
set_option maxRecDepth 100000
set_option linter.unusedVariables false
namespace Mine
section
variable {prog : Program} {w : World} {A : Around} {g base : Heap} {outer : List Env} {L : Addr} {E : Value → Heap → Prop} {m : Loc} {fp : FP} {n : Nat} {env env' : Env} {st : St} {rest : FP} {ab : Ab} {cur : Int} {rt : Nd} {ch : List Nd} {ex : Bool} {key : Int} {t : Tok}

/-- cache[key] = value from outside -/
theorem c_set {v : Int} {tv : Tok} {Q : Unit → Loc → FP → Prop} (cx : Cx w base outer g L A env (n + 7)) (hw : WF st rest) (ci : CI prog w st ab (roomOf ab.sized ab.D) rt ch) (aok : AOK ab) (h0 : 0 ≤ szOf ab.sized v) (hr : szOf ab.sized v ≤ ab.room) (hcur : roomOf ab.sized ab.D ≤ ab.room)
    (h : ∀ st' ch' ab1 M', Same st' st → WF st' rest → EvR key (szOf ab.sized v) ab ab1 → ((key ∈ ab1.M.flatMap (·.2) ∧ TouchR key ab1.M M') ∨ (key ∉ ab1.M.flatMap (·.2) ∧ AddR key ab1.M M')) →
      ab1.sized = ab.sized → ab1.room = ab.room → CI prog w st' { ab1 with D := storedI ab1.D key v, M := M' } (roomOf ab1.sized (storedI ab1.D key v)) rt ch' → Q () m (objs st' ++ rest)) :
    Op prog w A g L E (setItem (.ref st.c) (.int key t) (.int v tv)) Q m (objs st ++ rest) :=
  o_setItemInst cx m_c m_dc (kf_noSeq _) (kf_set _) (kfn_897 _) (lset_spec cx hw ci aok h0 hr hcur h)
theorem c_refuse {v : Int} {tv : Tok} {Q : Unit → Loc → FP → Prop} (cx : Cx w base outer g L A env (n + 4)) (ci : CI prog w st ab cur rt ch) (hr : szOf ab.sized v > ab.room ∨ szOf ab.sized v < 0)
    (hE : ∀ e h', XC base env outer g L "ValueError" (objs st ++ rest) (fun m' => m' = m) e h' → E e h') :
    Op prog w A g L E (setItem (.ref st.c) (.int key t) (.int v tv)) Q m (objs st ++ rest) :=
  o_setItemInst cx m_c m_dc (kf_noSeq _) (kf_set _) (kfn_897 _) (lrefuse_spec cx ci hr hE)

theorem cdefFound_spec {v : Int} {d : Value} {Q : Value → Loc → FP → Prop} (cx : Cx w base outer g L A env (n + 7)) (hw : WF st rest) (ci : CI prog w st ab cur rt ch) (mok : MOK ab.M) (hv : atI ab.D key = some v) (hk : key ∈ ab.M.flatMap (·.2))
    (h : ∀ st' ch' M' t, Same st' st → WF st' rest → CI prog w st' { ab with M := M' } cur rt ch' → TouchR key ab.M M' → Q (.int v t) m (objs st' ++ rest)) :
    Op prog w A g L E (call (.ref 794) [.ref st.c, .int key t, d]) Q m (objs st ++ rest) := by
  refine o_call cx (kl_794 _) (kc_794 _) (fun s X => binds_K (T := 787) X rfl (kl_787 _) rfl rfl rfl) (locs rfl) (by decide) fun g' L' E' cx' _ _ => ?_
  refine o_cons (o_if (o_isCompare (o_loc rfl (o_loc rfl (c_in cx' ci (o_truthyBool ?_))))))
  rw [if_pos (by rw [hv]; rfl)]
  exact o_cons (o_assign (o_subscript (o_loc rfl (o_loc rfl (c_sub cx' hw ci mok hv hk fun st1 ch1 M1 tv ec1 hw1 ci1 ht => o_store (o_nil (o_cons (o_ret (o_loc rfl (h st1 ch1 M1 tv ec1 hw1 ci1 ht))))))))))
theorem cdefSet_spec {v : Int} {tv : Tok} {Q : Value → Loc → FP → Prop} (cx : Cx w base outer g L A env (n + 8)) (hw : WF st rest) (ci : CI prog w st ab (roomOf ab.sized ab.D) rt ch) (aok : AOK ab) (hv : atI ab.D key = none) (h0 : 0 ≤ szOf ab.sized v) (hr : szOf ab.sized v ≤ ab.room) (hcur : roomOf ab.sized ab.D ≤ ab.room)
    (h : ∀ st' ch' ab1 M', Same st' st → WF st' rest → EvR key (szOf ab.sized v) ab ab1 → ((key ∈ ab1.M.flatMap (·.2) ∧ TouchR key ab1.M M') ∨ (key ∉ ab1.M.flatMap (·.2) ∧ AddR key ab1.M M')) →
      ab1.sized = ab.sized → ab1.room = ab.room → CI prog w st' { ab1 with D := storedI ab1.D key v, M := M' } (roomOf ab1.sized (storedI ab1.D key v)) rt ch' → Q (.int v tv) m (objs st' ++ rest)) :
    Op prog w A g L E (call (.ref 794) [.ref st.c, .int key t, .int v tv]) Q m (objs st ++ rest) := by
  refine o_call cx (kl_794 _) (kc_794 _) (fun s X => binds_K (T := 787) X rfl (kl_787 _) rfl rfl rfl) (locs rfl) (by decide) fun g' L' E' cx' _ _ => ?_
  refine o_cons (o_if (o_isCompare (o_loc rfl (o_loc rfl (c_in cx' ci (o_truthyBool ?_))))))
  rw [if_neg (by rw [hv]; simp)]
  refine o_cons (o_assign2 (o_loc rfl (o_asSub (o_loc rfl (o_loc rfl (c_set cx' hw ci aok h0 hr hcur fun st' ch' ab1 M' a b c d e f g => o_asName (o_store (o_nil (o_cons (o_ret (o_loc rfl ?_)))))))))))
  exact h st' ch' ab1 M' a b c d e f g
theorem cdefRefuse_spec {v : Int} {tv : Tok} {Q : Value → Loc → FP → Prop} (cx : Cx w base outer g L A env (n + 5)) (ci : CI prog w st ab cur rt ch) (hv : atI ab.D key = none) (hr : szOf ab.sized v > ab.room ∨ szOf ab.sized v < 0)
    (hE : ∀ e h', XC base env outer g L "ValueError" (objs st ++ rest) (fun m' => m' = m) e h' → E e h') :
    Op prog w A g L E (call (.ref 794) [.ref st.c, .int key t, .int v tv]) Q m (objs st ++ rest) := by
  refine o_callE (P := fun _ => True) cx (kl_794 _) (kc_794 _) (fun s X => binds_K (T := 787) X rfl (kl_787 _) rfl rfl rfl) (locs rfl) (by decide) (fun g' L' cx' _ _ => ?_) hE
  refine o_cons (o_if (o_isCompare (o_loc rfl (o_loc rfl (c_in cx' ci (o_truthyBool ?_))))))
  rw [if_neg (by rw [hv]; simp)]
  exact o_cons (o_assign2 (o_loc rfl (o_asSub (o_loc rfl (o_loc rfl (c_refuse cx' ci hr fun e h' x => x.mono fun _ _ => trivial))))))

theorem cclear_spec {Q : Value → Loc → FP → Prop} (cx : Cx w base outer g L A env (n + 1)) (hw : WF st rest) (ci : CI prog w st ab cur rt ch) (dok : DOK ab.D)
    (h : ∀ st', Same st' st → WF st' rest → CI prog w st' { ab with D := [] } 0 rt ch → Q .none m (objs st' ++ rest)) :
    Op prog w A g L E (call (.ref 801) [.ref st.c]) Q m (objs st ++ rest) := by
  obtain ⟨kv, hkv, lo, hp, hlen⟩ := ci.dlen dok
  obtain ⟨tc, tm, att⟩ := ci.att
  refine o_call cx (kl_801 _) (kc_801 _) (fun s _ => BindsTo.of_eq rfl) (locs rfl) (by decide) fun g' L' E' cx' _ _ => ?_
  cases hs : st.sz with
  | none =>
    have hsz := ci_sz ci hs
    refine o_cons (o_assign (o_attr (o_loc rfl (c_sizeNo cx' ci hs (o_store ?_)))))
    refine o_cons (o_if (o_isCompare (o_loc rfl (o_none (o_isNotNone (o_truthyBool ?_))))))
    rw [if_neg (by rw [show (Value.none == Value.none) = true from rfl]; simp)]
    refine o_nil ?_
    refine o_cons (o_exprStmt (o_methodCall _ (o_attr (o_loc rfl (c_data cx' ci (o_dictMeth PySem.F.slot_dict_clear (by rfl) m_dA hkv (o_callB0 (o_clear m_dA hkv hlen fun o' ho' => to_data hw ?_)))))))) 
    refine o_cons (o_assignAttr (o_int fun tz => o_loc rfl (s_set (st := { st with oD := o' }) cx' hw (kt_cur _) (by decide) att rfl fun es ep att' => to_attr (st := { st with oD := o' }) hw (o_nil ?_))))
    rw [attF_cur] at att'
    refine h { st with oD := o', es := es, ep := ep } ⟨rfl, rfl, rfl⟩ hw ⟨⟨tz, tm, att'⟩, ci.sh.copy, ci.kd, ci.M, ci.hL, ⟨_, ho', lo, .nil⟩, ?_⟩
    show match st.sz with | some (sA, oS) => _ | none => _
    rw [hs]; exact hsz
  | some p =>
    obtain ⟨sA, oS⟩ := p
    obtain ⟨hsz, kvS, hS, loS, hpS⟩ := ci_szS ci hs
    have hlenS : kvS.length ≤ 1000 := by rw [hpS.len, List.length_map, ← hp.len]; exact hlen
    refine o_cons (o_assign (o_attr (o_loc rfl (c_sizeYes cx' ci hs (o_store ?_)))))
    refine o_cons (o_if (o_isCompare (o_loc rfl (o_none (o_isNotNone (o_truthyBool ?_))))))
    rw [if_pos (by rfl)]
    refine o_cons (o_exprStmt (o_methodCall _ (o_loc rfl (o_dictMeth PySem.F.slot_dict_clear (by rfl) (m_sz hs) hS (o_callB0 (o_clear (m_sz hs) hS hlenS fun oS' hoS' => to_sz hw hs (o_nil ?_)))))))
    have hw1 : WF { st with sz := some (sA, oS') } rest := hw.same (by simp only [addrs', hs, Option.toList, List.map_cons, List.map_nil])
    have att1 : Att 7 ({ st with sz := some (sA, oS') } : St).es (attF (st.sz.map (·.1)) st.dA rt.a st.lA cur tc ab.room tm) := att
    refine o_cons (o_exprStmt (o_methodCall _ (o_attr (o_loc rfl (s_get (st := { st with sz := some (sA, oS') }) cx' (kf_data _) (kf_noget _) att1 rfl rfl (o_dictMeth PySem.F.slot_dict_clear (by rfl) m_dA hkv (o_callB0 (o_clear m_dA hkv hlen fun o' ho' => to_data hw1 ?_)))))))) 
    refine o_cons (o_assignAttr (o_int fun tz => o_loc rfl (s_set (st := { st with sz := some (sA, oS'), oD := o' }) cx' hw1 (kt_cur _) (by decide) att1 rfl fun es ep att' => to_attr (st := { st with sz := some (sA, oS'), oD := o' }) hw1 (o_nil ?_))))
    rw [attF_cur] at att'
    refine h { st with sz := some (sA, oS'), oD := o', es := es, ep := ep } ⟨rfl, rfl, by rw [hs]; rfl⟩ hw1 ⟨⟨tz, tm, by rw [hs] at att'; exact att'⟩, ci.sh.copy, ci.kd, ci.M, ci.hL, ⟨_, ho', lo, .nil⟩, ⟨hsz, _, hoS', loS, .nil⟩⟩

theorem lclear_spec {Q : Value → Loc → FP → Prop} (cx : Cx w base outer g L A env (n + 2)) (hw : WF st rest) (ci : CI prog w st ab cur rt ch) (mok : MOK ab.M) (dok : DOK ab.D)
    (h : ∀ st', Same st' st → WF st' rest → CI prog w st' { ab with D := [], M := [] } 0 rt [] → Q .none m (objs st' ++ rest)) :
    Op prog w A g L E (call (.ref 919) [.ref st.c]) Q m (objs st ++ rest) := by
  refine o_call cx (kl_919 _) (kc_919 _) (fun s _ => BindsTo.of_eq rfl) (locs rfl) (by decide) fun g' L' E' cx' _ _ => ?_
  refine o_cons (o_exprStmt (o_methodCall _ (o_glob cx' (kn_Cache _) (o_methCls cx' (kg_830 _) (o_clsVal cx' (kT_830 _) (kr_830 _) (kcl_clear _) rfl (o_callK cx' (kp_801 _) (o_argsCons (o_loc rfl (o_argsNil (cclear_spec cx' hw ci dok fun st1 ec1 hw1 ci1 => ?_)))))))))) 
  rw [← ec1.1]
  have mrt := ci1.sh.rtm
  obtain ⟨tc, tm, att⟩ := ci1.att
  obtain ⟨kv, hkv, lo, hat, hperm⟩ := ci1.hL
  have hlen : kv.length ≤ 1000 := by
    have := hperm.length_eq
    have h5 : (ab.M.flatMap (·.2)).length ≤ 5 := mok.five
    rw [List.length_map] at this
    have e5 : ({ ab with D := [] } : Ab).M = ab.M := rfl
    rw [e5] at this; omega
  refine o_cons (o_assign (o_attr (o_loc rfl (c_root cx' ci1 (o_store ?_)))))
  refine o_cons (o_assign2 (o_loc rfl (o_asAttr (o_loc rfl (s_setPrev cx' mrt (to_prev hw1 mrt (o_asAttr (o_loc rfl (s_setNext (st := { st1 with pv := upA st1.pv rt.a rt.a }) cx' mrt (to_next (st := { st1 with pv := upA st1.pv rt.a rt.a }) hw1 mrt ?_))))))))))
  refine o_cons (o_exprStmt (o_methodCall _ (o_attr (o_loc rfl (s_get (st := { st1 with pv := upA st1.pv rt.a rt.a, nx := upA st1.nx rt.a rt.a }) cx' (kf_links _) (kf_noget _) att rfl rfl (o_dictMeth PySem.F.slot_dict_clear (by rfl) m_lA hkv (o_callB0 (o_clear m_lA hkv hlen fun o' ho' => to_lnk (st := { st1 with pv := upA st1.pv rt.a rt.a, nx := upA st1.nx rt.a rt.a }) hw1 (o_nil ?_)))))))))
  exact h { st1 with pv := upA st1.pv rt.a rt.a, nx := upA st1.nx rt.a rt.a, oL := o' } ec1 hw1 ⟨⟨tc, tm, att⟩, ⟨mrt, (fun _ q => nomatch q), by simp, ⟨⟨if_pos rfl, if_pos rfl⟩, trivial⟩, ci1.sh.rt0⟩, (fun _ q => nomatch q), rfl, ⟨_, ho', lo, (fun _ q => nomatch q), .nil⟩, ci1.hD, ci1.hS⟩
end
end Mine
end
section
open PySem PySem.W PySem.Calls PyProof.Rows
set_option Elab.async false
set_option maxRecDepth 100000
set_option linter.unusedVariables false
namespace Mine
section
variable (P : Params)
theorem kl_714 : (K P).lookup 714 = some o714 := by kernel_rfl
theorem kc_714 : codeIn (K P) (.ref 713) "Cache.__init__" = true := by kernel_rfl
theorem kl_707 : (K P).lookup 707 = some o707 := by kernel_rfl
theorem kl_874 : (K P).lookup 874 = some o874 := by kernel_rfl
theorem kl_881 : (K P).lookup 881 = some o881 := by kernel_rfl
theorem kc_881 : codeIn (K P) (.ref 880) "LFUCache.__init__" = true := by kernel_rfl
theorem kmk_929 : makesIn (K P) 929 = true := by kernel_rfl
theorem kin_929 : findIn (K P) (.ref 929) "__init__" = some (some (.ref 881)) := by kernel_rfl
theorem kfn_881 : isFn (K P) (.ref 881) = true := by kernel_rfl
theorem kt_gso : takerIn (K P) 929 "getsizeof" = some none := by kernel_rfl
theorem kt_size : takerIn (K P) 929 "_Cache__size" = some none := by kernel_rfl
theorem kt_data : takerIn (K P) 929 "_Cache__data" = some none := by kernel_rfl
theorem kt_max : takerIn (K P) 929 "_Cache__maxsize" = some none := by kernel_rfl
theorem kt_root : takerIn (K P) 929 "_LFUCache__root" = some none := by kernel_rfl
theorem kt_links : takerIn (K P) 929 "_LFUCache__links" = some none := by kernel_rfl
theorem kcl_gso : findCls (K P) (.ref 830) (.ref 89) "getsizeof" = some (.get (.builtin "staticmethod.__get__") (.ref 826) .none (.ref 830)) := by kernel_rfl
theorem krec_826 : recIn (K P) 826 "staticmethod" = some [.ref 824, .bool false] := by kernel_rfl
theorem kcl_init : findCls (K P) (.ref 830) (.ref 89) "__init__" = some (.val (.ref 714)) := by kernel_rfl
theorem kp_714 : keepIn (K P) (.ref 714) = true := by kernel_rfl
theorem kl_824 : (K P).lookup 824 = some o824 := by kernel_rfl
end
section
variable {prog : Program} {w : World} {A : Around} {g base : Heap} {outer : List Env} {L : Addr} {E : Value → Heap → Prop} {m : Loc} {fp ex : FP} {n k : Nat} {env env' : Env} {x dx : Addr} {es : List DictEntry} {ep : Nat} {f : Str → Option Value}

abbrev newI (x dx : Addr) (es : List DictEntry) (ep : Nat) (ex : FP) : FP := (x, inst 929 dx) :: (dx, dictOf es ep) :: ex
theorem i_set {name : Str} {v : Value} {Q : Unit → Loc → FP → Prop} (cx : Cx w base outer g L A env n) (ht : takerIn (K w.params) 929 name = some none) (hk : k ≤ 100) (at_ : Att k es f) (hne : x ≠ dx) (hex : ∀ p ∈ ex, p.1 ≠ dx)
    (h : ∀ es' ep', Att (k + 1) es' (fun y => if y = name then some v else f y) → Q () m (newI x dx es' ep' ex)) : Op prog w A g L E (setAttr (.ref x) name v) Q m (newI x dx es ep ex) := by
  have base := o_setOwn (prog := prog) (A := A) (E := E) (m := m) (v := v) (name := name) (Q := fun _ m' fp' => m' = m ∧ ∃ t, fp' = put dx (dictOf (putL name (PyData.keyHash w.params name) (.str name t) v es) (putN name es ep)) (newI x dx es ep ex)) cx (.head _) (.tail _ (.head _)) (kf_sa _) (kf_po _) ht (kf_hd _) (by rw [at_.at_]; rfl)
    (fun t => Nat.le_trans putL_len (by have := at_.len; omega)) fun t => ⟨rfl, t, rfl⟩
  refine .intro fun s F N => ?_
  refine wpAny_mono (base.run s F N) (fun _ s' ⟨h', t', m', fp', e, F', N', em, t, ef⟩ => ?_) fun _ _ z => z
  subst em ef
  have N2 : News g L h' (newI x dx (putL name (PyData.keyHash w.params name) (.str name t) v es) (putN name es ep) ex) := Mine.News.sub N' fun p hp => by
    rcases List.mem_cons.mp hp with rfl | hp
    · exact put_ne (.head _) hne
    · rcases List.mem_cons.mp hp with rfl | hp
      · exact put_self
      · exact put_ne (.tail _ (.tail _ hp)) (hex p hp)
  exact ⟨h', t', m', _, e, F', N2, h _ _ at_.new⟩
theorem o_isNotK {a b : Addr} {oa ob : Obj} {Q : Value → Loc → FP → Prop} (cx : Cx w base outer g L A env n) (ha : (K w.params).lookup a = some oa) (hb : (K w.params).lookup b = some ob) (hne : a ≠ b) (hc : oa.cls ≠ .type "tuple") (h : Q (.bool true) m fp) :
    Op prog w A g L E (compareOp .IsNot (.ref a) (.ref b)) Q m fp :=
  Op.of fun s F N _ kk => wpAny_isNot_ref_other hne ((cx.X.keeps F.keep) _ _ ha) ((cx.X.keeps F.keep) _ _ hb) hc (kk _ s.heap s.toks m fp F N h)
theorem o_isNotSelf {a : Addr} {Q : Value → Loc → FP → Prop} (h : Q (.bool false) m fp) : Op prog w A g L E (compareOp .IsNot (.ref a) (.ref a)) Q m fp :=
  Op.of fun s F N _ kk => wpAny_isNot_ref_self (kk _ s.heap s.toks m fp F N h)
theorem to_newI {α : Type} {tr : Sem α} {Q : α → Loc → FP → Prop} {d : Addr} {o : Obj} (h : Op prog w A g L E tr Q m (newI x dx es ep ((d, o) :: ex))) : Op prog w A g L E tr Q m ((d, o) :: newI x dx es ep ex) :=
  Op.weaken h fun p hp => by
    rcases List.mem_cons.mp hp with rfl | hp
    · exact .tail _ (.head _)
    · rcases List.mem_cons.mp hp with rfl | hp
      · exact .tail _ (.tail _ (.head _))
      · rcases List.mem_cons.mp hp with rfl | hp
        · exact .head _
        · exact .tail _ (.tail _ (.tail _ hp))
abbrev updF (f : Str → Option Value) (name : Str) (v : Value) : Str → Option Value := fun y => if y = name then some v else f y

theorem cinitU_spec {room : Int} {tr : Tok} {Q : Value → Loc → FP → Prop} (cx : Cx w base outer g L A env (n + 1)) (h0 : 0 ≤ room) (at_ : Att 0 es fun _ => none) (hne : dx < x) (hex : ∀ p ∈ ex, p.1 < dx)
    (h : ∀ es' ep' dA oD tz, Att 3 es' (updF (updF (updF (fun _ => none) "_Cache__data" (.ref dA)) "_Cache__currsize" (.int 0 tz)) "_Cache__maxsize" (.int room tr)) → x < dA → IsD prog w oD [] → (dA == sysModules) = false → Q .none m (newI x dx es' ep' ((dA, oD) :: ex))) :
    Op prog w A g L E (call (.ref 714) [.ref x, .int room tr, .none]) Q m (newI x dx es ep ex) := by
  have nxd : x ≠ dx := Nat.ne_of_gt hne
  have nex : ∀ p ∈ ex, p.1 ≠ dx := fun p hp => Nat.ne_of_lt (hex p hp)
  refine o_call cx (kl_714 _) (kc_714 _) (fun s X => binds_K (T := 707) X rfl (kl_707 _) rfl rfl rfl) (locs rfl) (by decide) fun g' L' E' cx' _ _ => ?_
  refine o_cons (o_if (o_isCompare (o_loc rfl (o_int fun _ => o_ltI (o_truthyBool ?_)))))
  rw [if_neg (by simpa using h0)]
  refine o_nil ?_
  refine o_cons (o_if (o_isCompare (o_loc rfl (o_none (o_isNotNone (o_truthyBool ?_))))))
  rw [if_neg (by rw [show (Value.none == Value.none) = true from rfl]; simp)]
  refine o_nil ?_
  refine o_cons (o_if (o_isCompare (o_attr (o_loc rfl (o_getSmCls cx' (.head _) (.tail _ (.head _)) (kf_pg _ _) (kf_hd _) (kf_gso _) (kg_826 _) (kk_826 _) (by decide) (by rw [at_.at_]) (krec_826 _) rfl
    (o_attr (o_glob cx' (kn_Cache _) (o_clsSm cx' (kT_830 _) (kr_830 _) (kcl_gso _) (krec_826 _) rfl (o_isNotSelf (o_truthyBool ?_))))))))))
  rw [if_neg (by simp)]
  refine o_nil ?_
  refine o_cons (o_assignAttr (o_newDict cx' fun dA oD lt lo hD => o_loc rfl (to_newI ?_)))
  have lA : x < dA := lt _ (.head _)
  have nex1 : ∀ p ∈ ((dA, oD) :: ex), p.1 ≠ dx := fun p hp => by
    rcases List.mem_cons.mp hp with rfl | hp
    · exact Nat.ne_of_gt (Nat.lt_trans hne lA)
    · exact nex p hp
  refine i_set cx' (kt_data _) (by decide) at_ nxd nex1 fun es1 ep1 at1 => ?_
  refine o_cons (o_assignAttr (o_int fun tz => o_loc rfl (i_set cx' (kt_cur _) (by decide) at1 nxd nex1 fun es2 ep2 at2 => ?_)))
  refine o_cons (o_assignAttr (o_loc rfl (o_loc rfl (i_set cx' (kt_max _) (by decide) at2 nxd nex1 fun es3 ep3 at3 => o_nil ?_))))
  exact h es3 ep3 dA oD tz at3 lA hD lo

theorem cinitS_spec {room : Int} {tr : Tok} {Q : Value → Loc → FP → Prop} (cx : Cx w base outer g L A env (n + 1)) (h0 : 0 ≤ room) (at_ : Att 0 es fun _ => none) (hne : dx < x) (hex : ∀ p ∈ ex, p.1 < dx)
    (h : ∀ es' ep' sA oS dA oD tz, Att 5 es' (updF (updF (updF (updF (updF (fun _ => none) "getsizeof" (.ref 938)) "_Cache__size" (.ref sA)) "_Cache__data" (.ref dA)) "_Cache__currsize" (.int 0 tz)) "_Cache__maxsize" (.int room tr)) → x < sA → sA < dA → IsD prog w oS [] → (sA == sysModules) = false → IsD prog w oD [] → (dA == sysModules) = false →
      Q .none m (newI x dx es' ep' ((dA, oD) :: (sA, oS) :: ex))) :
    Op prog w A g L E (call (.ref 714) [.ref x, .int room tr, .ref 938]) Q m (newI x dx es ep ex) := by
  have nxd : x ≠ dx := Nat.ne_of_gt hne
  have nex : ∀ p ∈ ex, p.1 ≠ dx := fun p hp => Nat.ne_of_lt (hex p hp)
  refine o_call cx (kl_714 _) (kc_714 _) (fun s X => binds_K (T := 707) X rfl (kl_707 _) rfl rfl rfl) (locs rfl) (by decide) fun g' L' E' cx' _ _ => ?_
  refine o_cons (o_if (o_isCompare (o_loc rfl (o_int fun _ => o_ltI (o_truthyBool ?_)))))
  rw [if_neg (by simpa using h0)]
  refine o_nil ?_
  refine o_cons (o_if (o_isCompare (o_loc rfl (o_none (o_isNotNone (o_truthyBool ?_))))))
  rw [if_pos (by rfl)]
  refine o_cons (o_assignAttr (o_loc rfl (o_loc rfl (i_set cx' (kt_gso _) (by decide) at_ nxd nex fun es0 ep0 at0 => o_nil ?_))))
  refine o_cons (o_if (o_isCompare (o_attr (o_loc rfl (o_getSm (v := .ref 938) cx' (.head _) (.tail _ (.head _)) (kf_pg _ _) (kf_hd _) (kf_gso _) (kg_826 _) (kk_826 _) (by rw [at0.at_]; rfl) rfl
    (o_attr (o_glob cx' (kn_Cache _) (o_clsSm cx' (kT_830 _) (kr_830 _) (kcl_gso _) (krec_826 _) rfl (o_isNotK cx' (kl_938 _) (kl_824 _) (by decide) (by intro q; injection q with q; exact absurd q (by decide)) (o_truthyBool ?_))))))))))
  rw [if_pos rfl]
  refine o_cons (o_assignAttr (o_newDict cx' fun sA oS lt lo hS => o_loc rfl (to_newI ?_)))
  have lS : x < sA := lt _ (.head _)
  have nexS : ∀ p ∈ ((sA, oS) :: ex), p.1 ≠ dx := fun p hp => by
    rcases List.mem_cons.mp hp with rfl | hp
    · exact Nat.ne_of_gt (Nat.lt_trans hne lS)
    · exact nex p hp
  refine i_set cx' (kt_size _) (by decide) at0 nxd nexS fun esS epS atS => o_nil ?_
  refine o_cons (o_assignAttr (o_newDict cx' fun dA oD lt2 lo2 hD => o_loc rfl (to_newI ?_)))
  have lA : sA < dA := lt2 _ (.tail _ (.tail _ (.head _)))
  have nex1 : ∀ p ∈ ((dA, oD) :: (sA, oS) :: ex), p.1 ≠ dx := fun p hp => by
    rcases List.mem_cons.mp hp with rfl | hp
    · exact Nat.ne_of_gt (Nat.lt_trans (Nat.lt_trans hne lS) lA)
    · exact nexS p hp
  refine i_set cx' (kt_data _) (by decide) atS nxd nex1 fun es1 ep1 at1 => ?_
  refine o_cons (o_assignAttr (o_int fun tz => o_loc rfl (i_set cx' (kt_cur _) (by decide) at1 nxd nex1 fun es2 ep2 at2 => ?_)))
  refine o_cons (o_assignAttr (o_loc rfl (o_loc rfl (i_set cx' (kt_max _) (by decide) at2 nxd nex1 fun es3 ep3 at3 => o_nil ?_))))
  exact h es3 ep3 sA oS dA oD tz at3 lS lA hS lo hD lo2
end
end Mine
end
section
open PySem PySem.W PySem.Calls PyProof.Rows
set_option Elab.async false
set_option maxRecDepth 100000
set_option linter.unusedVariables false
namespace Mine
theorem nodup7 {dx x dA dy y ky lA : Nat} (h1 : dx < x) (h2 : x < dA) (h3 : dA < dy) (h4 : dy < y) (h5 : y < ky) (h6 : ky < lA) : [x, dx, dA, lA, y, dy, ky].Nodup := by
  simp only [List.nodup_cons, List.mem_cons, List.not_mem_nil, or_false, not_or, not_false_eq_true, List.nodup_nil, and_true]
  omega
theorem nodup8 {dx x sA dA dy y ky lA : Nat} (h1 : dx < x) (h2 : x < sA) (h2' : sA < dA) (h3 : dA < dy) (h4 : dy < y) (h5 : y < ky) (h6 : ky < lA) : [x, dx, dA, lA, sA, y, dy, ky].Nodup := by
  simp only [List.nodup_cons, List.mem_cons, List.not_mem_nil, or_false, not_or, not_false_eq_true, List.nodup_nil, and_true]
  omega
theorem nodup_join {l1 l2 : List Addr} {d : Addr} (h1 : l1.Nodup) (h2 : l2.Nodup) (a : ∀ x ∈ l1, d ≤ x) (b : ∀ x ∈ l2, x < d) : (l1 ++ l2).Nodup :=
  List.nodup_append.mpr ⟨h1, h2, fun x hx y hy e => by subst e; exact Nat.lt_irrefl _ (Nat.lt_of_lt_of_le (b x hy) (a x hx))⟩
section
variable {prog : Program} {w : World} {A : Around} {g base : Heap} {outer : List Env} {L : Addr} {E : Value → Heap → Prop} {m : Loc} {fp ex : FP} {n k : Nat} {env env' : Env} {x dx : Addr} {es : List DictEntry} {ep : Nat} {f : Str → Option Value}
theorem to_newI3 {α : Type} {tr : Sem α} {Q : α → Loc → FP → Prop} {a b c : Addr × Obj} (h : Op prog w A g L E tr Q m (newI x dx es ep (a :: b :: c :: ex))) : Op prog w A g L E tr Q m (a :: b :: c :: newI x dx es ep ex) :=
  Op.weaken h fun p hp => by
    simp only [List.mem_cons] at hp ⊢
    rcases hp with h | h | h | h | h | h
    · exact .inr (.inr (.inr (.inl h)))
    · exact .inr (.inr (.inr (.inr (.inl h))))
    · exact .inl h
    · exact .inr (.inl h)
    · exact .inr (.inr (.inl h))
    · exact .inr (.inr (.inr (.inr (.inr h))))
theorem to_newIraw {α : Type} {tr : Sem α} {Q : α → Loc → FP → Prop} {d : Addr} {o o' : Obj} (h1 : x ≠ d) (h2 : dx ≠ d) (h3 : ∀ p ∈ ex, p.1 ≠ d) (h : Op prog w A g L E tr Q m (newI x dx es ep ((d, o') :: ex))) : Op prog w A g L E tr Q m (put d o' (newI x dx es ep ((d, o) :: ex))) :=
  Op.weaken h fun p hp => by
    rcases List.mem_cons.mp hp with rfl | hp
    · exact put_ne (.head _) h1
    · rcases List.mem_cons.mp hp with rfl | hp
      · exact put_ne (.tail _ (.head _)) h2
      · rcases List.mem_cons.mp hp with rfl | hp
        · exact put_self
        · exact put_ne (.tail _ (.tail _ (.tail _ hp))) (h3 p hp)

/-- the tail of the cache's own __init__, behind Cache.__init__ -/
theorem linit_tail {Q : Flow → Loc → FP → Prop} (cx : Cx w base outer g L A (envX "LFUCache.__init__" f881.1.2.2 L 881 (.ref 880) []) (n + 2)) (at_ : Att k es f) (hk : k ≤ 50) (hne : dx < x) (hex : ∀ p ∈ ex, p.1 ≠ x ∧ p.1 ≠ dx) (h1 : m "self" = some (.ref x))
    (h : ∀ es' ep' y dy ky lA oK oL tk, Att (k + 2) es' (updF (updF f "_LFUCache__root" (.ref y)) "_LFUCache__links" (.ref lA)) → (∀ p ∈ newI x dx es ep ex, p.1 < dy) → dy < y → y < ky → ky < lA → IsD prog w oK [] → (ky == sysModules) = false → IsD prog w oL [] → (lA == sysModules) = false →
      ∀ m', Op prog w A g L E (execs [] (envX "LFUCache.__init__" f881.1.2.2 L 881 (.ref 880) [])) Q m' (newI x dx es' ep' ((lA, oL) :: (y, linkO dy ky (some (.ref y)) (some (.ref y)) 0 tk) :: (dy, dictOf [] 0) :: (ky, oK) :: ex))) :
    Op prog w A g L E (execs (List.drop 1 f881.1.2.1) (envX "LFUCache.__init__" f881.1.2.2 L 881 (.ref 880) [])) Q m (newI x dx es ep ex) := by
  have nxd : x ≠ dx := Nat.ne_of_gt hne
  refine o_cons (o_assign2 (o_linkCall (c := 0) cx ?_ ?_))
  · exact fun Q' k => o_int k
  intro tk y dy ky oK fr l1 l2 lo hK
  have ny : ∀ p ∈ newI x dx es ep ex, p.1 ≠ y := fun p hp => Nat.ne_of_lt (Nat.lt_trans (fr p hp) l1)
  have xy : x < dy := fr _ (.head _)
  have dxy : dx < dy := fr _ (.tail _ (.head _))
  have nex : ∀ p ∈ ((y, rawL dy #[some (.int 0 tk), some (.ref ky)]) :: (dy, dictOf [] 0) :: (ky, oK) :: ex), p.1 ≠ dx := fun p hp => by
    rcases List.mem_cons.mp hp with rfl | hp
    · exact Nat.ne_of_gt (Nat.lt_trans dxy l1)
    · rcases List.mem_cons.mp hp with rfl | hp
      · exact Nat.ne_of_gt dxy
      · rcases List.mem_cons.mp hp with rfl | hp
        · exact Nat.ne_of_gt (Nat.lt_trans dxy (Nat.lt_trans l1 l2))
        · exact (hex p hp).2
  refine to_newI3 (o_asAttr (o_loc h1 (i_set cx (kt_root _) (by omega) at_ nxd nex fun es1 ep1 at1 => o_asName (o_store ?_))))
  have nexy : ∀ p ∈ ((dy, dictOf [] 0) :: (ky, oK) :: ex : FP), p.1 ≠ y := fun p hp => by
    rcases List.mem_cons.mp hp with rfl | hp
    · exact Nat.ne_of_lt l1
    · rcases List.mem_cons.mp hp with rfl | hp
      · exact Nat.ne_of_gt l2
      · exact ny p (.tail _ (.tail _ hp))
  have nxy : x ≠ y := Nat.ne_of_lt (Nat.lt_trans xy l1)
  have ndy : dx ≠ y := Nat.ne_of_lt (Nat.lt_trans dxy l1)
  refine o_cons (o_assign2 (o_loc rfl (o_asAttr (o_loc rfl (o_setSlot (sl := #[some (.int 0 tk), some (.ref ky)]) (sl' := #[some (.int 0 tk), some (.ref ky), none, some (.ref y)]) cx (.tail _ (.tail _ (.head _))) (.tail _ (.tail _ (.tail _ (.head _)))) (lk_sa _) (lk_po _) (lk_kp _) (lk_Tp _) (lk_ip _) (by decide) rfl
    (to_newIraw nxy ndy nexy (o_asAttr (o_loc rfl (o_setSlot (sl := #[some (.int 0 tk), some (.ref ky), none, some (.ref y)]) (sl' := #[some (.int 0 tk), some (.ref ky), some (.ref y), some (.ref y)]) cx (.tail _ (.tail _ (.head _))) (.tail _ (.tail _ (.tail _ (.head _)))) (lk_sa _) (lk_po _) (lk_kn _) (lk_Tn _) (lk_in _) (by decide) rfl
      (to_newIraw nxy ndy nexy ?_))))))))))
  refine o_cons (o_assignAttr (o_newDict cx fun lA oL lt2 lo2 hL => o_loc (by show (if _ then _ else _) = _; rw [if_neg (by decide)]; exact h1) (to_newI ?_)))
  have lk : ky < lA := lt2 _ (.tail _ (.tail _ (.tail _ (.tail _ (.head _)))))
  have nex2 : ∀ p ∈ ((lA, oL) :: (y, linkO dy ky (some (.ref y)) (some (.ref y)) 0 tk) :: (dy, dictOf [] 0) :: (ky, oK) :: ex), p.1 ≠ dx := fun p hp => by
    rcases List.mem_cons.mp hp with rfl | hp
    · exact Nat.ne_of_gt (Nat.lt_trans dxy (Nat.lt_trans l1 (Nat.lt_trans l2 lk)))
    · rcases List.mem_cons.mp hp with rfl | hp
      · exact Nat.ne_of_gt (Nat.lt_trans dxy l1)
      · exact nex p (.tail _ hp)
  refine i_set cx (kt_links _) (by omega) at1 nxd nex2 fun es2 ep2 at2 => ?_
  exact h es2 ep2 y dy ky lA oK oL tk at2 fr l1 l2 lk hK lo hL lo2 _
end
end Mine
end
section
open PySem PySem.W PySem.Calls PyProof.Rows
set_option Elab.async false
set_option maxRecDepth 100000
set_option linter.unusedVariables false
namespace Mine
theorem Att.le {k k' : Nat} {es : List DictEntry} {f : Str → Option Value} (a : Att k es f) (h : k ≤ k') : Att k' es f := ⟨a.noRef, Nat.le_trans a.len h, a.at_⟩
theorem att0 : Att 0 [] fun _ => none := ⟨rfl, Nat.le_refl _, fun _ => rfl⟩
theorem fU {y dA lA : Addr} {tz tr : Tok} {room : Int} :
    updF (updF (updF (updF (updF (fun _ => none) "_Cache__data" (.ref dA)) "_Cache__currsize" (.int 0 tz)) "_Cache__maxsize" (.int room tr)) "_LFUCache__root" (.ref y)) "_LFUCache__links" (.ref lA) = attF none dA y lA 0 tz room tr := by
  funext z
  unfold attF updF
  by_cases a1 : z = "_Cache__currsize"; · subst a1; rfl
  by_cases a2 : z = "_Cache__data"; · subst a2; rfl
  by_cases a3 : z = "_Cache__maxsize"; · subst a3; rfl
  by_cases a4 : z = "_LFUCache__root"; · subst a4; rfl
  by_cases a5 : z = "_LFUCache__links"; · subst a5; rfl
  simp only [a1, a2, a3, a4, a5, if_false, Option.map_none, ite_self]
theorem fS {y dA lA sA : Addr} {tz tr : Tok} {room : Int} :
    updF (updF (updF (updF (updF (updF (updF (fun _ => none) "getsizeof" (.ref 938)) "_Cache__size" (.ref sA)) "_Cache__data" (.ref dA)) "_Cache__currsize" (.int 0 tz)) "_Cache__maxsize" (.int room tr)) "_LFUCache__root" (.ref y)) "_LFUCache__links" (.ref lA) = attF (some sA) dA y lA 0 tz room tr := by
  funext z
  unfold attF updF
  by_cases a1 : z = "_Cache__currsize"; · subst a1; rfl
  by_cases a2 : z = "_Cache__data"; · subst a2; rfl
  by_cases a3 : z = "_Cache__maxsize"; · subst a3; rfl
  by_cases a4 : z = "_LFUCache__root"; · subst a4; rfl
  by_cases a5 : z = "_LFUCache__links"; · subst a5; rfl
  by_cases a6 : z = "getsizeof"; · subst a6; rfl
  by_cases a7 : z = "_Cache__size"; · subst a7; rfl
  simp only [a1, a2, a3, a4, a5, a6, a7, if_false]
section
variable {prog : Program} {w : World} {A : Around} {g base : Heap} {outer : List Env} {L : Addr} {E : Value → Heap → Prop} {m : Loc} {fp ex : FP} {n k : Nat} {env env' : Env} {x dx : Addr} {es : List DictEntry} {ep : Nat} {f : Str → Option Value}

theorem make_spec {room : Int} {tr : Tok} {sized : Bool} {args : List Value} {Q : Value → Loc → FP → Prop} (cx : Cx w base outer g L A env (n + 5)) (h0 : 0 ≤ room) (hfp : (fp.map (·.1)).Nodup) (ha : args = if sized then [.ref 938] else [])
    (h : ∀ st rt, WF st fp → CI prog w st ⟨sized, room, [], []⟩ 0 rt [] → IsD prog w rt.oK [] → Q (.ref st.c) m (objs st ++ fp)) : Op prog w A g L E (call (.ref 929) (.int room tr :: args)) Q m fp := by
  cases sized with
  | false =>
    rw [if_neg (by simp)] at ha
    subst ha
    refine o_make cx (kmk_929 _) (kin_929 _) (kfn_881 _) (kl_881 _) (kc_881 _) _ (fun x s X => binds_K (T := 874) X rfl (kl_874 _) rfl rfl rfl) (fun x => locs rfl) (by decide) fun x dx g' L' E' A' cx' _ lt lt2 => ?_
    refine o_cons (o_exprStmt (o_methodCall _ (o_glob cx' (kn_Cache _) (o_methCls cx' (kg_830 _) (o_clsVal cx' (kT_830 _) (kr_830 _) (kcl_init _) rfl (o_callK cx' (kp_714 _) (o_argsCons (o_loc rfl (o_argsCons (o_loc rfl (o_argsCons (o_loc rfl (o_argsNil (cinitU_spec cx' h0 att0 lt2 lt fun es1 ep1 dA oD tz at1 lA hD loD => ?_))))))))))))))
    have hex : ∀ p ∈ ((dA, oD) :: fp), p.1 ≠ x ∧ p.1 ≠ dx := fun p hp => by
      rcases List.mem_cons.mp hp with rfl | hp
      · exact ⟨Nat.ne_of_gt lA, Nat.ne_of_gt (Nat.lt_trans lt2 lA)⟩
      · exact ⟨Nat.ne_of_lt (Nat.lt_trans (lt p hp) lt2), Nat.ne_of_lt (lt p hp)⟩
    refine linit_tail (Q := fun fl _ fp' => retOf fl = .none ∧ Q (.ref x) m fp') cx' at1 (by decide) lt2 hex rfl fun es2 ep2 y dy ky lkA oK oL tk at2 fr l1 l2 l3 hK loK hL loL m' => ?_
    have dAy : dA < dy := fr _ (.tail _ (.tail _ (.head _)))
    rw [fU] at at2
    have nod : ([x, dx, dA, lkA, y, dy, ky] ++ fp.map (·.1)).Nodup := nodup_join (d := dx) (nodup7 lt2 lA dAy l1 l2 l3) hfp
      (fun z hz => by
        have e1 := lt2; have e2 := lA; have e3 := dAy
        simp only [List.mem_cons, List.not_mem_nil, or_false] at hz
        rcases hz with rfl | rfl | rfl | rfl | rfl | rfl | rfl
        · exact Nat.le_of_lt lt2
        · exact Nat.le_refl _
        · exact Nat.le_of_lt (Nat.lt_trans lt2 lA)
        · exact Nat.le_of_lt (Nat.lt_trans (Nat.lt_trans lt2 lA) (Nat.lt_trans dAy (Nat.lt_trans l1 (Nat.lt_trans l2 l3))))
        · exact Nat.le_of_lt (Nat.lt_trans (Nat.lt_trans lt2 lA) (Nat.lt_trans dAy l1))
        · exact Nat.le_of_lt (Nat.lt_trans (Nat.lt_trans lt2 lA) dAy)
        · exact Nat.le_of_lt (Nat.lt_trans (Nat.lt_trans lt2 lA) (Nat.lt_trans dAy (Nat.lt_trans l1 l2))))
      (fun z hz => by obtain ⟨p, hp, e⟩ := List.mem_map.mp hz; subst e; exact lt p hp)
    have hwS : WF (⟨x, dx, dA, lkA, none, es2, ep2, oD, oL, [⟨y, dy, ky, 0, tk, oK, []⟩], fun _ => y, fun _ => y⟩ : St) fp := nod
    have ciS : CI prog w (⟨x, dx, dA, lkA, none, es2, ep2, oD, oL, [⟨y, dy, ky, 0, tk, oK, []⟩], fun _ => y, fun _ => y⟩ : St) ⟨false, room, [], []⟩ 0 ⟨y, dy, ky, 0, tk, oK, []⟩ [] :=
      ⟨⟨tz, tr, at2.le (by decide)⟩, ⟨.head _, (fun _ q => nomatch q), by simp, ⟨⟨rfl, rfl⟩, trivial⟩, rfl⟩, (fun _ q => nomatch q), rfl, ⟨[], hL, loL, (fun _ q => nomatch q), .nil⟩, ⟨[], hD, loD, .nil⟩, rfl⟩
    refine Op.weaken (o_nil ⟨rfl, h _ _ hwS ciS hK⟩) fun p hp => ?_
    rcases List.mem_append.mp hp with hp | hp
    · simp only [objs, ndObjs, Option.toList, List.flatMap_cons, List.flatMap_nil, List.append_nil, List.nil_append, List.mem_cons, List.not_mem_nil, or_false] at hp ⊢
      rcases hp with h | h | h | h | h | h | h
      · exact .inl h
      · exact .inr (.inl h)
      · exact .inr (.inr (.inr (.inr (.inr (.inr (.inl h))))))
      · exact .inr (.inr (.inl h))
      · exact .inr (.inr (.inr (.inl h)))
      · exact .inr (.inr (.inr (.inr (.inl h))))
      · exact .inr (.inr (.inr (.inr (.inr (.inl h)))))
    · exact .tail _ (.tail _ (.tail _ (.tail _ (.tail _ (.tail _ (.tail _ hp))))))
  | true =>
    rw [if_pos rfl] at ha
    subst ha
    refine o_make cx (kmk_929 _) (kin_929 _) (kfn_881 _) (kl_881 _) (kc_881 _) _ (fun x s X => binds_K (T := 874) X rfl (kl_874 _) rfl rfl rfl) (fun x => locs rfl) (by decide) fun x dx g' L' E' A' cx' _ lt lt2 => ?_
    refine o_cons (o_exprStmt (o_methodCall _ (o_glob cx' (kn_Cache _) (o_methCls cx' (kg_830 _) (o_clsVal cx' (kT_830 _) (kr_830 _) (kcl_init _) rfl (o_callK cx' (kp_714 _) (o_argsCons (o_loc rfl (o_argsCons (o_loc rfl (o_argsCons (o_loc rfl (o_argsNil (cinitS_spec cx' h0 att0 lt2 lt fun es1 ep1 sA oS dA oD tz at1 lS lSA hS loS hD loD => ?_))))))))))))))
    have lA : x < dA := Nat.lt_trans lS lSA
    have hex : ∀ p ∈ ((dA, oD) :: (sA, oS) :: fp), p.1 ≠ x ∧ p.1 ≠ dx := fun p hp => by
      rcases List.mem_cons.mp hp with rfl | hp
      · exact ⟨Nat.ne_of_gt lA, Nat.ne_of_gt (Nat.lt_trans lt2 lA)⟩
      · rcases List.mem_cons.mp hp with rfl | hp
        · exact ⟨Nat.ne_of_gt lS, Nat.ne_of_gt (Nat.lt_trans lt2 lS)⟩
        · exact ⟨Nat.ne_of_lt (Nat.lt_trans (lt p hp) lt2), Nat.ne_of_lt (lt p hp)⟩
    refine linit_tail (Q := fun fl _ fp' => retOf fl = .none ∧ Q (.ref x) m fp') cx' at1 (by decide) lt2 hex rfl fun es2 ep2 y dy ky lkA oK oL tk at2 fr l1 l2 l3 hK loK hL loL m' => ?_
    have dAy : dA < dy := fr _ (.tail _ (.tail _ (.head _)))
    rw [fS] at at2
    have nod : ([x, dx, dA, lkA, sA, y, dy, ky] ++ fp.map (·.1)).Nodup := nodup_join (d := dx) (nodup8 lt2 lS lSA dAy l1 l2 l3) hfp
      (fun z hz => by
        simp only [List.mem_cons, List.not_mem_nil, or_false] at hz
        rcases hz with rfl | rfl | rfl | rfl | rfl | rfl | rfl | rfl
        · exact Nat.le_of_lt lt2
        · exact Nat.le_refl _
        · exact Nat.le_of_lt (Nat.lt_trans lt2 lA)
        · exact Nat.le_of_lt (Nat.lt_trans (Nat.lt_trans lt2 lA) (Nat.lt_trans dAy (Nat.lt_trans l1 (Nat.lt_trans l2 l3))))
        · exact Nat.le_of_lt (Nat.lt_trans lt2 lS)
        · exact Nat.le_of_lt (Nat.lt_trans (Nat.lt_trans lt2 lA) (Nat.lt_trans dAy l1))
        · exact Nat.le_of_lt (Nat.lt_trans (Nat.lt_trans lt2 lA) dAy)
        · exact Nat.le_of_lt (Nat.lt_trans (Nat.lt_trans lt2 lA) (Nat.lt_trans dAy (Nat.lt_trans l1 l2))))
      (fun z hz => by obtain ⟨p, hp, e⟩ := List.mem_map.mp hz; subst e; exact lt p hp)
    have hwS : WF (⟨x, dx, dA, lkA, some (sA, oS), es2, ep2, oD, oL, [⟨y, dy, ky, 0, tk, oK, []⟩], fun _ => y, fun _ => y⟩ : St) fp := nod
    have ciS : CI prog w (⟨x, dx, dA, lkA, some (sA, oS), es2, ep2, oD, oL, [⟨y, dy, ky, 0, tk, oK, []⟩], fun _ => y, fun _ => y⟩ : St) ⟨true, room, [], []⟩ 0 ⟨y, dy, ky, 0, tk, oK, []⟩ [] :=
      ⟨⟨tz, tr, at2.le (by decide)⟩, ⟨.head _, (fun _ q => nomatch q), by simp, ⟨⟨rfl, rfl⟩, trivial⟩, rfl⟩, (fun _ q => nomatch q), rfl, ⟨[], hL, loL, (fun _ q => nomatch q), .nil⟩, ⟨[], hD, loD, .nil⟩, ⟨rfl, [], hS, loS, .nil⟩⟩
    refine Op.weaken (o_nil ⟨rfl, h _ _ hwS ciS hK⟩) fun p hp => ?_
    rcases List.mem_append.mp hp with hp | hp
    · simp only [objs, ndObjs, Option.toList, List.flatMap_cons, List.flatMap_nil, List.append_nil, List.cons_append, List.nil_append, List.mem_cons, List.not_mem_nil, or_false] at hp ⊢
      rcases hp with h | h | h | h | h | h | h | h
      · exact .inl h
      · exact .inr (.inl h)
      · exact .inr (.inr (.inr (.inr (.inr (.inr (.inl h))))))
      · exact .inr (.inr (.inl h))
      · exact .inr (.inr (.inr (.inr (.inr (.inr (.inr (.inl h)))))))
      · exact .inr (.inr (.inr (.inl h)))
      · exact .inr (.inr (.inr (.inr (.inl h))))
      · exact .inr (.inr (.inr (.inr (.inr (.inl h)))))
    · exact .tail _ (.tail _ (.tail _ (.tail _ (.tail _ (.tail _ (.tail _ (.tail _ hp)))))))
end
end Mine
end
section
open PySem PySem.W PySem.Calls PyProof.Rows
set_option Elab.async false
set_option maxRecDepth 100000
set_option linter.unusedVariables false
namespace Mine
section
variable (P : Params)
theorem kl_943 : (K P).lookup 943 = some o943 := by kernel_rfl
theorem kc_943 : codeIn (K P) (.ref 942) "_law_without" = true := by kernel_rfl
end
section
variable {prog : Program} {w : World} {A : Around} {g base : Heap} {outer : List Env} {L : Addr} {E : Value → Heap → Prop} {m : Loc} {fp : FP} {n : Nat} {env : Env} {P : Addr} {oP : Obj} {vs : List Value} {D : List (Int × Int)} {key : Int} {t : Tok}
theorem without_spec {Q : Value → Loc → FP → Prop} (cx : Cx w base outer g L A env (n + 1)) (hP : (P, oP) ∈ fp) (ho : LstOf oP vs) (hlen : vs.length ≤ 1000) (hD : All2 (PairAt fp) vs D)
    (h : ∀ R oR ws fp', Grow fp fp' → (R, oR) ∈ fp' → LstOf oR ws → All2 (PairAt fp) ws (withoutI D key) → Q (.ref R) m fp') :
    Op prog w A g L E (call (.ref 943) [.ref P, .int key t]) Q m fp := by
  refine o_callC cx (kl_943 _) (kc_943 _) (fun s _ => BindsTo.of_eq rfl) ?_ (by decide) fun g' L' E' cells cx' st lt hcells => ?_
  · intro nn x hx
    rcases List.mem_cons.mp hx with e | hx
    · subst e; exact .inl rfl
    · rcases List.mem_cons.mp hx with e | hx
      · subst e; exact .inr ⟨rfl, rfl⟩
      · cases hx
  · refine o_cons (o_ret ?_)
    obtain ⟨oc, hcs, hoc⟩ := CellsAre.one hcells
    subst hcs
    have ltc : ∀ p ∈ ((L' + 1, oc) :: fp), p.1 < L' + 2 := fun p hp => by
      rcases List.mem_cons.mp hp with rfl | hp
      · exact Nat.lt_succ_self _
      · exact Nat.lt_succ_of_lt (Nat.lt_succ_of_lt (lt p hp))
    generalize hfpB : ([(L' + 1, oc)] ++ fp : FP) = fpB at *
    have hcB : (L' + 1, oc) ∈ fpB := hfpB ▸ .head _
    have g0 : Grow fp fpB := hfpB ▸ .push fun p hp => Nat.lt_succ_of_lt (lt p hp)
    refine o_compG (cl := [("key", L' + 1)]) (by rfl) (by decide) rfl (by decide) ?_
    refine o_loc (qn := "_law_without") (sc := f943.1.2.2) (fa := 943) (cd := .ref 942) (cl := cellsFrom (L' + 1) f943.1.2.2.names []) rfl ?_
    refine o_iterList cx'.handled (g0.1 _ hP) ho fun I oI lI src _ => ?_
    obtain ⟨J, hJ⟩ : ∃ J : Addr → Nat → FP → List Value → Prop, ∀ D' i fp1 ys, J D' i fp1 ys ↔ (fp1 = fpB ∧ (∀ p ∈ fpB, p.1 < D') ∧ All2 (PairAt fp) ys (withoutI (D.take i) key) ∧ ys.length ≤ i) := ⟨_, fun _ _ _ _ => Iff.rfl⟩
    refine ⟨I, oI, fpB, vs.length, _, J, fun i u m' => m' "pair" = some u, rfl, fun p hp => hp, fun p hp => Nat.ne_of_lt (lI p hp), hlen, src _ _, ⟨?_, ?_, ?_, ?_⟩, ?_, ?_⟩
    · exact fun D' i fp1 ys j => ((hJ _ _ _ _).mp j).2.2.2
    · intro D' i fp1 ys hj p hp
      obtain ⟨rfl, j1, _⟩ := (hJ _ _ _ _).mp hj
      exact ⟨Nat.ne_of_lt (lI p hp), Nat.ne_of_lt (j1 p hp)⟩
    · intro D' i u fp1 ys gC C hi hu _
      exact tgt_name rfl rfl
    · intro D' i u fp1 ys mC ext gC C oI' oD stg hi hu hj hm hI hD'
      obtain ⟨rfl, j1, j2, j3⟩ := (hJ _ _ _ _).mp hj
      obtain ⟨p, hp, a, t1, t2, rfl, ha⟩ := hD.get hu
      refine o_tests1 (o_isCompare (o_subscript (o_locG rfl hm (o_int fun _ => o_tupItem (vs := [.int p.1 t1, .int p.2 t2]) (k := 0) (List.mem_append_right _ (g0.1 _ ha)) rfl (by decide) (o_cellG (c := L' + 1) (o := oc) rfl (List.mem_append_right _ hcB) hoc (o_neI (o_truthyBool ?_)))))))
      have etake : D.take (i + 1) = D.take i ++ [p] := by rw [List.take_add_one, hp]; rfl
      have ewo : withoutI (D.take (i + 1)) key = withoutI (D.take i) key ++ (if p.1 ≠ key then [p] else []) := by
        rw [etake]; unfold withoutI; rw [List.filter_append, List.filter_cons, List.filter_nil]
        by_cases e : p.1 = key
        · rw [if_neg (by simpa using e), if_neg (by simpa using e)]
        · rw [if_pos (by simpa using e), if_pos e]
      by_cases e : p.1 = key
      · rw [if_neg (by simpa using e)]
        exact ⟨_, fun q hq => hq, (hJ _ _ _ _).mpr ⟨rfl, j1, by rw [ewo, if_neg (by simpa using e), List.append_nil]; exact j2, Nat.le_succ_of_le j3⟩⟩
      · rw [if_pos (by simpa using e)]
        exact o_locG rfl hm ⟨_, fun q hq => hq, (hJ _ _ _ _).mpr ⟨rfl, j1, by rw [ewo, if_pos e]; exact j2.snoc ⟨a, t1, t2, rfl, ha⟩, by simp; omega⟩⟩
    · exact fun D' lD => (hJ _ _ _ _).mpr ⟨rfl, fun p hp => lD p (.tail _ hp), .nil, Nat.le_refl _⟩
    · intro D' fp3 ys oD lD hj hl
      obtain ⟨rfl, j1, j2, j3⟩ := (hJ _ _ _ _).mp hj
      rw [hD.len, List.take_length] at j2
      exact h D' oD ys _ (g0.cons j1) (.head _) hl j2
theorem without_at {v : Value} {Q : Value → Loc → FP → Prop} (cx : Cx w base outer g L A env (n + 1)) (hP : PairsAt fp v D) (hlen : D.length ≤ 1000)
    (h : ∀ v' fp', Grow fp fp' → PairsAt fp' v' (withoutI D key) → Q v' m fp') : Op prog w A g L E (call (.ref 943) [v, .int key t]) Q m fp := by
  obtain ⟨P, oP, vs, rfl, hm, ho, ha⟩ := hP
  exact without_spec cx hm ho (by rw [ha.len]; exact hlen) ha fun R oR ws fp' gr mr lr ar => h _ _ gr ⟨R, oR, ws, rfl, mr, lr, ar.mono fun _ _ x => x.mono gr.1⟩
end
end Mine
end
section
open PySem PySem.W PySem.Calls PyProof.Rows
set_option Elab.async false
set_option maxRecDepth 100000
set_option linter.unusedVariables false
namespace Mine
section
variable (P : Params)
theorem kl_950 : (K P).lookup 950 = some o950 := by kernel_rfl
theorem kc_950 : codeIn (K P) (.ref 949) "_law_value" = true := by kernel_rfl
end
def IntsAt (fp : FP) (v : Value) (ns : List Int) : Prop := ∃ P oP vs, v = .ref P ∧ (P, oP) ∈ fp ∧ LstOf oP vs ∧ IntsAre vs ns
theorem IntsAt.mono {fp fp' : FP} {v : Value} {ns} (h : IntsAt fp v ns) (k : ∀ q ∈ fp, q ∈ fp') : IntsAt fp' v ns := let ⟨P, oP, vs, e, m, l, a⟩ := h; ⟨P, oP, vs, e, k _ m, l, a⟩
theorem atI_none_take {D : List (Int × Int)} {key : Int} (h : ∀ p ∈ D, p.1 ≠ key) : atI D key = none := by
  unfold atI
  rw [List.find?_eq_none.mpr (by simpa using fun a b hp => h (a, b) hp)]; rfl
theorem atI_some_at {D : List (Int × Int)} {key : Int} {i : Nat} {p : Int × Int} (h : ∀ q ∈ D.take i, q.1 ≠ key) (hp : D[i]? = some p) (e : p.1 = key) : atI D key = some p.2 := by
  induction D generalizing i with
  | nil => simp at hp
  | cons x D ih =>
    cases i with
    | zero =>
      simp at hp; subst hp
      unfold atI; rw [List.find?_cons, decide_eq_true e]; rfl
    | succ i =>
      have hx : x.1 ≠ key := h x (by simp)
      have := ih (i := i) (fun q hq => h q (by simp [hq])) (by simpa using hp)
      unfold atI at this ⊢
      rw [List.find?_cons, decide_eq_false hx]; exact this
section
variable {prog : Program} {w : World} {A : Around} {g base : Heap} {outer : List Env} {L : Addr} {E : Value → Heap → Prop} {m : Loc} {fp : FP} {n : Nat} {env : Env} {D : List (Int × Int)} {key : Int} {t : Tok}
theorem value_at {v : Value} {Q : Value → Loc → FP → Prop} (cx : Cx w base outer g L A env (n + 1)) (hP : PairsAt fp v D)
    (h : ∀ v' fp', Grow fp fp' → IntsAt fp' v' (atI D key).toList → Q v' m fp') : Op prog w A g L E (call (.ref 950) [v, .int key t]) Q m fp := by
  obtain ⟨P, oP, vs, rfl, hm, ho, ha⟩ := hP
  refine o_call cx (kl_950 _) (kc_950 _) (fun s _ => BindsTo.of_eq rfl) (locs rfl) (by decide) fun g' L' E' cx' st lt => ?_
  refine o_cons (o_forW rfl rfl rfl (o_loc rfl (o_iterList cx'.handled hm ho fun I oI lI src _ => ?_)))
  obtain ⟨fpW, St', W, w1, w2, w3, _⟩ := src "pair" ⟨0, 0, 0, 0⟩
  refine ⟨I, oI, fp, vs.length, _, fpW, St', fun i m1 fp1 => fp1 = fp ∧ m1 "key" = some (.int key t) ∧ ∀ p ∈ D.take i, p.1 ≠ key, rfl, fun p hp => hp, ?_, W, w1, w2, w3, ⟨rfl, rfl, by simp⟩, ?_, ?_⟩
  · rintro i m1 fp1 ⟨rfl, _⟩ p hp; exact Nat.ne_of_lt (lI p hp)
  · rintro i u m1 fp1 h3 hi hu ⟨rfl, j1, j2⟩ _
    generalize (fpW.map fun b => (b, objAt h3 b)) = ext
    obtain ⟨p, hp, a, t1, t2, rfl, hap⟩ := ha.get hu
    refine o_cons (o_if (o_isCompare (o_subscript (o_loc rfl (o_int fun _ => o_tupItem (vs := [.int p.1 t1, .int p.2 t2]) (k := 0) (List.mem_append_right _ hap) rfl (by decide) (o_loc j1 (o_eqI (o_truthyBool ?_))))))))
    by_cases e : p.1 = key
    · rw [if_pos (by simpa using e)]
      refine o_cons (o_ret (o_list (o_argsCons (o_subscript (o_loc rfl (o_int fun _ => o_tupItem (vs := [.int p.1 t1, .int p.2 t2]) (k := 1) (List.mem_append_right _ hap) rfl (by decide) (o_argsNil ⟨by simp, fun R lR => ⟨(R, lstO [.int p.2 t2]) :: fp1, ?_, ?_⟩⟩)))))))
      · intro q hq
        rcases List.mem_cons.mp hq with rfl | hq
        · exact .head _
        · exact .tail _ (List.mem_append_right _ hq)
      · exact h _ _ (.push fun q hq => lR q (List.mem_append_right _ hq)) ⟨R, _, _, rfl, .head _, ⟨0, rfl⟩, by rw [atI_some_at j2 hp e]; exact .cons _ _ .nil⟩
    · rw [if_neg (by simpa using e)]
      refine o_nil (o_nil ⟨fp1, fun q hq => hq, rfl, j1, fun q hq => ?_⟩)
      rw [List.take_add_one, hp] at hq
      rcases List.mem_append.mp hq with hq | hq
      · exact j2 q hq
      · rw [List.mem_singleton.mp hq]; exact e
  · rintro m' fp' ⟨rfl, j1, j2⟩
    refine o_cons (o_ret (o_list (o_argsNil ⟨by simp, fun R lR => ?_⟩)))
    exact h _ _ (.push lR) ⟨R, _, _, rfl, .head _, ⟨0, rfl⟩, by rw [atI_none_take (by rw [ha.len, List.take_length] at j2; exact j2)]; exact .nil⟩
end
end Mine
end
section
open PySem PySem.W PySem.Calls PyProof.Rows
set_option Elab.async false
set_option maxRecDepth 100000
set_option linter.unusedVariables false
namespace Mine
section
variable (P : Params)
theorem kl_955 : (K P).lookup 955 = some o955 := by kernel_rfl
theorem kc_955 : codeIn (K P) (.ref 954) "_law_room" = true := by kernel_rfl
theorem kn_sum : nsIn (K P) mainGlobals "sum" = some none := by kernel_rfl
theorem kn_size : nsIn (K P) mainGlobals "_law_size" = some (some (.ref 938)) := by kernel_rfl
theorem kp_938' : keepIn (K P) (.ref 938) = true := by kernel_rfl
end
section
variable {prog : Program} {w : World} {A : Around} {g base : Heap} {outer : List Env} {L : Addr} {E : Value → Heap → Prop} {m : Loc} {fp : FP} {n : Nat} {env env' : Env} {D : List (Int × Int)} {key : Int} {t : Tok}
theorem o_callKX {e : PySem.Expr} {rest : List PySem.Expr} {pos : Pos} {f : Value} {first : List Value} {Q : Value → Loc → FP → Prop} (X : (K w.params).In g) (hk : keepIn (K w.params) f = true)
    (h : Op prog w A g L E (spliced (backTo pos (starEach (e :: rest) env'))) (fun vs => Op prog w A g L E (call f (first ++ vs)) Q) m fp)
    (he : starEach (e :: rest) env' = (false, eval e env') :: starEach rest env' := by rfl) (hplain : (backTo pos (starEach rest env')).any (·.1) = false := by rfl) :
    Op prog w A g L E (callWith pos f first (backTo pos (starEach (e :: rest) env')) []) Q m fp :=
  Op.of fun s F N _ k => callWith_K X hk (h.use F N fun _ _ _ _ _ F1 N1 q1 => ⟨X.keeps F1.keep, q1.use F1 N1 k⟩) he hplain
theorem size_leaf {v : Int} {Q : Value → Loc → FP → Prop} (X : (K w.params).In g) (T : ∃ p loose mg mb, TopRead p loose mg mb g) (hdep : A.depth ≤ 600) (h : ∀ t, Q (.int (v % 5 - 1) t) m fp) : Op prog w A g L E (call (.ref 938) [.int v t]) Q m fp :=
  o_leaf X T hdep (kl_938 _) (kc_938 _) (fun s _ => BindsTo.of_eq rfl) (locs rfl) (by decide) fun g' L' =>
    o_cons (o_ret (o_binop (o_binop (o_loc rfl (o_int fun _ => o_mod (by decide) fun _ => o_int fun _ => o_sub h)))))
theorem intsAre_snoc {ys : List Value} {ns : List Int} (h : IntsAre ys ns) (n : Int) (t : Tok) : IntsAre (ys ++ [.int n t]) (ns ++ [n]) := h.append (.cons _ _ .nil)

theorem room_at {v : Value} {sized : Bool} {Q : Value → Loc → FP → Prop} (cx : Cx w base outer g L A env (n + 1)) (hP : PairsAt fp v D) (hlen : D.length ≤ 1000)
    (h : ∀ t fp', Grow fp fp' → Q (.int (roomOf sized D) t) m fp') : Op prog w A g L E (call (.ref 955) [v, .bool sized]) Q m fp := by
  obtain ⟨P, oP, vs, rfl, hm, ho, ha⟩ := hP
  refine o_callC cx (kl_955 _) (kc_955 _) (fun s _ => BindsTo.of_eq rfl) ?_ (by decide) fun g' L' E' cells cx' st lt hcells => ?_
  · intro nn x hx
    rcases List.mem_cons.mp hx with e | hx
    · subst e; exact .inl rfl
    · rcases List.mem_cons.mp hx with e | hx
      · subst e; exact .inr ⟨rfl, rfl⟩
      · cases hx
  · obtain ⟨oc, hcs, hoc⟩ := CellsAre.one hcells
    subst hcs
    generalize hfpB : ([(L' + 1, oc)] ++ fp : FP) = fpB at *
    have hcB : (L' + 1, oc) ∈ fpB := hfpB ▸ .head _
    have g0 : Grow fp fpB := hfpB ▸ .push fun p hp => Nat.lt_succ_of_lt (lt p hp)
    refine o_cons (o_ret (o_nameCall (o_built (qn := "_law_room") (sc := f955.1.2.2) (fa := 955) (cd := .ref 954) (cl := cellsFrom (L' + 1) f955.1.2.2.names []) cx' (kn_sum _) rfl (by decide) (o_callB (o_argsCons ?_)))))
    refine o_compG (cl := [("sized", L' + 1)]) (by rfl) (by decide) rfl (by decide) ?_
    refine o_loc (qn := "_law_room") (sc := f955.1.2.2) (fa := 955) (cd := .ref 954) (cl := cellsFrom (L' + 1) f955.1.2.2.names []) rfl ?_
    refine o_iterList cx'.handled (g0.1 _ hm) ho fun I oI lI src _ => ?_
    obtain ⟨J, hJ⟩ : ∃ J : Addr → Nat → FP → List Value → Prop, ∀ D' i fp1 ys, J D' i fp1 ys ↔ (fp1 = fpB ∧ (∀ p ∈ fpB, p.1 < D') ∧ IntsAre ys ((D.take i).map fun p => szOf sized p.2) ∧ ys.length ≤ i) := ⟨_, fun _ _ _ _ => Iff.rfl⟩
    refine ⟨I, oI, fpB, vs.length, _, J, fun i u m' => m' "pair" = some u, rfl, fun p hp => hp, fun p hp => Nat.ne_of_lt (lI p hp), by rw [ha.len]; exact hlen, src _ _, ⟨?_, ?_, ?_, ?_⟩, ?_, ?_⟩
    · exact fun D' i fp1 ys j => ((hJ _ _ _ _).mp j).2.2.2
    · intro D' i fp1 ys hj p hp
      obtain ⟨rfl, j1, _⟩ := (hJ _ _ _ _).mp hj
      exact ⟨Nat.ne_of_lt (lI p hp), Nat.ne_of_lt (j1 p hp)⟩
    · intro D' i u fp1 ys gC C hi hu _
      exact tgt_name rfl rfl
    · intro D' i u fp1 ys mC ext gC C oI' oD stg hi hu hj hmC hI hD'
      obtain ⟨rfl, j1, j2, j3⟩ := (hJ _ _ _ _).mp hj
      obtain ⟨p, hp, a, t1, t2, rfl, hap⟩ := ha.get hu
      have etake : D.take (i + 1) = D.take i ++ [p] := by rw [List.take_add_one, hp]; rfl
      have XC : (K w.params).In gC := cx'.X.keeps stg
      have TC : ∃ p loose mg mb, TopRead p loose mg mb gC := let ⟨p, loose, mg, mb, T⟩ := cx'.T; ⟨p, loose, mg, mb, T.keeps stg⟩
      refine o_tests0 (by
        rw [if_pos rfl]
        refine o_ifExp (o_isTrue (o_cellG (c := L' + 1) (o := oc) rfl (List.mem_append_right _ hcB) hoc (o_truthyBool ?_)))
        cases sized with
        | true =>
          rw [if_pos rfl]
          refine o_nameCall (o_globG XC TC (kn_size _) (o_callKX XC (kp_938' _) (o_argsCons (o_subscript (o_locG rfl hmC (o_int fun _ => o_tupItem (vs := [.int p.1 t1, .int p.2 t2]) (k := 1) (List.mem_append_right _ (g0.1 _ hap)) rfl (by decide) (o_argsNil ?_)))))))
          refine size_leaf XC TC (by have := cx'.depth; omega) fun t' => ?_
          exact ⟨_, fun q hq => hq, (hJ _ _ _ _).mpr ⟨rfl, j1, by rw [etake, List.map_append]; exact intsAre_snoc j2 _ _, by simp; omega⟩⟩
        | false =>
          rw [if_neg (by simp)]
          exact o_int fun _ => ⟨_, fun q hq => hq, (hJ _ _ _ _).mpr ⟨rfl, j1, by rw [etake, List.map_append]; exact intsAre_snoc j2 _ _, by simp; omega⟩⟩)
    · exact fun D' lD => (hJ _ _ _ _).mpr ⟨rfl, fun p hp => lD p (.tail _ hp), .nil, Nat.le_refl _⟩
    · intro D' fp3 ys oD lD hj hl
      obtain ⟨rfl, j1, j2, j3⟩ := (hJ _ _ _ _).mp hj
      refine o_argsNil (o_sum cx'.handled (.head _) hl (by rw [ha.len, List.take_length] at j2; exact j2) fun t => ?_)
      exact h _ _ (g0.cons j1)
end
end Mine
end
section
open PySem PySem.W PySem.Calls PyProof.Rows
set_option Elab.async false
set_option maxRecDepth 100000
set_option linter.unusedVariables false
namespace Mine
section
variable (P : Params)
theorem kl_967 : (K P).lookup 967 = some o967 := by kernel_rfl
theorem kc_967 : codeIn (K P) (.ref 966) "_law_least" = true := by kernel_rfl
end
def leastF (b r : Use) : Use := if r.count < b.count ∨ (r.count = b.count ∧ r.since < b.since) then r else b
def leastU : List Use → Int
  | [] => 0
  | u :: U => ((u :: U).foldl leastF u).name
section
variable {prog : Program} {w : World} {A : Around} {g base : Heap} {outer : List Env} {L : Addr} {E : Value → Heap → Prop} {m : Loc} {fp : FP} {n : Nat} {env env' : Env} {u0 : Use} {U : List Use} {t : Tok}
theorem least_at {v : Value} {Q : Value → Loc → FP → Prop} (cx : Cx w base outer g L A env (n + 1)) (hU : UsesAt fp v (u0 :: U)) (h : ∀ t, Q (.int (leastU (u0 :: U)) t) m fp) :
    Op prog w A g L E (call (.ref 967) [v]) Q m fp := by
  obtain ⟨P, oP, vs, rfl, hm, ho, ha⟩ := hU
  refine o_call cx (kl_967 _) (kc_967 _) (fun s _ => BindsTo.of_eq rfl) (locs rfl) (by decide) fun g' L' E' cx' st lt => ?_
  cases ha with
  | cons h0 hr =>
    rename_i v0 vr
    have ha : All2 (UseAt fp) (v0 :: vr) (u0 :: U) := .cons h0 hr
    refine o_cons (o_assign (o_subscript (o_loc rfl (o_int fun _ => o_lstItem (k := 0) hm ho rfl (by decide) (o_store ?_)))))
    refine o_cons (o_forW rfl rfl rfl (o_loc rfl (o_iterList cx'.handled hm ho fun I oI lI src _ => ?_)))
    obtain ⟨fpW, St', W, w1, w2, w3, _⟩ := src "row" ⟨0, 0, 0, 0⟩
    obtain ⟨J, hJ⟩ : ∃ J : Nat → Loc → FP → Prop, ∀ i m1 fp1, J i m1 fp1 ↔ (fp1 = fp ∧ ∃ vL, m1 "least" = some vL ∧ UseAt fp vL (((u0 :: U).take i).foldl leastF u0)) := ⟨_, fun _ _ _ => Iff.rfl⟩
    refine ⟨I, oI, fp, (v0 :: vr).length, _, fpW, St', J, rfl, fun p hp => hp, ?_, W, w1, w2, w3, (hJ _ _ _).mpr ⟨rfl, _, rfl, h0⟩, ?_, ?_⟩
    · intro i m1 fp1 hj p hp
      obtain ⟨rfl, _⟩ := (hJ _ _ _).mp hj
      exact Nat.ne_of_lt (lI p hp)
    · intro i u m1 fp1 h3 hi hu hj _
      generalize (fpW.map fun b => (b, objAt h3 b)) = ext
      obtain ⟨rfl, vL, j1, j2⟩ := (hJ _ _ _).mp hj
      obtain ⟨r, hp, a, t1, t2, t3, rfl, hap⟩ := ha.get hu
      obtain ⟨aL, s1, s2, s3, rfl, hL⟩ := id j2
      have etake : ((u0 :: U).take (i + 1)).foldl leastF u0 = leastF (((u0 :: U).take i).foldl leastF u0) r := by
        rw [List.take_add_one, hp, List.foldl_append]; rfl
      generalize ((u0 :: U).take i).foldl leastF u0 = b at *
      have R1 : ∀ {fq : FP}, (∀ p ∈ ext ++ fp1, p ∈ fq) → (a, tupO [.int r.name t1, .int r.count t2, .int r.since t3]) ∈ fq := fun hq => hq _ (List.mem_append_right _ hap)
      have R2 : ∀ {fq : FP}, (∀ p ∈ ext ++ fp1, p ∈ fq) → (aL, tupO [.int b.name s1, .int b.count s2, .int b.since s3]) ∈ fq := fun hq => hq _ (List.mem_append_right _ hL)
      refine o_cons (o_if (o_isCompare (o_tuple (o_argsCons (o_subscript (o_loc rfl (o_int fun _ => o_tupItem (k := 1) (R1 fun p h => h) rfl (by decide) (o_argsCons (o_subscript (o_loc rfl (o_int fun _ => o_tupItem (k := 2) (R1 fun p h => h) rfl (by decide) (o_argsNil ⟨by simp, fun T1 lT1 => ?_⟩))))))))))))
      refine o_tuple (o_argsCons (o_subscript (o_loc j1 (o_int fun _ => o_tupItem (k := 1) (R2 fun p h => .tail _ h) rfl (by decide) (o_argsCons (o_subscript (o_loc j1 (o_int fun _ => o_tupItem (k := 2) (R2 fun p h => .tail _ h) rfl (by decide) (o_argsNil ⟨by simp, fun T2 lT2 => ?_⟩)))))))))
      refine o_ltTup cx' (.tail _ (.head _)) (.head _) (o_truthyBool ?_)
      by_cases e : r.count < b.count ∨ (r.count = b.count ∧ r.since < b.since)
      · rw [if_pos (by simpa using e)]
        refine o_cons (o_assign (o_loc rfl (o_store (o_nil (o_nil ⟨fp1, fun q hq => .tail _ (.tail _ hq), (hJ _ _ _).mpr ⟨rfl, _, rfl, ?_⟩⟩)))))
        rw [etake]; unfold leastF; rw [if_pos e]; exact ⟨a, t1, t2, t3, rfl, hap⟩
      · rw [if_neg (by simpa using e)]
        refine o_nil (o_nil ⟨fp1, fun q hq => .tail _ (.tail _ hq), (hJ _ _ _).mpr ⟨rfl, _, j1, ?_⟩⟩)
        rw [etake]; unfold leastF; rw [if_neg e]; exact ⟨aL, s1, s2, s3, rfl, hL⟩
    · intro m' fp' hj
      obtain ⟨rfl, vL, j1, j2⟩ := (hJ _ _ _).mp hj
      rw [ha.len, List.take_length] at j2
      obtain ⟨aL, s1, s2, s3, rfl, hL⟩ := j2
      exact o_cons (o_ret (o_subscript (o_loc j1 (o_int fun _ => o_tupItem (k := 0) hL rfl (by decide) (h _)))))
end
end Mine
end
section
open PySem PySem.W PySem.Calls PyProof.Rows
set_option Elab.async false
set_option maxRecDepth 100000
set_option linter.unusedVariables false
namespace Mine
section
variable {prog : Program} {w : World} {A : Around} {g base : Heap} {outer : List Env} {L : Addr} {E : Value → Heap → Prop} {m : Loc} {fp : FP} {n : Nat} {env : Env}

theorem o_assignComp {y : Str} {py spos : Pos} {elt target iter : PySem.Expr} {pos : Pos} {ifs : List PySem.Expr} {scope : Scope} {cl : List (Str × Addr)} {Q : Flow → Loc → FP → Prop} (hLe : env.locals = L) (hsw : swapsWith (.ListComp elt [⟨target, iter, ifs, 0⟩] scope pos) (some (.Name y py)) spos.line env = Pure.pure true) (hy : env.kindOf y = some .local) (hp : (env.scope.kind == .class || (env.scope.kind == .module && env.locals != env.globals)) = false)
    (hclos : closureFor scope env = Pure.pure cl) (hcell : ∀ y ∈ scope.names, y.2 ≠ .cell) (hkind : scope.kind = .function) (hnames : ∀ y ∈ scope.names, y.2 = .local → scope.names.lookup y.1 = some .local)
    (h : Op prog w A g L E (eval iter env) (fun v m1 fp1 => Op prog w A g L E (pyIter v) (fun it m2 fp2 => ∃ I oI fpB n P J B, it = .ref I ∧ (∀ p ∈ ((I, oI) :: fpB), p ∈ fp2) ∧ (∀ p ∈ fpB, p.1 ≠ I) ∧ n ≤ 1000 ∧ Src prog w A target I n P ((I, oI) :: fpB) ∧ CompOkG prog w A g env scope cl target ifs elt I n P J B ∧
      (∀ D, (∀ p ∈ ((I, oI) :: fpB), p.1 < D) → J D 0 fpB []) ∧
      (∀ D fp3 ys oD, (∀ p ∈ ((I, oI) :: fpB), p.1 < D) → J D n fp3 ys → LstOf oD ys → Q .next (fun z => if z = y then some (.ref D) else m2 z) ((D, oD) :: fp3))) m1 fp1) m fp)
    (hs : ∀ x, foldedSetIterable iter env x = Pure.pure x := by intro _; rfl) :
    Op prog w A g L E (exec (.Assign [.Name y py] (.ListComp elt [⟨target, iter, ifs, 0⟩] scope pos) spos) env) Q m fp :=
  Op.of fun s F N Q' kk => by
    subst hLe
    rw [exec_Assign_Name_used _ _ _ _ hsw]
    refine wpAny_bind (wpAny_standAt (wpAny_bind ?_))
    show wpAny _ A (do let _ ← comprehension (.ListComp elt [⟨target, iter, ifs, 0⟩] scope pos) scope env _ (newList []) false (eval iter env) (some (assign (.Name y py) env))) _ _ s
    refine wpAny_bind (wpAny_mono (comp_core (use := some (assign (.Name y py) env)) (Q' := fun _ s' => Q' .next s') (R := fun D m1 fp1 => Q .next (fun z => if z = y then some (.ref D) else m1 z) fp1) F N hclos hcell hkind hnames h (fun C D s' mC m1 fpz ⟨h1, tk, e⟩ hns F1 N1 hgC hCL hoff r => ?_) hs) (fun _ s' hq => wpAny_pure (wpAny_pure hq)) fun _ _ e => e)
    subst e
    show wpAny _ A (assign (.Name y py) env (.ref D)) _ _ _
    have nL : ∀ b o, g.get? b = some o → b ≠ env.locals := fun b o e q => by rw [q] at e; exact Nat.lt_irrefl _ (Nat.lt_of_lt_of_le (Heap.lt_size e) F1.above)
    refine wpAny_assign_Name (wpAny_storeName_local (s := { s with heap := h1, toks := tk }) (m := m1) hy F1.ns (fun h₂ hn₂ hs₂ => ?_) hp)
    refine ⟨mC, hns.sameBut hs₂ hCL, fun h'' hs'' => ?_⟩
    exact kk _ h'' (tk + 1) _ fpz ⟨hn₂.sameBut hs'' (Ne.symm hCL), fun b o e => hs''.extBut b o (fun q => by rw [q, hgC] at e; cases e) (hs₂.extBut b o (nL b o e) (F1.keep b o e)), F1.above⟩ (fun p hp => ⟨hs''.extBut _ _ (hoff p hp) (hs₂.extBut _ _ (N1 p hp).2.1 (N1 p hp).1), (N1 p hp).2⟩) r
end
end Mine
end
section
open PySem PySem.W PySem.Calls PyProof.Rows
set_option Elab.async false
set_option maxRecDepth 100000
set_option linter.unusedVariables false
namespace Mine
section
variable (P : Params)
theorem kl_960 : (K P).lookup 960 = some o960 := by kernel_rfl
theorem kc_960 : codeIn (K P) (.ref 959) "_law_counted" = true := by kernel_rfl
end
theorem Grow.add {a b : FP} {R : Addr} {o : Obj} (g : Grow a b) (h : ∀ p ∈ a, p.1 < R) : Grow a ((R, o) :: b) := ⟨fun p hp => .tail _ (g.1 p hp), fun p hp => by
  rcases List.mem_cons.mp hp with rfl | hp
  · exact .inr h
  · exact g.2 p hp⟩
theorem rdAll_ints {fp : FP} {vs : List Value} {ns : List Int} (h : IntsAre vs ns) : RdAll fp vs (ns.map PyData.int) := by
  induction h with
  | nil => exact .nil
  | cons _ _ _ ih => exact .cons .int ih
theorem shaped_nil : SeqAt.shaped (.list []) = true := by rfl
theorem eqv_ints_nil (ns : List Int) : PyData.eqv (.list (ns.map PyData.int)) (.list []) = ns.isEmpty := by
  cases ns <;> simp [PyData.eqv, PyData.eqvAll]
theorem TgtOk.mono {prog : Program} {w : World} {A : Around} {gC : Heap} {target : PySem.Expr} {cenv : Env} {u : Value} {fp1 : FP} {B B' : Loc → Prop} (h : TgtOk prog w A gC target cenv u fp1 B) (k : ∀ m, B m → B' m) : TgtOk prog w A gC target cenv u fp1 B' :=
  fun s m Q E F N hq => h s m Q E F N fun h' tk m' F' b kk => hq h' tk m' F' (k _ b) kk
def countOf (U : List Use) (key : Int) : Int := match ((U.filter fun u => decide (u.name = key)).map (·.count)) with
  | c :: _ => c + 1
  | [] => 1
def outU (U : List Use) (key : Int) : List Use := U.filter fun u => decide (u.name ≠ key)
def countedU (U : List Use) (key at_ : Int) : List Use := outU U key ++ [⟨key, countOf U key, at_⟩]
theorem filter_take_succ {α : Type} (p : α → Bool) {l : List α} {i : Nat} {x : α} (h : l[i]? = some x) : (l.take (i + 1)).filter p = (l.take i).filter p ++ (if p x then [x] else []) := by
  rw [List.take_add_one, h, List.filter_append]
  cases hp : p x <;> simp [hp]
section
variable {prog : Program} {w : World} {A : Around} {g base : Heap} {outer : List Env} {L : Addr} {E : Value → Heap → Prop} {m : Loc} {fp : FP} {n : Nat} {env env' : Env} {U : List Use} {key at_ : Int} {t ta : Tok}
def Heads (x y z : Str) (U : List Use) (i : Nat) (m' : Loc) : Prop := ∃ us t1 t2 t3, U[i]? = some us ∧ m' x = some (.int us.name t1) ∧ m' y = some (.int us.count t2) ∧ m' z = some (.int us.since t3)

theorem counted_at {v : Value} {Q : Value → Loc → FP → Prop} (cx : Cx w base outer g L A env (n + 1)) (hU : UsesAt fp v U) (hlen : U.length ≤ 900)
    (h : ∀ v' fp', Grow fp fp' → UsesAt fp' v' (countedU U key at_) → Q v' m fp') : Op prog w A g L E (call (.ref 960) [v, .int key t, .int at_ ta]) Q m fp := by
  obtain ⟨P, oP, vs, rfl, hm, ho, ha⟩ := hU
  refine o_callC cx (kl_960 _) (kc_960 _) (fun s _ => BindsTo.of_eq rfl) ?_ (by decide) fun g' L' E' cells cx' st lt hcells => ?_
  · intro nn x hx
    rcases List.mem_cons.mp hx with e | hx
    · subst e; exact .inl rfl
    · rcases List.mem_cons.mp hx with e | hx
      · subst e; exact .inr ⟨rfl, rfl⟩
      · rcases List.mem_cons.mp hx with e | hx
        · subst e; exact .inl rfl
        · cases hx
  · obtain ⟨oc, hcs, hoc⟩ := CellsAre.one hcells
    subst hcs
    have hvl : vs.length = U.length := ha.len
    have idx : ∀ {i : Nat} {u : Value}, vs[i]? = some u → i < vs.length := fun {i u} hu => by
      cases q : decide (i < vs.length) with
      | true => exact of_decide_eq_true q
      | false => rw [List.getElem?_eq_none (by have := of_decide_eq_false q; omega)] at hu; cases hu
    have ltc : ∀ p ∈ ((L' + 1, oc) :: fp), p.1 < L' + 2 := fun p hp => by
      rcases List.mem_cons.mp hp with rfl | hp
      · exact Nat.lt_succ_self _
      · exact Nat.lt_succ_of_lt (Nat.lt_succ_of_lt (lt p hp))
    generalize hfpB : ((L' + 1, oc) :: fp : FP) = fpB at *
    have g0 : Grow fp fpB := hfpB ▸ .push fun p hp => Nat.lt_succ_of_lt (lt p hp)
    have hcB : (L' + 1, oc) ∈ fpB := hfpB ▸ .head _
    have e1 : ([(L' + 1, oc)] ++ fp : FP) = fpB := hfpB
    rw [e1]
    have haB : All2 (UseAt fpB) vs U := ha.mono fun _ _ x => x.mono g0.1
    -- row
    refine o_cons ?_
    refine o_assignComp (cl := [("key", L' + 1)]) rfl (by rfl) rfl rfl (by rfl) (by decide) rfl (by decide) ?_
    refine o_loc (qn := "_law_counted") (sc := f960.1.2.2) (fa := 960) (cd := .ref 959) (cl := cellsFrom (L' + 1) f960.1.2.2.names []) rfl ?_
    refine o_iterList cx'.handled (g0.1 _ hm) ho fun I oI lI _ src => ?_
    obtain ⟨J, hJ⟩ : ∃ J : Addr → Nat → FP → List Value → Prop, ∀ D i fp1 ys, J D i fp1 ys ↔ (fp1 = fpB ∧ (∀ p ∈ fpB, p.1 < D) ∧ IntsAre ys (((U.take i).filter fun u => decide (u.name = key)).map (·.count)) ∧ ys.length ≤ i) := ⟨_, fun _ _ _ _ => Iff.rfl⟩
    refine ⟨I, oI, fpB, vs.length, _, J, fun i _ m' => Heads "name" "count" "since" U i m', rfl, fun p hp => hp, fun p hp => Nat.ne_of_lt (lI p hp), by omega, src _ _ _, ⟨?_, ?_, ?_, ?_⟩, ?_, ?_⟩
    · exact fun D i fp1 ys j => ((hJ _ _ _ _).mp j).2.2.2
    · intro D i fp1 ys hj p hp
      obtain ⟨rfl, j1, _⟩ := (hJ _ _ _ _).mp hj
      exact ⟨Nat.ne_of_lt (lI p hp), Nat.ne_of_lt (j1 p hp)⟩
    · intro D i u fp1 ys gC C hi hu hj
      obtain ⟨rfl, _⟩ := (hJ _ _ _ _).mp hj
      obtain ⟨us, hp, a, t1, t2, t3, rfl, hap⟩ := haB.get hu
      exact (tgt_tup3 cx'.handled hap rfl rfl rfl rfl (by decide) (by decide) (by decide)).mono fun m' ⟨x1, x2, x3⟩ => ⟨us, t1, t2, t3, hp, x1, x2, x3⟩
    · rintro D i u fp1 ys mC ext gC C oI' oD stg hi hu hj ⟨us, t1, t2, t3, hp, x1, x2, x3⟩ hI hD
      obtain ⟨rfl, j1, j2, j3⟩ := (hJ _ _ _ _).mp hj
      refine o_tests1 (o_isCompare (o_locG rfl x1 (o_cellG (c := L' + 1) (o := oc) rfl (List.mem_append_right _ hcB) hoc (o_eqI (o_truthyBool ?_)))))
      by_cases e : us.name = key
      · rw [if_pos (by simpa using e)]
        exact o_locG rfl x2 ⟨_, fun q hq => hq, (hJ _ _ _ _).mpr ⟨rfl, j1, by rw [filter_take_succ _ hp, if_pos (by simpa using e), List.map_append]; exact intsAre_snoc j2 _ _, by simp; omega⟩⟩
      · rw [if_neg (by simpa using e)]
        exact ⟨_, fun q hq => hq, (hJ _ _ _ _).mpr ⟨rfl, j1, by rw [filter_take_succ _ hp, if_neg (by simpa using e), List.append_nil]; exact j2, Nat.le_succ_of_le j3⟩⟩
    · exact fun D lD => (hJ _ _ _ _).mpr ⟨rfl, fun p hp => lD p (.tail _ hp), .nil, Nat.le_refl _⟩
    intro D1 fp3 ys oD1 lD1 hj hl1
    obtain ⟨rfl, j1, j2, j3⟩ := (hJ _ _ _ _).mp hj
    clear hj hJ J
    rw [hvl, List.take_length] at j2
    -- count
    have fin : ∀ (tc : Tok) (fpX : FP) (mX : Loc), Grow fp fpX → (∀ p ∈ fp3, p ∈ fpX) → mX "uses" = some (.ref P) → mX "at" = some (.int at_ ta) → mX "count" = some (.int (countOf U key) tc) →
        Op prog w (A.deeper (envOfC "_law_counted" f960.1.2.2 L' 960 (.ref 959))) g' L' E' (execs [nth f960.1.2.1 2] (envOfC "_law_counted" f960.1.2.2 L' 960 (.ref 959))) (fun fl _ fp' => Q (retOf fl) m fp') mX fpX := by
      intro tc fpX mX gX sX hu1 hu2 hu3
      refine o_cons (o_ret (o_binop ?_))
      refine o_compG (cl := [("key", L' + 1)]) (by rfl) (by decide) rfl (by decide) ?_
      refine o_loc (qn := "_law_counted") (sc := f960.1.2.2) (fa := 960) (cd := .ref 959) (cl := cellsFrom (L' + 1) f960.1.2.2.names []) hu1 ?_
      refine o_iterList cx'.handled (gX.1 _ hm) ho fun I oI lI _ src => ?_
      have haX : All2 (UseAt fpX) vs U := ha.mono fun _ _ x => x.mono gX.1
      obtain ⟨J, hJ⟩ : ∃ J : Addr → Nat → FP → List Value → Prop, ∀ D i fp1 ys, J D i fp1 ys ↔ (Grow fpX fp1 ∧ (∀ p ∈ fp1, p.1 ≠ I ∧ p.1 ≠ D) ∧ All2 (UseAt fp1) ys ((U.take i).filter fun u => decide (u.name ≠ key)) ∧ ys.length ≤ i) := ⟨_, fun _ _ _ _ => Iff.rfl⟩
      refine ⟨I, oI, fpX, vs.length, _, J, fun i _ m' => Heads "name" "old" "since" U i m', rfl, fun p hp => hp, fun p hp => Nat.ne_of_lt (lI p hp), by omega, src _ _ _, ⟨?_, ?_, ?_, ?_⟩, ?_, ?_⟩
      · exact fun D i fp1 ys j => ((hJ _ _ _ _).mp j).2.2.2
      · exact fun D i fp1 ys j => ((hJ _ _ _ _).mp j).2.1
      · intro D i u fp1 ys gC C hi hu hj
        obtain ⟨gr, _⟩ := (hJ _ _ _ _).mp hj
        obtain ⟨us, hp, a, t1, t2, t3, rfl, hap⟩ := haX.get hu
        exact (tgt_tup3 cx'.handled (gr.1 _ hap) rfl rfl rfl rfl (by decide) (by decide) (by decide)).mono fun m' ⟨x1, x2, x3⟩ => ⟨us, t1, t2, t3, hp, x1, x2, x3⟩
      · rintro D i u fp1 ys mC ext gC C oI' oD stg hi hu hj ⟨us, t1, t2, t3, hp, x1, x2, x3⟩ hI hD
        obtain ⟨gr, j1, j2, j3⟩ := (hJ _ _ _ _).mp hj
        refine o_tests1 (o_isCompare (o_locG rfl x1 (o_cellG (c := L' + 1) (o := oc) rfl (List.mem_append_right _ (gr.1 _ (sX _ hcB))) hoc (o_neI (o_truthyBool ?_)))))
        by_cases e : us.name = key
        · rw [if_neg (by simpa using e)]
          exact ⟨_, fun q hq => hq, (hJ _ _ _ _).mpr ⟨gr, j1, by rw [filter_take_succ _ hp, if_neg (by simpa using e), List.append_nil]; exact j2, Nat.le_succ_of_le j3⟩⟩
        · rw [if_pos (by simpa using e)]
          refine o_tuple (o_argsCons (o_locG rfl x1 (o_argsCons (o_locG rfl x2 (o_argsCons (o_locG rfl x3 (o_argsNil ⟨by simp, fun T lT => ?_⟩)))))))
          refine ⟨(T, tupO [.int us.name t1, .int us.count t2, .int us.since t3]) :: fp1, fun q hq => ?_, (hJ _ _ _ _).mpr ⟨gr.cons fun p hp => lT p (List.mem_append_right _ hp), fun p hp' => ?_, ?_, by simp; omega⟩⟩
          · rcases List.mem_append.mp hq with hq | hq
            · exact .tail _ (List.mem_append_left _ hq)
            · rcases List.mem_cons.mp hq with rfl | hq
              · exact .head _
              · exact .tail _ (List.mem_append_right _ hq)
          · rcases List.mem_cons.mp hp' with rfl | hp'
            · exact ⟨Nat.ne_of_gt (lT _ (List.mem_append_left _ hI)), Nat.ne_of_gt (lT _ (List.mem_append_left _ hD))⟩
            · exact j1 p hp'
          · rw [filter_take_succ _ hp, if_pos (by simpa using e)]
            exact (j2.mono fun _ _ x => x.mono fun q hq => .tail _ hq).snoc ⟨T, t1, t2, t3, rfl, .head _⟩
      · exact fun D lD => (hJ _ _ _ _).mpr ⟨.refl, fun p hp => ⟨Nat.ne_of_lt (lI p hp), Nat.ne_of_lt (lD p (.tail _ hp))⟩, .nil, Nat.le_refl _⟩
      intro D fpY ys oD lD hj hl
      obtain ⟨gr, j1, j2, j3⟩ := (hJ _ _ _ _).mp hj
      clear hj hJ J
      rw [hvl, List.take_length] at j2
      have gY : Grow fp ((D, oD) :: fpY) := gX.trans (gr.add fun p hp => lD p (.tail _ hp))
      refine o_list (o_argsCons (o_tuple (o_argsCons (o_cell (cl := cellsFrom (L' + 1) f960.1.2.2.names []) rfl (.tail _ (gr.1 _ (sX _ hcB))) hoc (o_argsCons (o_loc (qn := "_law_counted") (sc := f960.1.2.2) (fa := 960) (cd := .ref 959) (cl := cellsFrom (L' + 1) f960.1.2.2.names []) hu3 (o_argsCons (o_loc (qn := "_law_counted") (sc := f960.1.2.2) (fa := 960) (cd := .ref 959) (cl := cellsFrom (L' + 1) f960.1.2.2.names []) hu2 (o_argsNil ⟨by simp, fun T lT => o_argsNil ⟨by simp, fun R lR => ?_⟩⟩)))))))))
      refine o_listAdd (.tail _ (.tail _ (.head _))) hl (.head _) ⟨0, rfl⟩ (by simp; omega) fun R2 oR2 lR2 hR2 => ?_
      refine h _ _ (((gY.cons lT).cons lR).cons lR2) ⟨R2, oR2, _, rfl, .head _, hR2, ?_⟩
      exact (j2.mono fun _ _ x => x.mono fun q hq => .tail _ (.tail _ (.tail _ (.tail _ hq)))).snoc ⟨T, _, _, _, rfl, .tail _ (.tail _ (.head _))⟩
    have gD1 : Grow fp ((D1, oD1) :: fp3) := g0.trans (.push fun p hp => lD1 p (.tail _ hp))
    refine o_cons (o_assign (o_ifExp (o_isCompare (o_loc (qn := "_law_counted") (sc := f960.1.2.2) (fa := 960) (cd := .ref 959) (cl := cellsFrom (L' + 1) f960.1.2.2.names []) rfl (o_list (o_argsNil ⟨by simp, fun R lR => ?_⟩))))))
    refine o_neD cx' (Rd.list (.tail _ (.head _)) hl1 (rdAll_ints j2)) (Rd.list (.head _) ⟨0, rfl⟩ .nil) (shaped_ints _) shaped_nil (o_truthyBool ?_)
    rw [eqv_ints_nil]
    have gR := gD1.cons (o := lstO []) lR
    cases hq : ((U.filter fun u => decide (u.name = key)).map (·.count)) with
    | nil =>
      rw [if_neg (by simp)]
      refine o_int fun tc => o_store (qn := "_law_counted") (sc := f960.1.2.2) (fa := 960) (cd := .ref 959) (cl := cellsFrom (L' + 1) f960.1.2.2.names []) ?_
      exact fin tc _ _ gR (fun p hp => .tail _ (.tail _ hp)) rfl rfl (by unfold countOf; rw [hq]; rfl)
    | cons c cs =>
      rw [if_pos (by simp)]
      rw [hq] at j2
      cases j2 with
      | cons _ tk jr =>
        refine o_binop (o_subscript (o_loc (qn := "_law_counted") (sc := f960.1.2.2) (fa := 960) (cd := .ref 959) (cl := cellsFrom (L' + 1) f960.1.2.2.names []) rfl (o_int fun _ => o_lstItem (k := 0) (.tail _ (.head _)) hl1 rfl (by decide) (o_int fun _ => o_add fun tc => o_store (qn := "_law_counted") (sc := f960.1.2.2) (fa := 960) (cd := .ref 959) (cl := cellsFrom (L' + 1) f960.1.2.2.names []) ?_))))
        exact fin tc _ _ gR (fun p hp => .tail _ (.tail _ hp)) rfl rfl (by unfold countOf; rw [hq]; rfl)
end
end Mine
end
section
open PySem PySem.W PySem.Calls PyProof.Rows
set_option Elab.async false
set_option maxRecDepth 100000
set_option linter.unusedVariables false
namespace Mine
/-- at this address only cells stand -/
def CellOnly (c : Addr) (fp : FP) : Prop := ∀ p ∈ fp, p.1 = c → ∃ x, p.2.data = .cell x
theorem CellOnly.grow {c : Addr} {fp fp' : FP} {o : Obj} (h : CellOnly c fp) (hm : (c, o) ∈ fp) (g : Grow fp fp') : CellOnly c fp' := fun p hp e => by
  rcases g.2 p hp with q | q
  · exact h p q e
  · have := q _ hm; rw [e] at this; exact absurd this (Nat.lt_irrefl _)
theorem CellOnly.put {c : Addr} {fp : FP} {o : Obj} {x : Option Value} (hd : o.data = .cell x) : CellOnly c (put c o fp) := fun p hp e => by
  rcases mem_put hp with rfl | ⟨_, q⟩
  · exact ⟨x, hd⟩
  · exact absurd e q
theorem CellOnly.notSeq {c a : Addr} {fp : FP} {o : Obj} {vs : Array Value} {n : Nat} (h : CellOnly c fp) (hm : (a, o) ∈ fp) (hd : o.data = .seq vs n) : a ≠ c := fun e => by
  obtain ⟨x, hx⟩ := h _ hm e
  rw [hd] at hx; cases hx
theorem CellOnly.lst {c a : Addr} {fp : FP} {o : Obj} {vs : List Value} (h : CellOnly c fp) (hm : (a, o) ∈ fp) (hl : LstOf o vs) : a ≠ c := by
  obtain ⟨n, rfl⟩ := hl
  exact h.notSeq hm rfl
theorem PairAt.put {c : Addr} {fp : FP} {o : Obj} {v : Value} {p : Int × Int} (h : PairAt fp v p) (k : CellOnly c fp) : PairAt (put c o fp) v p := let ⟨a, t1, t2, e, m⟩ := h; ⟨a, t1, t2, e, put_ne m (k.notSeq m rfl)⟩
theorem UseAt.put {c : Addr} {fp : FP} {o : Obj} {v : Value} {u : Use} (h : UseAt fp v u) (k : CellOnly c fp) : UseAt (put c o fp) v u := let ⟨a, t1, t2, t3, e, m⟩ := h; ⟨a, t1, t2, t3, e, put_ne m (k.notSeq m rfl)⟩
theorem PairsAt.put {c : Addr} {fp : FP} {o : Obj} {v : Value} {D} (h : PairsAt fp v D) (k : CellOnly c fp) : PairsAt (put c o fp) v D := let ⟨P, oP, vs, e, m, l, a⟩ := h; ⟨P, oP, vs, e, put_ne m (k.lst m l), l, a.mono fun _ _ x => x.put k⟩
theorem UsesAt.put {c : Addr} {fp : FP} {o : Obj} {v : Value} {U} (h : UsesAt fp v U) (k : CellOnly c fp) : UsesAt (put c o fp) v U := let ⟨P, oP, vs, e, m, l, a⟩ := h; ⟨P, oP, vs, e, put_ne m (k.lst m l), l, a.mono fun _ _ x => x.put k⟩
theorem Grow.put {a fp : FP} {c : Addr} {o : Obj} (g : Grow a fp) (h : ∀ p ∈ a, p.1 < c) : Grow a (put c o fp) := ⟨fun p hp => put_ne (ox := p.2) (g.1 p hp) (Nat.ne_of_lt (h p hp)), fun p hp => by
  rcases mem_put hp with rfl | ⟨q, _⟩
  · exact .inr h
  · exact g.2 p q⟩
section
variable {prog : Program} {w : World} {A : Around} {g base : Heap} {outer : List Env} {L : Addr} {E : Value → Heap → Prop} {m : Loc} {fp : FP} {n : Nat} {env env' : Env} {U : List Use} {key at_ : Int} {t ta : Tok}
  {qn : Str} {sc : Scope} {fa : Addr} {cd : Value} {cl : List (Str × Addr)}
theorem o_storeCell {x : Str} {c : Addr} {o : Obj} {v : Value} {v₀ : Option Value} {Q : Unit → Loc → FP → Prop} (hc : cl.lookup x = some c) (hm : (c, o) ∈ fp) (hd : o.data = .cell v₀) (h : ∀ o', o'.data = .cell (some v) → Q () m (put c o' fp))
    (hk : sc.kind = .function := by rfl) (hx : (envX qn sc L fa cd cl).kindOf x = some .cell := by rfl) : Op prog w A g L E (storeName (envX qn sc L fa cd cl) x v) Q m fp :=
  Op.of fun s F N _ k => storeX_C F (Mine.News.sub N (put_sub hm)) hc put_updF hd (fun h' o' F' N' hd' => k _ h' s.toks m _ F' N' (h o' hd')) hk hx

abbrev outIf (x : Str) (p1 p2 p3 p4 p5 : Pos) (k : Nat) : PySem.Expr := .Compare (.Subscript (.Name "row" p1) (.Constant (.int 0) k p2) p3) [.NotEq] [.Name x p4] p5
/-- the rows of uses without a name -/
theorem out_comp {scope : Scope} {x : Str} {px p1 p2 p3 p4 p5 p6 : Pos} {k : Nat} {v : Value} {c : Addr} {oc : Obj} {R : Addr → Obj → Loc → FP → Prop} (hh : A.handled = none) (hU : UsesAt fp v U) (hlen : U.length ≤ 1000) (hm : (c, oc) ∈ fp) (hoc : oc.data = .cell (some (.int key t))) (hcl : cl.lookup x = some c)
    (k1 : ∀ C, (compEnvC scope cl C env).kindOf "row" = some .local) (k2 : ∀ C, (compEnvC scope cl C env).kindOf x = some .cell) (k3 : ∀ C, (compEnvC scope cl C env).scope.kind = .function) (hb : (x == ("__debug__" : Str)) = false)
    (h : ∀ D oD, (∀ p ∈ fp, p.1 < D) → UsesAt ((D, oD) :: fp) (.ref D) (outU U key) → R D oD m fp) :
    Op prog w A g L E (pyIter v) (fun it m2 fp2 => ∃ I oI fpB n P J B, it = .ref I ∧ (∀ p ∈ ((I, oI) :: fpB), p ∈ fp2) ∧ (∀ p ∈ fpB, p.1 ≠ I) ∧ n ≤ 1000 ∧ Src prog w A (.Name "row" px) I n P ((I, oI) :: fpB) ∧ CompOkG prog w A g env scope cl (.Name "row" px) [outIf x p1 p2 p3 p4 p5 k] (.Name "row" p6) I n P J B ∧
      (∀ D, (∀ p ∈ ((I, oI) :: fpB), p.1 < D) → J D 0 fpB []) ∧
      (∀ D fp3 ys oD, (∀ p ∈ ((I, oI) :: fpB), p.1 < D) → J D n fp3 ys → LstOf oD ys → R D oD m2 fp3)) m fp := by
  obtain ⟨P, oP, vs, rfl, hmP, ho, ha⟩ := hU
  refine o_iterList hh hmP ho fun I oI lI src _ => ?_
  have hvl := ha.len
  have idx : ∀ {i : Nat} {u : Value}, vs[i]? = some u → i < vs.length := fun {i u} hu => by
    cases q : decide (i < vs.length) with
    | true => exact of_decide_eq_true q
    | false => rw [List.getElem?_eq_none (by have := of_decide_eq_false q; omega)] at hu; cases hu
  refine ⟨I, oI, fp, vs.length, _, fun D i fp1 ys => fp1 = fp ∧ (∀ p ∈ fp, p.1 < D) ∧ All2 (UseAt fp) ys ((U.take i).filter fun u => decide (u.name ≠ key)) ∧ ys.length ≤ i, fun i u m' => m' "row" = some u, rfl, fun p hp => hp, fun p hp => Nat.ne_of_lt (lI p hp), by omega, src _ _, ⟨?_, ?_, ?_, ?_⟩, ?_, ?_⟩
  · exact fun D i fp1 ys j => j.2.2.2
  · rintro D i fp1 ys ⟨rfl, j1, _⟩ p hp; exact ⟨Nat.ne_of_lt (lI p hp), Nat.ne_of_lt (j1 p hp)⟩
  · rintro D i u fp1 ys gC C hi hu ⟨rfl, _⟩
    exact tgt_name (k1 C) (by rw [k3 C]; rfl)
  · rintro D i u fp1 ys mC ext gC C oI' oD stg hi hu ⟨rfl, j1, j2, j3⟩ hmC hI hD
    obtain ⟨us, hp, a, t1, t2, t3, rfl, hap⟩ := ha.get hu
    refine o_tests1 (o_isCompare (o_subscript (o_locG rfl hmC (o_int fun _ => o_tupItem (k := 0) (List.mem_append_right _ hap) rfl (by decide) (o_cellG (c := c) (o := oc) hcl (List.mem_append_right _ hm) hoc (o_neI (o_truthyBool ?_)) (k3 C) (k2 C) hb)) (k3 C) (k1 C))))
    by_cases e : us.name = key
    · rw [if_neg (by simpa using e)]
      exact ⟨_, fun q hq => hq, rfl, j1, by rw [filter_take_succ _ hp, if_neg (by simpa using e), List.append_nil]; exact j2, Nat.le_succ_of_le j3⟩
    · rw [if_pos (by simpa using e)]
      refine o_locG rfl hmC ?_ (k3 C) (k1 C)
      exact ⟨_, fun q hq => hq, rfl, j1, by rw [filter_take_succ _ hp, if_pos (by simpa using e)]; exact j2.snoc ⟨a, t1, t2, t3, rfl, hap⟩, by simp; omega⟩
  · exact fun D lD => ⟨rfl, fun p hp => lD p (.tail _ hp), .nil, Nat.le_refl _⟩
  · rintro D fp3 ys oD lD ⟨rfl, j1, j2, j3⟩ hl
    rw [hvl, List.take_length] at j2
    exact h D oD j1 ⟨D, oD, ys, rfl, .head _, hl, j2.mono fun _ _ x => x.mono fun q hq => .tail _ hq⟩
end
end Mine
end
section
open PySem PySem.W PySem.Calls PyProof.Rows
set_option Elab.async false
set_option maxRecDepth 100000
set_option linter.unusedVariables false
namespace Mine
section
variable (P : Params)
theorem kl_972 : (K P).lookup 972 = some o972 := by kernel_rfl
theorem kc_972 : codeIn (K P) (.ref 971) "_law_put" = true := by kernel_rfl
theorem kn_without : nsIn (K P) mainGlobals "_law_without" = some (some (.ref 943)) := by kernel_rfl
theorem kn_value : nsIn (K P) mainGlobals "_law_value" = some (some (.ref 950)) := by kernel_rfl
theorem kn_room : nsIn (K P) mainGlobals "_law_room" = some (some (.ref 955)) := by kernel_rfl
theorem kn_counted : nsIn (K P) mainGlobals "_law_counted" = some (some (.ref 960)) := by kernel_rfl
theorem kn_least : nsIn (K P) mainGlobals "_law_least" = some (some (.ref 967)) := by kernel_rfl
theorem kn_put : nsIn (K P) mainGlobals "_law_put" = some (some (.ref 972)) := by kernel_rfl
theorem kp_943 : keepIn (K P) (.ref 943) = true := by kernel_rfl
theorem kp_950 : keepIn (K P) (.ref 950) = true := by kernel_rfl
theorem kp_955 : keepIn (K P) (.ref 955) = true := by kernel_rfl
theorem kp_960 : keepIn (K P) (.ref 960) = true := by kernel_rfl
theorem kp_967 : keepIn (K P) (.ref 967) = true := by kernel_rfl
theorem kp_972 : keepIn (K P) (.ref 972) = true := by kernel_rfl
end
structure PU (D : List (Int × Int)) (U : List Use) : Prop where
  dok : DOK D
  perm : (U.map (·.name)).Perm (D.map (·.1))
theorem PU.len {D U} (h : PU D U) : U.length = D.length := by simpa using h.perm.length_eq
theorem PU.five {D U} (h : PU D U) : U.length ≤ 5 := by rw [h.len]; exact h.dok.five
theorem outU_names {U : List Use} {k : Int} : (outU U k).map (·.name) = (U.map (·.name)).filter fun x => decide (x ≠ k) := by
  unfold outU; rw [List.filter_map]; rfl
theorem PU.out {D U} (h : PU D U) (k : Int) : PU (withoutI D k) (outU U k) := ⟨h.dok.without k, by rw [outU_names, withoutI_keys]; exact h.perm.filter _⟩
theorem leastF_mem {U : List Use} {b : Use} : U.foldl leastF b = b ∨ U.foldl leastF b ∈ U := by
  induction U generalizing b with
  | nil => exact .inl rfl
  | cons u U ih =>
    rw [List.foldl_cons]
    rcases ih (b := leastF b u) with h | h
    · rw [h]; unfold leastF; split
      · exact .inr (.head _)
      · exact .inl rfl
    · exact .inr (.tail _ h)
theorem leastU_mem {U : List Use} (h : U ≠ []) : leastU U ∈ U.map (·.name) := by
  cases U with
  | nil => exact absurd rfl h
  | cons u U =>
    show ((u :: U).foldl leastF u).name ∈ _
    rcases leastF_mem (U := u :: U) (b := u) with e | e
    · rw [e]; simp
    · exact List.mem_map_of_mem e
theorem outU_lt {U : List Use} {k : Int} (h : k ∈ U.map (·.name)) : (outU U k).length < U.length := by
  obtain ⟨u, hu, e⟩ := List.mem_map.mp h
  unfold outU
  exact List.length_filter_lt_length_iff_exists.mpr ⟨u, hu, by simp [e]⟩
/-- making room in the table -/
inductive EvU (sized : Bool) (room key sz : Int) : List (Int × Int) → List Use → List (Int × Int) → List Use → Prop
  | done {D U} : ¬ roomOf sized (withoutI D key) + sz > room → EvU sized room key sz D U D U
  | step {D U D' U'} : roomOf sized (withoutI D key) + sz > room → U ≠ [] → EvU sized room key sz (withoutI D (leastU U)) (outU U (leastU U)) D' U' → EvU sized room key sz D U D' U'
def TripAt (fp : FP) (v : Value) (ans : PyData) (D : List (Int × Int)) (U : List Use) : Prop := ∃ T a p u, v = .ref T ∧ (T, tupO [a, p, u]) ∈ fp ∧ Rd fp a ans ∧ PairsAt fp p D ∧ UsesAt fp u U
def PutU (sized : Bool) (room key value at_ : Int) (D : List (Int × Int)) (U : List Use) (ans : PyData) (D' : List (Int × Int)) (U' : List Use) : Prop :=
  ((0 ≤ szOf sized value ∧ szOf sized value ≤ room) ∧ ∃ D1 U1, EvU sized room key (szOf sized value) D U D1 U1 ∧ D' = storedI D1 key value ∧ U' = countedU U1 key at_ ∧ ans = .list []) ∨
  (¬ (0 ≤ szOf sized value ∧ szOf sized value ≤ room) ∧ D' = D ∧ U' = U ∧ ans = .list [.str "refused"])
theorem room_without_nil {sized : Bool} {key : Int} : roomOf sized (withoutI [] key) = 0 := rfl
theorem any_iff_at {D : List (Int × Int)} {key : Int} : D.any (fun kv => decide (kv.1 = key)) = (atI D key).isSome := by
  unfold atI
  induction D with
  | nil => rfl
  | cons x D ih =>
    rw [List.any_cons, List.find?_cons]
    by_cases e : x.1 = key
    · rw [decide_eq_true e]; rfl
    · rw [decide_eq_false e]; simpa using ih
section
variable {prog : Program} {w : World} {A : Around} {g base : Heap} {outer : List Env} {L : Addr} {E : Value → Heap → Prop} {m : Loc} {fp : FP} {n : Nat} {env env' : Env} {U : List Use} {D : List (Int × Int)} {key at_ value room : Int} {sized : Bool} {t ta tv tr : Tok}
  {cl : List (Str × Addr)}
abbrev newIf (p1 p2 p3 p4 p5 : Pos) (k : Nat) : PySem.Expr := .Compare (.Subscript (.Name "pair" p1) (.Constant (.int 0) k p2) p3) [.Eq] [.Name "key" p4] p5
/-- [(key, value) if pair[0] == key else pair for pair in pairs] -/
theorem new_comp {scope : Scope} {px p1 p2 p3 p4 p5 p6 p7 p8 p9 p10 : Pos} {k kk : Nat} {v : Value} {ck cv : Addr} {ok ov : Obj} {R : Addr → Obj → Loc → FP → Prop} (hh : A.handled = none) (hP : PairsAt fp v D) (hlen : D.length ≤ 1000) (hk : (ck, ok) ∈ fp) (hok : ok.data = .cell (some (.int key t))) (hv : (cv, ov) ∈ fp) (hov : ov.data = .cell (some (.int value tv))) (hcl : cl.lookup ("key" : Str) = some ck) (hcl2 : cl.lookup ("value" : Str) = some cv)
    (k1 : ∀ C, (compEnvC scope cl C env).kindOf "pair" = some .local) (k2 : ∀ C, (compEnvC scope cl C env).kindOf "key" = some .cell) (k4 : ∀ C, (compEnvC scope cl C env).kindOf "value" = some .cell) (k3 : ∀ C, (compEnvC scope cl C env).scope.kind = .function)
    (h : ∀ D' oD fp3, Grow fp ((D', oD) :: fp3) → PairsAt ((D', oD) :: fp3) (.ref D') (D.map fun kv => if kv.1 = key then (kv.1, value) else kv) → R D' oD m fp3) :
    Op prog w A g L E (pyIter v) (fun it m2 fp2 => ∃ I oI fpB n P J B, it = .ref I ∧ (∀ p ∈ ((I, oI) :: fpB), p ∈ fp2) ∧ (∀ p ∈ fpB, p.1 ≠ I) ∧ n ≤ 1000 ∧ Src prog w A (.Name "pair" px) I n P ((I, oI) :: fpB) ∧ CompOkG prog w A g env scope cl (.Name "pair" px) [] (.IfExp (newIf p1 p2 p3 p4 p5 k) (.Tuple [.Name "key" p6, .Name "value" p7] kk p8) (.Name "pair" p9) p10) I n P J B ∧
      (∀ D, (∀ p ∈ ((I, oI) :: fpB), p.1 < D) → J D 0 fpB []) ∧
      (∀ D fp3 ys oD, (∀ p ∈ ((I, oI) :: fpB), p.1 < D) → J D n fp3 ys → LstOf oD ys → R D oD m2 fp3)) m fp := by
  obtain ⟨P, oP, vs, rfl, hmP, ho, ha⟩ := hP
  refine o_iterList hh hmP ho fun I oI lI src _ => ?_
  have hvl := ha.len
  refine ⟨I, oI, fp, vs.length, _, fun D' i fp1 ys => Grow fp fp1 ∧ (∀ p ∈ fp1, p.1 ≠ I ∧ p.1 ≠ D') ∧ (∀ p ∈ fp, p.1 < D') ∧ All2 (PairAt fp1) ys ((D.take i).map fun kv => if kv.1 = key then (kv.1, value) else kv) ∧ ys.length ≤ i, fun i u m' => m' "pair" = some u, rfl, fun p hp => hp, fun p hp => Nat.ne_of_lt (lI p hp), by omega, src _ _, ⟨?_, ?_, ?_, ?_⟩, ?_, ?_⟩
  · exact fun D i fp1 ys j => j.2.2.2.2
  · rintro D i fp1 ys ⟨_, j1, _⟩ p hp; exact j1 p hp
  · rintro D i u fp1 ys gC C hi hu _
    exact tgt_name (k1 C) (by rw [k3 C]; rfl)
  · rintro D' i u fp1 ys mC ext gC C oI' oD stg hi hu ⟨gr, j1, j0, j2, j3⟩ hmC hI hD
    obtain ⟨p, hp, a, t1, t2, rfl, hap⟩ := ha.get hu
    have etake : D.take (i + 1) = D.take i ++ [p] := by rw [List.take_add_one, hp]; rfl
    refine o_tests0 (by
      rw [if_pos rfl]
      refine o_ifExp (o_isCompare (o_subscript (o_locG rfl hmC (o_int fun _ => o_tupItem (k := 0) (List.mem_append_right _ (gr.1 _ hap)) rfl (by decide) (o_cellG (c := ck) (o := ok) hcl (List.mem_append_right _ (gr.1 _ hk)) hok (o_eqI (o_truthyBool ?_)) (k3 C) (k2 C) (by decide))) (k3 C) (k1 C))))
      by_cases e : p.1 = key
      · rw [if_pos (by simpa using e)]
        refine o_tuple (o_argsCons (o_cellG (c := ck) (o := ok) hcl (List.mem_append_right _ (gr.1 _ hk)) hok (o_argsCons (o_cellG (c := cv) (o := ov) hcl2 (List.mem_append_right _ (gr.1 _ hv)) hov (o_argsNil ⟨by simp, fun T lT => ?_⟩) (k3 C) (k4 C) (by decide))) (k3 C) (k2 C) (by decide)))
        refine ⟨(T, tupO [.int key t, .int value tv]) :: fp1, fun q hq => ?_, gr.cons fun p hp => lT p (List.mem_append_right _ hp), fun p hp' => ?_, j0, ?_, by simp; omega⟩
        · rcases List.mem_append.mp hq with hq | hq
          · exact .tail _ (List.mem_append_left _ hq)
          · rcases List.mem_cons.mp hq with rfl | hq
            · exact .head _
            · exact .tail _ (List.mem_append_right _ hq)
        · rcases List.mem_cons.mp hp' with rfl | hp'
          · exact ⟨Nat.ne_of_gt (lT _ (List.mem_append_left _ hI)), Nat.ne_of_gt (lT _ (List.mem_append_left _ hD))⟩
          · exact j1 p hp'
        · rw [etake, List.map_append]
          exact (j2.mono fun _ _ x => x.mono fun q hq => .tail _ hq).snoc ⟨T, t, tv, rfl, by simp only [if_pos e, e]; exact .head _⟩
      · rw [if_neg (by simpa using e)]
        refine o_locG rfl hmC ?_ (k3 C) (k1 C)
        exact ⟨_, fun q hq => hq, gr, j1, j0, by rw [etake, List.map_append]; exact j2.snoc ⟨a, t1, t2, rfl, by simp only [if_neg e]; exact gr.1 _ hap⟩, by simp; omega⟩)
  · exact fun D' lD => ⟨.refl, fun p hp => ⟨Nat.ne_of_lt (lI p hp), Nat.ne_of_lt (lD p (.tail _ hp))⟩, fun p hp => lD p (.tail _ hp), .nil, Nat.le_refl _⟩
  · rintro D' fp3 ys oD lD ⟨gr, j1, j0, j2, j3⟩ hl
    rw [hvl, List.take_length] at j2
    exact h D' oD fp3 (gr.add j0) ⟨D', oD, ys, rfl, .head _, hl, j2.mono fun _ _ x => x.mono fun q hq => .tail _ hq⟩
end
end Mine
end
section
open PySem PySem.W PySem.Calls PyProof.Rows
set_option Elab.async false
set_option maxRecDepth 100000
set_option linter.unusedVariables false
namespace Mine
noncomputable abbrev env972 (L : Addr) : Env := envX "_law_put" f972.1.2.2 L 972 (.ref 971) (cellsFrom (L + 1) f972.1.2.2.names [])
section
variable {prog : Program} {w : World} {A : Around} {g base : Heap} {outer : List Env} {L : Addr} {E : Value → Heap → Prop} {m : Loc} {fp : FP} {n : Nat} {env env' : Env} {U : List Use} {D : List (Int × Int)} {key at_ value room : Int} {sized : Bool} {t ta tv tr : Tok}
  {cl : List (Str × Addr)}
structure PutSt (fp fp1 : FP) (ck cv cg : Addr) (ok ov : Obj) (room at_ sz : Int) (sized : Bool) (tr ta ts : Tok) (m1 : Loc) (D1 : List (Int × Int)) (U1 : List Use) : Prop where
  gr : Grow fp fp1
  co : CellOnly cg fp1
  gone : ∃ og x, (cg, og) ∈ fp1 ∧ og.data = .cell x
  hk : (ck, ok) ∈ fp1
  hv : (cv, ov) ∈ fp1
  P : ∃ vP, m1 "pairs" = some vP ∧ PairsAt fp1 vP D1
  U : ∃ vU, m1 "uses" = some vU ∧ UsesAt fp1 vU U1
  room : m1 "room" = some (.int room tr)
  sized : m1 "sized" = some (.bool sized)
  at' : m1 "at" = some (.int at_ ta)
  size : m1 "size" = some (.int sz ts)
theorem PutSt.grow {fp fp1 fp2 : FP} {ck cv cg : Addr} {ok ov : Obj} {sz : Int} {ts : Tok} {m1 : Loc} {D1 U1} (h : PutSt fp fp1 ck cv cg ok ov room at_ sz sized tr ta ts m1 D1 U1) (g : Grow fp1 fp2) : PutSt fp fp2 ck cv cg ok ov room at_ sz sized tr ta ts m1 D1 U1 := by
  obtain ⟨og, x, g1, g2⟩ := h.gone
  obtain ⟨vP, p1, p2⟩ := h.P
  obtain ⟨vU, u1, u2⟩ := h.U
  exact ⟨h.gr.trans g, h.co.grow g1 g, ⟨og, x, g.1 _ g1, g2⟩, g.1 _ h.hk, g.1 _ h.hv, ⟨vP, p1, p2.mono g.1⟩, ⟨vU, u1, u2.mono g.1⟩, h.room, h.sized, h.at', h.size⟩

/-- the test of put's loop -/
theorem put_test {fp1 : FP} {ok ov : Obj} {sz : Int} {ts : Tok} {m1 : Loc} {D1 : List (Int × Int)} {U1 : List Use} {p1 p2 p3 p4 p5 p6 p7 p8 p9 p10 p11 : Pos} {whole : Sem Value} {Q : Bool → Loc → FP → Prop} (cx : Cx w base outer g L A (env972 L) (n + 1)) (h : PutSt fp fp1 (L + 1) (L + 2) (L + 3) ok ov room at_ sz sized tr ta ts m1 D1 U1) (hlen : D1.length ≤ 1000) (hok : ok.data = .cell (some (.int key t))) 
    (hQ : ∀ fp2, Grow fp1 fp2 → Q (decide (roomOf sized (withoutI D1 key) + sz > room)) m1 fp2) :
    Op prog w A g L E (isTrue (.Compare (.BinOp (.Call (.Name "_law_room" p1) [.Call (.Name "_law_without" p2) [.Name "pairs" p3, .Name "key" p4] [] p5, .Name "sized" p6] [] p7) .Add (.Name "size" p8) p9) [.Gt] [.Name "room" p10] p11) (env972 L) whole) Q m1 fp1 := by
  obtain ⟨vP, hp1, hp2⟩ := h.P
  refine o_isCompare (o_binop (o_nameCall (o_glob cx (kn_room _) (o_callK cx (kp_955 _) (o_argsCons (o_nameCall (o_glob cx (kn_without _) (o_callK cx (kp_943 _) (o_argsCons (o_loc hp1 (o_argsCons (o_cell (show List.lookup _ _ = _ by rfl) h.hk hok (o_argsNil ?_)))))))))))))
  refine without_at cx hp2 hlen fun v' fp2 g2 hv' => ?_
  refine o_argsCons (o_loc h.sized (o_argsNil ?_))
  refine room_at cx hv' (Nat.le_trans (List.length_filter_le _ _) hlen) fun tq fp3 g3 => ?_
  exact o_loc h.size (o_add fun _ => o_loc h.room (o_gtI (o_truthyBool (hQ _ (g2.trans g3)))))
/-- the body of put's loop -/
theorem put_turn {fp1 : FP} {ok ov : Obj} {sz : Int} {ts : Tok} {m1 : Loc} {D1 : List (Int × Int)} {U1 : List Use} {Q : Flow → Loc → FP → Prop} (cx : Cx w base outer g L A (env972 L) (n + 1)) (h : PutSt fp fp1 (L + 1) (L + 2) (L + 3) ok ov room at_ sz sized tr ta ts m1 D1 U1) (hne : U1 ≠ []) (hlen : D1.length ≤ 1000) (hlen2 : U1.length ≤ 1000) (hcg : ∀ p ∈ fp, p.1 < L + 3) 
    (hQ : ∀ m2 fp2, PutSt fp fp2 (L + 1) (L + 2) (L + 3) ok ov room at_ sz sized tr ta ts m2 (withoutI D1 (leastU U1)) (outU U1 (leastU U1)) → Q .next m2 fp2) :
    Op prog w A g L E (execs (match nth f972.1.2.1 2 with | .While _ b _ _ => b | _ => []) (env972 L)) Q m1 fp1 := by
  obtain ⟨vU, hu1, hu2⟩ := h.U
  cases U1 with
  | nil => exact absurd rfl hne
  | cons u0 Ur =>
    obtain ⟨og, x, hg1, hg2⟩ := h.gone
    refine o_cons (o_assign (o_nameCall (o_glob cx (kn_least _) (o_callK cx (kp_967 _) (o_argsCons (o_loc hu1 (o_argsNil (least_at cx hu2 fun tl => o_storeCell (by rfl) hg1 hg2 fun og' hog' => ?_))))))))
    have h1 : PutSt fp (put (L + 3) og' fp1) (L + 1) (L + 2) (L + 3) ok ov room at_ sz sized tr ta ts m1 D1 (u0 :: Ur) := by
      obtain ⟨vP, p1, p2⟩ := h.P
      exact ⟨h.gr.put hcg, .put hog', ⟨og', _, put_self, hog'⟩, put_ne h.hk (Nat.ne_of_lt (Nat.add_lt_add_left (by decide) L)), put_ne h.hv (Nat.ne_of_lt (Nat.add_lt_add_left (by decide) L)), ⟨vP, p1, p2.put h.co⟩, ⟨vU, hu1, hu2.put h.co⟩, h.room, h.sized, h.at', h.size⟩
    have hgm : (L + 3, og') ∈ put (L + 3) og' fp1 := put_self
    generalize put (L + 3) og' fp1 = fp2 at *
    obtain ⟨vP, hp1, hp2⟩ := h1.P
    refine o_cons (o_assign (o_nameCall (o_glob cx (kn_without _) (o_callK cx (kp_943 _) (o_argsCons (o_loc hp1 (o_argsCons (o_cell (show List.lookup _ _ = _ by rfl) hgm hog' (o_argsNil (without_at cx hp2 hlen fun v' fp3 g3 hv' => o_store ?_))))))))))
    have h2 := h1.grow g3
    obtain ⟨vU', hu1', hu2'⟩ := h2.U
    refine o_cons (o_assignComp (cl := [("gone", L + 3)]) rfl (by rfl) rfl rfl (by rfl) (by decide) rfl (by decide) (o_loc hu1' (out_comp cx.handled hu2' hlen2 (g3.1 _ hgm) hog' rfl (fun C => rfl) (fun C => rfl) (fun C => rfl) (by decide) fun D2 oD2 lD2 hD2 => ?_)))
    refine o_nil (hQ _ _ ?_)
    have h3 := h2.grow (Grow.push (o := oD2) lD2)
    exact ⟨h3.gr, h3.co, h3.gone, h3.hk, h3.hv, ⟨v', rfl, hv'.mono fun q hq => .tail _ hq⟩, ⟨_, rfl, hD2⟩, h3.room, h3.sized, h3.at', h3.size⟩
end
end Mine
end
section
open PySem PySem.W PySem.Calls PyProof.Rows
set_option Elab.async false
set_option maxRecDepth 100000
set_option linter.unusedVariables false
namespace Mine
section
variable {prog : Program} {w : World} {A : Around} {g base : Heap} {outer : List Env} {L : Addr} {E : Value → Heap → Prop} {m : Loc} {fp : FP} {n : Nat} {env env' : Env} {U : List Use} {D : List (Int × Int)} {key at_ value room : Int} {sized : Bool} {t ta tv tr : Tok}
  {cl : List (Str × Addr)}
/-- what follows put's loop -/
theorem put_end {fp1 : FP} {ok ov : Obj} {sz : Int} {ts : Tok} {m1 : Loc} {D1 : List (Int × Int)} {U1 : List Use} {Q : Value → Loc → FP → Prop} (cx : Cx w base outer g L A (env972 L) (n + 1)) (h : PutSt fp fp1 (L + 1) (L + 2) (L + 3) ok ov room at_ sz sized tr ta ts m1 D1 U1) (pu : PU D1 U1) (hok : ok.data = .cell (some (.int key t))) (hov : ov.data = .cell (some (.int value tv)))
    (hQ : ∀ v fp', Grow fp fp' → TripAt fp' v (.list []) (storedI D1 key value) (countedU U1 key at_) → Q v m fp') :
    Op prog w A g L E (execs [nth f972.1.2.1 3, nth f972.1.2.1 4] (env972 L)) (fun fl _ fp' => Q (retOf fl) m fp') m1 fp1 := by
  have fin : ∀ (m2 : Loc) (fp2 : FP) (vP : Value), PutSt fp fp2 (L + 1) (L + 2) (L + 3) ok ov room at_ sz sized tr ta ts m2 (storedI D1 key value) U1 → Op prog w A g L E (execs [nth f972.1.2.1 4] (env972 L)) (fun fl _ fp' => Q (retOf fl) m fp') m2 fp2 := by
    intro m2 fp2 vP h2
    obtain ⟨vP, hp1, hp2⟩ := h2.P
    obtain ⟨vU, hu1, hu2⟩ := h2.U
    refine o_cons (o_ret (o_tuple (o_argsCons (o_list (o_argsNil ⟨by simp, fun R lR => ?_⟩)))))
    refine o_argsCons (o_loc hp1 (o_argsCons (o_nameCall (o_glob cx (kn_counted _) (o_callK cx (kp_960 _) (o_argsCons (o_loc hu1 (o_argsCons (o_cell (show List.lookup _ _ = _ by rfl) (.tail _ h2.hk) hok (o_argsCons (o_loc h2.at' (o_argsNil ?_))))))))))))
    refine counted_at cx (hu2.mono fun q hq => .tail _ hq) (Nat.le_trans pu.five (by decide)) fun v' fp3 g3 hv' => o_argsNil ⟨by simp, fun T lT => ?_⟩
    refine hQ _ _ (((h2.gr.cons (o := lstO []) lR).trans g3).cons lT) ⟨T, _, _, _, rfl, .head _, ?_, hp2.mono fun q hq => .tail _ (g3.1 _ (.tail _ hq)), hv'.mono fun q hq => .tail _ hq⟩
    exact Rd.list (.tail _ (g3.1 _ (.head _))) ⟨0, rfl⟩ .nil
  obtain ⟨vP, hp1, hp2⟩ := h.P
  refine o_cons (o_if (o_isCompare (o_nameCall (o_glob cx (kn_value _) (o_callK cx (kp_950 _) (o_argsCons (o_loc hp1 (o_argsCons (o_cell (show List.lookup _ _ = _ by rfl) h.hk hok (o_argsNil (value_at cx hp2 fun v' fp2 g2 hv' => o_list (o_argsNil ⟨by simp, fun R lR => ?_⟩))))))))))))
  have h2 := (h.grow g2).grow (Grow.push (o := lstO []) lR)
  obtain ⟨V, oV, vsV, rfl, hV1, hV2, hV3⟩ := hv'
  refine o_eqD cx (Rd.list (.tail _ hV1) hV2 (rdAll_ints hV3)) (Rd.list (.head _) ⟨0, rfl⟩ .nil) (shaped_ints _) shaped_nil (o_truthyBool ?_)
  rw [eqv_ints_nil]
  cases hat : atI D1 key with
  | none =>
    rw [if_pos (by rfl)]
    have hst : storedI D1 key value = D1 ++ [(key, value)] := by unfold storedI; rw [any_iff_at, hat]; rfl
    obtain ⟨vP2, hp1', hp2'⟩ := h2.P
    obtain ⟨P, oP, vs, rfl, hP1, hP2, hP3⟩ := hp2'
    refine o_cons (o_assign (o_binop (o_loc hp1' (o_list (o_argsCons (o_tuple (o_argsCons (o_cell (show List.lookup _ _ = _ by rfl) h2.hk hok (o_argsCons (o_cell (show List.lookup _ _ = _ by rfl) h2.hv hov (o_argsNil ⟨by simp, fun T lT => o_argsNil ⟨by simp, fun S lS => ?_⟩⟩)))))))))))
    refine o_listAdd (.tail _ (.tail _ hP1)) hP2 (.head _) ⟨0, rfl⟩ (by have := hP3.len; have := pu.dok.five; simp; omega) fun D' oD' lD' hD' => o_store (o_nil ?_)
    have h3 := ((h2.grow (Grow.push (o := tupO [.int key t, .int value tv]) lT)).grow (Grow.push (o := lstO [.ref T]) lS)).grow (Grow.push (o := oD') lD')
    refine fin _ _ (.ref D') ⟨h3.gr, h3.co, h3.gone, h3.hk, h3.hv, ⟨_, rfl, ?_⟩, h3.U, h3.room, h3.sized, h3.at', h3.size⟩
    rw [hst]
    exact ⟨D', oD', _, rfl, .head _, hD', (hP3.mono fun _ _ x => x.mono fun q hq => .tail _ (.tail _ (.tail _ hq))).snoc ⟨T, _, _, rfl, .tail _ (.tail _ (.head _))⟩⟩
  | some x =>
    rw [if_neg (by simp)]
    have hst : storedI D1 key value = D1.map fun kv => if kv.1 = key then (kv.1, value) else kv := by unfold storedI; rw [any_iff_at, hat]; rfl
    obtain ⟨vP2, hp1', hp2'⟩ := h2.P
    refine o_cons (o_assignComp (cl := [("value", L + 2), ("key", L + 1)]) rfl (by rfl) rfl rfl (by rfl) (by decide) rfl (by decide) (o_loc hp1' (new_comp cx.handled hp2' (Nat.le_trans pu.dok.five (by decide)) h2.hk hok h2.hv hov rfl rfl (fun C => rfl) (fun C => rfl) (fun C => rfl) (fun C => rfl) fun D2 oD2 fp3 g3 hD2 => ?_)))
    refine o_nil ?_
    have h3 := h2.grow g3
    refine fin _ _ (.ref D2) ⟨h3.gr, h3.co, h3.gone, h3.hk, h3.hv, ⟨_, rfl, ?_⟩, h3.U, h3.room, h3.sized, h3.at', h3.size⟩
    rw [hst]; exact hD2

theorem put_at {vP vU : Value} {Q : Value → Loc → FP → Prop} (cx : Cx w base outer g L A env (n + 2)) (hP : PairsAt fp vP D) (hU : UsesAt fp vU U) (pu : PU D U)
    (h : ∀ v fp' ans D' U', Grow fp fp' → TripAt fp' v ans D' U' → PutU sized room key value at_ D U ans D' U' → Q v m fp') :
    Op prog w A g L E (call (.ref 972) [vP, vU, .int room tr, .bool sized, .int key t, .int value tv, .int at_ ta]) Q m fp := by
  refine o_callC cx (kl_972 _) (kc_972 _) (fun s _ => BindsTo.of_eq rfl) ?_ (by decide) fun g' L' E' cells cx' st lt hcells => ?_
  · intro nn x hx
    rcases List.mem_cons.mp hx with e | hx
    · subst e; exact .inl rfl
    rcases List.mem_cons.mp hx with e | hx
    · subst e; exact .inl rfl
    rcases List.mem_cons.mp hx with e | hx
    · subst e; exact .inl rfl
    rcases List.mem_cons.mp hx with e | hx
    · subst e; exact .inl rfl
    rcases List.mem_cons.mp hx with e | hx
    · subst e; exact .inr ⟨rfl, rfl⟩
    rcases List.mem_cons.mp hx with e | hx
    · subst e; exact .inr ⟨rfl, rfl⟩
    rcases List.mem_cons.mp hx with e | hx
    · subst e; exact .inl rfl
    cases hx
  obtain ⟨og, ov, ok, hcs, hog, hov, hok⟩ := CellsAre.three hcells
  subst hcs
  have hok : ok.data = .cell (some (.int key t)) := hok
  have hov : ov.data = .cell (some (.int value tv)) := hov
  have l1 : ∀ p ∈ fp, p.1 < L' + 1 := fun p hp => Nat.lt_succ_of_lt (lt p hp)
  have l2 : ∀ p ∈ fp, p.1 < L' + 2 := fun p hp => Nat.lt_succ_of_lt (l1 p hp)
  have l3 : ∀ p ∈ fp, p.1 < L' + 3 := fun p hp => Nat.lt_succ_of_lt (l2 p hp)
  have g0 : Grow fp ([(L' + 3, og), (L' + 2, ov), (L' + 1, ok)] ++ fp) := ((Grow.refl.add l1).add l2).add l3
  have co : CellOnly (L' + 3) ([(L' + 3, og), (L' + 2, ov), (L' + 1, ok)] ++ fp) := by
    intro p hp e
    rcases List.mem_cons.mp hp with rfl | hp
    · exact ⟨_, hog⟩
    rcases List.mem_cons.mp hp with rfl | hp
    · exact ⟨_, hov⟩
    rcases List.mem_cons.mp hp with rfl | hp
    · exact ⟨_, hok⟩
    · exact absurd e (Nat.ne_of_lt (l3 p hp))
  show Op prog w _ g' L' E' (execs f972.1.2.1 (env972 L')) _ _ _
  have tail : ∀ (ts : Tok), Op prog w (A.deeper (envOfC "_law_put" f972.1.2.2 L' 972 (.ref 971))) g' L' E' (execs f972.1.2.1.tail (env972 L')) (fun fl _ fp' => Q (retOf fl) m fp')
      (fun y => if y = "size" then some (.int (szOf sized value) ts) else bindL (envOfC "_law_put" f972.1.2.2 L' 972 (.ref 971)).kindOf [("pairs", vP), ("uses", vU), ("room", .int room tr), ("sized", .bool sized), ("key", .int key t), ("value", .int value tv), ("at", .int at_ ta)] (fun _ => none) y) ([(L' + 3, og), (L' + 2, ov), (L' + 1, ok)] ++ fp) := by
    intro ts
    have ps : PutSt fp ([(L' + 3, og), (L' + 2, ov), (L' + 1, ok)] ++ fp) (L' + 1) (L' + 2) (L' + 3) ok ov room at_ (szOf sized value) sized tr ta ts (fun y => if y = "size" then some (.int (szOf sized value) ts) else bindL (envOfC "_law_put" f972.1.2.2 L' 972 (.ref 971)).kindOf [("pairs", vP), ("uses", vU), ("room", .int room tr), ("sized", .bool sized), ("key", .int key t), ("value", .int value tv), ("at", .int at_ ta)] (fun _ => none) y) D U :=
      ⟨g0, co, ⟨og, _, .head _, hog⟩, .tail _ (.tail _ (.head _)), .tail _ (.head _), ⟨vP, rfl, hP.mono g0.1⟩, ⟨vU, rfl, hU.mono g0.1⟩, rfl, rfl, rfl, rfl⟩
    generalize ([(L' + 3, og), (L' + 2, ov), (L' + 1, ok)] ++ fp : FP) = fp1 at *
    generalize (fun y => if y = "size" then some (.int (szOf sized value) ts) else bindL (envOfC "_law_put" f972.1.2.2 L' 972 (.ref 971)).kindOf [("pairs", vP), ("uses", vU), ("room", .int room tr), ("sized", .bool sized), ("key", .int key t), ("value", .int value tv), ("at", .int at_ ta)] (fun _ => none) y : Loc) = m1 at *
    have cx' : Cx w base (env :: outer) g' L' _ (env972 L') (n + 1) := cx'
    obtain ⟨vP', hp1, hp2⟩ := ps.P
    obtain ⟨vU', hu1, hu2⟩ := ps.U
    refine o_cons (o_if (o_isTrueOr (o_isCompare (o_loc ps.size (o_loc ps.room (o_gtI (o_truthyBool ?_)))))))
    have bad : ∀ {Q' : Flow → Loc → FP → Prop}, (∀ v m2 fp2, Q v m fp2 → Q' (.ret v) m2 fp2) → ¬ (0 ≤ szOf sized value ∧ szOf sized value ≤ room) → Op prog w (A.deeper (envOfC "_law_put" f972.1.2.2 L' 972 (.ref 971))) g' L' E' (execs [.Return (some (.Tuple [.List [.Constant (.str "refused") 0 ⟨590, 17, 590, 26⟩] ⟨590, 16, 590, 27⟩, .Name "pairs" ⟨590, 29, 590, 34⟩, .Name "uses" ⟨590, 36, 590, 40⟩] 0 ⟨590, 15, 590, 41⟩)) ⟨590, 8, 590, 41⟩] (env972 L')) Q' m1 fp1 := by
      intro Q' hQ' hb
      refine o_cons (o_ret (o_tuple (o_argsCons (o_list (o_argsCons (o_str fun ts' => o_argsNil ⟨by simp, fun R lR => o_argsCons (o_loc hp1 (o_argsCons (o_loc hu1 (o_argsNil ⟨by simp, fun T lT => ?_⟩))))⟩)))))) 
      refine hQ' _ _ _ (h _ _ _ _ _ ((ps.gr.cons lR).cons lT) ⟨T, _, _, _, rfl, .head _, Rd.list (.tail _ (.head _)) ⟨0, rfl⟩ (.cons .str .nil), hp2.mono fun q hq => .tail _ (.tail _ hq), hu2.mono fun q hq => .tail _ (.tail _ hq)⟩ (.inr ⟨hb, rfl, rfl, rfl⟩))
    have good : (0 ≤ szOf sized value ∧ szOf sized value ≤ room) → Op prog w (A.deeper (envOfC "_law_put" f972.1.2.2 L' 972 (.ref 971))) g' L' E' (execs [nth f972.1.2.1 2, nth f972.1.2.1 3, nth f972.1.2.1 4] (env972 L')) (fun fl _ fp' => Q (retOf fl) m fp') m1 fp1 := by
      intro hg
      refine o_cons (o_while (fun k m2 fp2 => ∃ D1 U1, k = U1.length ∧ PutSt fp fp2 (L' + 1) (L' + 2) (L' + 3) ok ov room at_ (szOf sized value) sized tr ta ts m2 D1 U1 ∧ PU D1 U1 ∧ ∀ D2 U2, EvU sized room key (szOf sized value) D1 U1 D2 U2 → EvU sized room key (szOf sized value) D U D2 U2) U.length ⟨D, U, rfl, ps, pu, fun _ _ x => x⟩ rfl ?_)
      rintro k m2 fp2 ⟨D1, U1, rfl, ps1, pu1, ev1⟩
      refine put_test cx' ps1 (Nat.le_trans pu1.dok.five (by decide)) hok fun fp3 g3 => ?_
      have ps3 := ps1.grow g3
      by_cases e : roomOf sized (withoutI D1 key) + szOf sized value > room
      · rw [if_pos (by simpa using e)]
        have hne : U1 ≠ [] := fun q => by
          have := pu1.len
          rw [q] at this
          have : D1 = [] := List.length_eq_zero_iff.mp this.symm
          rw [this, room_without_nil] at e; omega
        refine put_turn cx' ps3 hne (Nat.le_trans pu1.dok.five (by decide)) (Nat.le_trans pu1.five (by decide)) l3 fun m4 fp4 ps4 => ?_
        exact ⟨_, outU_lt (leastU_mem hne), _, _, rfl, ps4, pu1.out _, fun D2 U2 x => ev1 _ _ (.step e hne x)⟩
      · rw [if_neg (by simpa using e)]
        exact put_end cx' ps3 pu1 hok hov fun v fp4 g4 tr4 => h _ _ _ _ _ g4 tr4 (.inl ⟨hg, D1, U1, ev1 _ _ (.done e), rfl, rfl, rfl⟩)
    by_cases e1 : room < szOf sized value
    · rw [decide_eq_true e1, if_pos rfl, if_pos rfl]
      exact bad (fun _ _ _ q => q) (by omega)
    · rw [decide_eq_false e1]
      refine o_isTrueOr (o_isCompare (o_loc ps.size (o_int fun _ => o_ltI (o_truthyBool ?_))))
      by_cases e2 : szOf sized value < 0
      · rw [decide_eq_true e2, if_pos rfl, if_pos rfl]
        exact bad (fun _ _ _ q => q) (by omega)
      · rw [decide_eq_false e2]
        exact o_isTrueOr0 (o_nil (good (by omega)))
  refine o_cons (o_assign (o_ifExp (o_isTrue (o_loc rfl (o_truthyBool ?_)))))
  have hcv : ∀ {Q : Value → Loc → FP → Prop} {m0 : Loc} {pos : Pos}, Q (.int value tv) m0 ([(L' + 3, og), (L' + 2, ov), (L' + 1, ok)] ++ fp) → Op prog w (A.deeper (envOfC "_law_put" f972.1.2.2 L' 972 (.ref 971))) g' L' E' (eval (.Name "value" pos) (env972 L')) Q m0 ([(L' + 3, og), (L' + 2, ov), (L' + 1, ok)] ++ fp) := fun hq => o_cell (show List.lookup _ _ = _ by rfl) (.tail _ (.head _)) hov hq
  cases sized with
  | true =>
    rw [if_pos rfl]
    refine o_nameCall (o_glob cx' (kn_size _) (o_callK cx' (kp_938' _) (o_argsCons (hcv (o_argsNil (size_spec cx' fun ts => o_store (tail ts)))))))
  | false =>
    rw [if_neg (by simp)]
    exact o_int fun ts => o_store (tail ts)
end
end Mine
end
section
open PySem PySem.W PySem.Calls PyProof.Rows
set_option Elab.async false
set_option maxRecDepth 100000
set_option linter.unusedVariables false
namespace Mine
section
variable {prog : Program} {w : World} {A : Around} {g base : Heap} {outer : List Env} {L : Addr} {E : Value → Heap → Prop} {m : Loc} {fp : FP} {n : Nat} {env env' : Env}
theorem o_pairsNil {pos : Pos} {Q : List (Value × Value) → Loc → FP → Prop} (h : Q [] m fp) : Op prog w A g L E (evalPairs (pairTrees [] [] env pos)) Q m fp :=
  Op.of fun s F N _ k => pairTrees_nil_walk (k _ s.heap s.toks m fp F N h)
theorem o_pairsCons {e v : PySem.Expr} {ks : List (Option PySem.Expr)} {vs : List PySem.Expr} {pos : Pos} {Q : List (Value × Value) → Loc → FP → Prop}
    (h : Op prog w A g L E (eval e env) (fun kv => Op prog w A g L E (eval v env) (fun vv => Op prog w A g L E (evalPairs (pairTrees ks vs env pos)) (fun ps => Q ((kv, vv) :: ps)))) m fp) :
    Op prog w A g L E (evalPairs (pairTrees (some e :: ks) (v :: vs) env pos)) Q m fp :=
  Op.of fun s F N _ k => evalPairs_cons (h.use F N fun kv _ _ _ _ F1 N1 q1 => wpAny_bind (q1.use F1 N1 fun vv _ _ _ _ F2 N2 q2 => wpAny_bind (wpAny_standAt (wpAny_pure (q2.use F2 N2 fun ps => k _)))))
theorem o_dictInt {keys : List (Option PySem.Expr)} {values : List PySem.Expr} {pos : Pos} {Q : Value → Loc → FP → Prop} (cx : Cx w base outer g L A env n) (hlit : intLits keys = true) (hall : keys.all (·.isSome) = true) (hl : keys.length = values.length) (h0 : keys ≠ []) (hlen : keys.length ≤ 15)
    (h : ∀ d o, (∀ p ∈ fp, p.1 < d) → (d == sysModules) = false → Op prog w A g L E (evalPairs (pairTrees keys values env' pos)) (fun vs m' fp' => (d, o) ∈ fp' ∧ allIntKeys vs = true ∧ ((intKeyPairs vs).map (·.1)).Nodup ∧ ∀ o', IsD prog w o' (intKeyPairs vs) → Q (.ref d) m' (put d o' fp')) m ((d, o) :: fp)) :
    Op prog w A g L E (eval (.Dict keys values pos) env') Q m fp :=
  Op.of fun s F N _ k => by
    obtain ⟨p, loose, mg, mb, T⟩ := cx.T
    refine kdn_int hlit F N T.nolimit hall hl h0 hlen fun d h' o F' N' lt lo hd => ?_
    refine (h d o lt lo).use (s := { s with heap := h' }) F' N' fun vs h2 t2 m2 fp2 F2 N2 ⟨q1, q2, q3, q4⟩ => ?_
    exact kdn_made_int (s := { s with heap := h2, toks := t2 }) F2 (Mine.News.sub N2 (put_sub q1)) put_updF hd q2 q3 fun h3 o' F3 N3 x => k _ h3 _ _ _ F3 N3 (q4 o' x)
theorem o_inTup {x c : Value} {xs : List PyData} {d : PyData} {Q : Value → Loc → FP → Prop} (cx : Cx w base outer g L A env n) (rc : Rd fp c (.tuple xs)) (rx : Rd fp x d) (hxs : PyData.canLayAll0 xs = true) (hd : d.canLay0 = true) (hdep : d.depth = 0)
    (h : Q (.bool (xs.any fun y => PyData.eqv y d)) m fp) : Op prog w A g L E (compareOp .In x c) Q m fp :=
  Op.of fun s F N _ k => let ⟨_, xa⟩ := rc.reads s.heap (fun p hp => (N p hp).1); let ⟨_, xb⟩ := rx.reads s.heap (fun p hp => (N p hp).1)
    PySem.SeqAt.in_tuple_reads xa xb hxs hd (by have := cx.units; rw [hdep]; simp only [cLine]; omega) (k _ s.heap s.toks m fp F N h)
end
end Mine
end
section
open PySem PySem.W PySem.Calls PyProof.Rows
set_option Elab.async false
set_option maxRecDepth 100000
set_option linter.unusedVariables false
namespace Mine
inductive Ans where
  | nil | int (n : Int) | bool (b : Bool) | pair (k v : Int) | missing | refused
def AVs : Ans → List Value → Prop
  | .nil, vs => vs = []
  | .int n, vs => ∃ t, vs = [.int n t]
  | .bool b, vs => vs = [.bool b]
  | .pair _ _, _ => False
  | .missing, vs => ∃ t, vs = [.str "missing" t]
  | .refused, vs => ∃ t, vs = [.str "refused" t]
inductive AnsIs : Ans → Value → FP → FP → Prop
  | flat {ans : Ans} {vs : List Value} {T : Addr} {fp0 : FP} : AVs ans vs → (∀ p ∈ fp0, p.1 < T) → AnsIs ans (.ref T) ((T, lstO vs) :: fp0) fp0
  | pair {k v : Int} {t1 t2 : Tok} {T T2 : Addr} {fp0 : FP} : (∀ p ∈ fp0, p.1 < T2) → T2 < T → AnsIs (.pair k v) (.ref T) ((T, lstO [.ref T2]) :: (T2, tupO [.int k t1, .int v t2]) :: fp0) fp0

def fits (ab : Ab) (value : Int) : Prop := 0 ≤ szOf ab.sized value ∧ szOf ab.sized value ≤ ab.room
def SetR (key value : Int) (ab ab' : Ab) : Prop := ∃ ab1 M', EvR key (szOf ab.sized value) ab ab1 ∧ ((key ∈ ab1.M.flatMap (·.2) ∧ TouchR key ab1.M M') ∨ (key ∉ ab1.M.flatMap (·.2) ∧ AddR key ab1.M M')) ∧ ab1.sized = ab.sized ∧ ab1.room = ab.room ∧ ab' = { ab1 with D := storedI ab1.D key value, M := M' }
def PutR (key value : Int) (good : Ans) (ab ab' : Ab) (ans : Ans) : Prop := (fits ab value ∧ SetR key value ab ab' ∧ ans = good) ∨ (¬ fits ab value ∧ ab' = ab ∧ ans = .refused)
def UseR (key : Int) (miss : Ans) (ab ab' : Ab) (ans : Ans) : Prop := (∃ v M', atI ab.D key = some v ∧ TouchR key ab.M M' ∧ ab' = { ab with M := M' } ∧ ans = .int v) ∨ (atI ab.D key = none ∧ ab' = ab ∧ ans = miss)
def TakeR (key : Int) (miss : Ans) (ab ab' : Ab) (ans : Ans) : Prop := (∃ v M1 M', atI ab.D key = some v ∧ TouchR key ab.M M1 ∧ DelR key M1 M' ∧ ab' = { ab with D := withoutI ab.D key, M := M' } ∧ ans = .int v) ∨ (atI ab.D key = none ∧ ab' = ab ∧ ans = miss)
def DeedR (deed key value : Int) (ab ab' : Ab) (ans : Ans) : Prop :=
  if deed < 2 then PutR key value .nil ab ab' ans
  else if deed = 2 then UseR key .missing ab ab' ans
  else if deed = 3 then ab' = ab ∧ ans = .bool (atI ab.D key).isSome
  else if deed = 4 then UseR key (.int (-7)) ab ab' ans
  else if deed = 5 then TakeR key (.int (-8)) ab ab' ans
  else if deed = 6 then (if (atI ab.D key).isSome then UseR key .missing ab ab' ans else PutR key value (.int value) ab ab' ans)
  else if deed = 7 then (∃ v M', atI ab.D key = some v ∧ DelR key ab.M M' ∧ ab' = { ab with D := withoutI ab.D key, M := M' } ∧ ans = .nil) ∨ (atI ab.D key = none ∧ ab' = ab ∧ ans = .missing)
  else if deed = 8 then (∃ c k ks r v M', ab.M = (c, k :: ks) :: r ∧ atI ab.D k = some v ∧ DelR k ab.M M' ∧ ab' = { ab with D := withoutI ab.D k, M := M' } ∧ ans = .pair k v) ∨ (ab.M = [] ∧ ab' = ab ∧ ans = .missing)
  else if value % 4 = 0 then ab' = { ab with D := [], M := [] } ∧ ans = .nil
  else TakeR key .missing ab ab' ans

section
variable {deed key value : Int} {ab ab' : Ab} {ans : Ans}
theorem dr1 (d : deed < 2) : DeedR deed key value ab ab' ans = PutR key value .nil ab ab' ans := if_pos d
theorem dr2 (d : deed = 2) : DeedR deed key value ab ab' ans = UseR key .missing ab ab' ans := by subst d; rfl
theorem dr3 (d : deed = 3) : DeedR deed key value ab ab' ans = (ab' = ab ∧ ans = .bool (atI ab.D key).isSome) := by subst d; rfl
theorem dr4 (d : deed = 4) : DeedR deed key value ab ab' ans = UseR key (.int (-7)) ab ab' ans := by subst d; rfl
theorem dr5 (d : deed = 5) : DeedR deed key value ab ab' ans = TakeR key (.int (-8)) ab ab' ans := by subst d; rfl
theorem dr6 (d : deed = 6) : DeedR deed key value ab ab' ans = (if (atI ab.D key).isSome then UseR key .missing ab ab' ans else PutR key value (.int value) ab ab' ans) := by subst d; rfl
theorem dr7 (d : deed = 7) : DeedR deed key value ab ab' ans = ((∃ v M', atI ab.D key = some v ∧ DelR key ab.M M' ∧ ab' = { ab with D := withoutI ab.D key, M := M' } ∧ ans = .nil) ∨ (atI ab.D key = none ∧ ab' = ab ∧ ans = .missing)) := by subst d; rfl
theorem dr8 (d : deed = 8) : DeedR deed key value ab ab' ans = ((∃ c k ks r v M', ab.M = (c, k :: ks) :: r ∧ atI ab.D k = some v ∧ DelR k ab.M M' ∧ ab' = { ab with D := withoutI ab.D k, M := M' } ∧ ans = .pair k v) ∨ (ab.M = [] ∧ ab' = ab ∧ ans = .missing)) := by subst d; rfl
theorem dr9 (d1 : ¬ deed < 2) (d2 : ¬ deed = 2) (d3 : ¬ deed = 3) (d4 : ¬ deed = 4) (d5 : ¬ deed = 5) (d6 : ¬ deed = 6) (d7 : ¬ deed = 7) (d8 : ¬ deed = 8) : DeedR deed key value ab ab' ans = (if value % 4 = 0 then ab' = { ab with D := [], M := [] } ∧ ans = .nil else TakeR key .missing ab ab' ans) := by
  unfold DeedR; rw [if_neg d1, if_neg d2, if_neg d3, if_neg d4, if_neg d5, if_neg d6, if_neg d7, if_neg d8]
end

/-- what a deed leaves behind -/
def DeedQ (prog : Program) (w : World) (st : St) (rest : FP) (rt : Nd) (ab : Ab) (deed key value : Int) (v : Value) (fp' : FP) : Prop :=
  ∃ st' ch' ab' ans, Same st' st ∧ WF st' rest ∧ CI prog w st' ab' (roomOf ab'.sized ab'.D) rt ch' ∧ DeedR deed key value ab ab' ans ∧ AnsIs ans v fp' (objs st' ++ rest)

def tryOf : Stmt → List Stmt
  | .Try b _ _ _ _ => b
  | _ => []
section
variable (P : Params)
theorem kl_979 : (K P).lookup 979 = some o979 := by kernel_rfl
theorem kc_979 : codeIn (K P) (.ref 978) "_law_deed" = true := by kernel_rfl
theorem kf_get : findIn (K P) (.ref 929) "get" = some (some (.ref 778)) := by kernel_rfl
theorem kfn_778 : isFn (K P) (.ref 778) = true := by kernel_rfl
theorem kp_778 : keepIn (K P) (.ref 778) = true := by kernel_rfl
theorem kf_pop : findIn (K P) (.ref 929) "pop" = some (some (.ref 786)) := by kernel_rfl
theorem kfn_786 : isFn (K P) (.ref 786) = true := by kernel_rfl
theorem kp_786 : keepIn (K P) (.ref 786) = true := by kernel_rfl
theorem kf_setdef : findIn (K P) (.ref 929) "setdefault" = some (some (.ref 794)) := by kernel_rfl
theorem kfn_794 : isFn (K P) (.ref 794) = true := by kernel_rfl
theorem kp_794 : keepIn (K P) (.ref 794) = true := by kernel_rfl
theorem kf_clear : findIn (K P) (.ref 929) "clear" = some (some (.ref 919)) := by kernel_rfl
theorem kfn_919 : isFn (K P) (.ref 919) = true := by kernel_rfl
theorem kp_919 : keepIn (K P) (.ref 919) = true := by kernel_rfl
end
noncomputable abbrev env979 (L : Addr) : Env := envX "_law_deed" f979.1.2.2 L 979 (.ref 978) []
theorem AOK.mem {ab : Ab} (a : AOK ab) {k v : Int} (h : atI ab.D k = some v) : k ∈ ab.M.flatMap (·.2) := a.perm.mem_iff.mpr (atI_mem.mp (by rw [h]; rfl))

section
variable {prog : Program} {w : World} {A : Around} {g base : Heap} {outer : List Env} {L : Addr} {E : Value → Heap → Prop} {m : Loc} {n : Nat} {env : Env} {st : St} {rest : FP} {ab : Ab} {rt : Nd} {ch : List Nd} {deed key value : Int} {t td tv : Tok}

theorem o_neg {a : Int} {u : Tok} {fp : FP} {Q : Value → Loc → FP → Prop} (h : ∀ r, Q (.int (-a) r) m fp) : Op prog w A g L E (unaryOp .USub (.int a u)) Q m fp :=
  Op.of fun s F N _ kk => PyProof.Rows.neg_int (kk _ s.heap (s.toks + 1) m fp F N (h _))
/-- the suite of _law_deed's try -/
theorem deed_try (cx : Cx w base outer g L A (env979 L) (n + 9)) (hw : WF st rest) (ci : CI prog w st ab (roomOf ab.sized ab.D) rt ch) (aok : AOK ab) (hcur : roomOf ab.sized ab.D ≤ ab.room)
    (h1 : m "cache" = some (.ref st.c)) (h2 : m "deed" = some (.int deed td)) (h3 : m "key" = some (.int key t)) (h4 : m "value" = some (.int value tv))
    (hK : DeedR deed key value ab ab .missing → ∀ e h', XC base (env979 L) outer g L "KeyError" (objs st ++ rest) (fun m' => m' = m) e h' → E e h')
    (hV : DeedR deed key value ab ab .refused → ∀ e h', XC base (env979 L) outer g L "ValueError" (objs st ++ rest) (fun m' => m' = m) e h' → E e h') :
    Op prog w A g L E (execs (tryOf (nth f979.1.2.1 0)) (env979 L)) (fun fl _ fp' => DeedQ prog w st rest rt ab deed key value (retOf fl) fp') m (objs st ++ rest) := by
  refine o_cons (o_if (o_isCompare (o_loc h2 (o_int fun _ => o_ltI (o_truthyBool ?_)))))
  by_cases d1 : deed < 2
  · rw [if_pos (by simpa using d1)]
    by_cases hf : fits ab value
    · refine o_cons (o_assignSub (o_loc h4 (o_loc h1 (o_loc h3 (c_set cx hw ci aok hf.1 hf.2 hcur fun st' ch' ab1 M' a b c d e f g => ?_)))))
      refine o_cons (o_ret (o_list (o_argsNil ⟨by simp, fun T lt => ?_⟩)))
      exact ⟨st', ch', _, .nil, a, b, g, by rw [dr1 d1]; exact .inl ⟨hf, ⟨ab1, M', c, d, e, f, rfl⟩, rfl⟩, .flat rfl lt⟩
    · have hr : szOf ab.sized value > ab.room ∨ szOf ab.sized value < 0 := by
        unfold fits at hf; omega
      exact o_cons (o_assignSub (o_loc h4 (o_loc h1 (o_loc h3 (c_refuse cx ci hr (hV (by rw [dr1 d1]; exact .inr ⟨hf, rfl, rfl⟩)))))))
  rw [if_neg (by simpa using d1)]
  refine o_nil ?_
  refine o_cons (o_if (o_isCompare (o_loc h2 (o_int fun _ => o_eqI (o_truthyBool ?_)))))
  by_cases d2 : deed = 2
  · rw [if_pos (by simpa using d2)]
    cases hat : atI ab.D key with
    | some v =>
      refine o_cons (o_ret (o_list (o_argsCons (o_subscript (o_loc h1 (o_loc h3 (c_sub cx hw ci aok.mok hat (aok.mem hat) fun st' ch' M' tk a b c d => o_argsNil ⟨by simp, fun T lt => ?_⟩)))))))
      exact ⟨st', ch', _, .int v, a, b, c, by rw [dr2 d2]; exact .inl ⟨v, M', hat, d, rfl, rfl⟩, .flat ⟨tk, rfl⟩ lt⟩
    | none =>
      exact o_cons (o_ret (o_list (o_argsCons (o_subscript (o_loc h1 (o_loc h3 (c_subMiss cx ci hat (hK (by rw [dr2 d2]; exact .inr ⟨hat, rfl, rfl⟩)))))))))
  rw [if_neg (by simpa using d2)]
  refine o_nil ?_
  refine o_cons (o_if (o_isCompare (o_loc h2 (o_int fun _ => o_eqI (o_truthyBool ?_)))))
  by_cases d3 : deed = 3
  · rw [if_pos (by simpa using d3)]
    refine o_cons (o_ret (o_list (o_argsCons (o_compare (o_loc h3 (o_loc h1 (c_in cx ci (o_argsNil ⟨by simp, fun T lt => ?_⟩))))))))
    exact ⟨st, ch, ab, .bool (atI ab.D key).isSome, ⟨rfl, rfl, rfl⟩, hw, ci, by rw [dr3 d3]; exact ⟨rfl, rfl⟩, .flat rfl lt⟩
  rw [if_neg (by simpa using d3)]
  refine o_nil ?_
  refine o_cons (o_if (o_isCompare (o_loc h2 (o_int fun _ => o_eqI (o_truthyBool ?_)))))
  by_cases d4 : deed = 4
  · rw [if_pos (by simpa using d4)]
    refine o_cons (o_ret (o_list (o_argsCons (o_methodCall _ (o_loc h1 (c_meth cx ci (kf_get _) (kfn_778 _) (fun _ _ _ _ _ _ _ _ => rfl) (o_callK cx (kp_778 _) (o_argsCons (o_loc h3 (o_argsCons (o_unary (o_int fun _ => o_neg fun _ => o_argsNil ?_))))))))))))
    cases hat : atI ab.D key with
    | some v =>
      refine cget2_spec cx hw ci aok.mok hat (aok.mem hat) fun st' ch' M' tk a b c d => o_argsNil ⟨by simp, fun T lt => ?_⟩
      exact ⟨st', ch', _, .int v, a, b, c, by rw [dr4 d4]; exact .inl ⟨v, M', hat, d, rfl, rfl⟩, .flat ⟨tk, rfl⟩ lt⟩
    | none =>
      refine cget2Miss_spec cx ci hat (o_argsNil ⟨by simp, fun T lt => ?_⟩)
      exact ⟨st, ch, ab, .int (-7), ⟨rfl, rfl, rfl⟩, hw, ci, by rw [dr4 d4]; exact .inr ⟨hat, rfl, rfl⟩, .flat ⟨_, rfl⟩ lt⟩
  rw [if_neg (by simpa using d4)]
  refine o_nil ?_
  refine o_cons (o_if (o_isCompare (o_loc h2 (o_int fun _ => o_eqI (o_truthyBool ?_)))))
  by_cases d5 : deed = 5
  · rw [if_pos (by simpa using d5)]
    refine o_cons (o_ret (o_list (o_argsCons (o_methodCall _ (o_loc h1 (c_meth cx ci (kf_pop _) (kfn_786 _) (fun _ _ _ _ _ _ _ _ => rfl) (o_callK cx (kp_786 _) (o_argsCons (o_loc h3 (o_argsCons (o_unary (o_int fun _ => o_neg fun _ => o_argsNil ?_))))))))))))
    cases hat : atI ab.D key with
    | some v =>
      refine cpop_spec cx hw ci aok.mok aok.dok hat (aok.mem hat) (.inl rfl) fun st' ch' M1 M' tk a b c d e => o_argsNil ⟨by simp, fun T lt => ?_⟩
      exact ⟨st', ch', _, .int v, a, b, by rw [← roomOf_without aok.dok.keys hat] at e; exact e, by rw [dr5 d5]; exact .inl ⟨v, M1, M', hat, c, d, rfl, rfl⟩, .flat ⟨tk, rfl⟩ lt⟩
    | none =>
      refine cpopDef_spec cx ci hat (o_argsNil ⟨by simp, fun T lt => ?_⟩)
      exact ⟨st, ch, ab, .int (-8), ⟨rfl, rfl, rfl⟩, hw, ci, by rw [dr5 d5]; exact .inr ⟨hat, rfl, rfl⟩, .flat ⟨_, rfl⟩ lt⟩
  rw [if_neg (by simpa using d5)]
  refine o_nil ?_
  refine o_cons (o_if (o_isCompare (o_loc h2 (o_int fun _ => o_eqI (o_truthyBool ?_)))))
  by_cases d6 : deed = 6
  · rw [if_pos (by simpa using d6)]
    refine o_cons (o_ret (o_list (o_argsCons (o_methodCall _ (o_loc h1 (c_meth cx ci (kf_setdef _) (kfn_794 _) (fun _ _ _ _ _ _ _ _ => rfl) (o_callK cx (kp_794 _) (o_argsCons (o_loc h3 (o_argsCons (o_loc h4 (o_argsNil ?_))))))))))))
    cases hat : atI ab.D key with
    | some v =>
      refine cdefFound_spec cx hw ci aok.mok hat (aok.mem hat) fun st' ch' M' tk a b c d => o_argsNil ⟨by simp, fun T lt => ?_⟩
      exact ⟨st', ch', _, .int v, a, b, c, by rw [dr6 d6, if_pos (by rw [hat]; rfl)]; exact .inl ⟨v, M', hat, d, rfl, rfl⟩, .flat ⟨tk, rfl⟩ lt⟩
    | none =>
      by_cases hf : fits ab value
      · refine cdefSet_spec cx hw ci aok hat hf.1 hf.2 hcur fun st' ch' ab1 M' a b c d e f g => o_argsNil ⟨by simp, fun T lt => ?_⟩
        exact ⟨st', ch', _, .int value, a, b, g, by rw [dr6 d6, if_neg (by rw [hat]; simp)]; exact .inl ⟨hf, ⟨ab1, M', c, d, e, f, rfl⟩, rfl⟩, .flat ⟨tv, rfl⟩ lt⟩
      · have hr : szOf ab.sized value > ab.room ∨ szOf ab.sized value < 0 := by
          unfold fits at hf; omega
        exact cdefRefuse_spec cx ci hat hr (hV (by rw [dr6 d6, if_neg (by rw [hat]; simp)]; exact .inr ⟨hf, rfl, rfl⟩))
  rw [if_neg (by simpa using d6)]
  refine o_nil ?_
  refine o_cons (o_if (o_isCompare (o_loc h2 (o_int fun _ => o_eqI (o_truthyBool ?_)))))
  by_cases d7 : deed = 7
  · rw [if_pos (by simpa using d7)]
    cases hat : atI ab.D key with
    | some v =>
      refine o_cons (o_delSub (o_loc h1 (o_loc h3 (c_del cx hw ci aok.mok aok.dok hat (aok.mem hat) fun st' ch' M' a b c d => ?_))))
      refine o_cons (o_ret (o_list (o_argsNil ⟨by simp, fun T lt => ?_⟩)))
      exact ⟨st', ch', _, .nil, a, b, by rw [← roomOf_without aok.dok.keys hat] at c; exact c, by rw [dr7 d7]; exact .inl ⟨v, M', hat, d, rfl, rfl⟩, .flat rfl lt⟩
    | none =>
      exact o_cons (o_delSub (o_loc h1 (o_loc h3 (o_delItemInst cx m_c m_dc (kf_noSeq _) (kf_del _) (kfn_905 _) (ldelMiss_spec cx ci hat (hK (by rw [dr7 d7]; exact .inr ⟨hat, rfl, rfl⟩)))))))
  rw [if_neg (by simpa using d7)]
  refine o_nil ?_
  refine o_cons (o_if (o_isCompare (o_loc h2 (o_int fun _ => o_eqI (o_truthyBool ?_)))))
  by_cases d8 : deed = 8
  · rw [if_pos (by simpa using d8)]
    refine o_cons (o_ret (o_list (o_argsCons (o_methodCall _ (o_loc h1 (c_meth cx ci (kf_popitem _) (kfn_912 _) (fun _ _ _ _ _ _ _ _ => rfl) (o_callK0 cx (kp_912 _) ?_)))))))
    cases hM : ab.M with
    | nil => exact lpopEmpty_spec cx ci hM (hK (by rw [dr8 d8]; exact .inr ⟨hM, rfl, rfl⟩))
    | cons gr r =>
      obtain ⟨c, ks⟩ := gr
      cases ks with
      | nil => exact absurd rfl (aok.mok.full (c, []) (by rw [hM]; exact .head _))
      | cons k ks =>
        have hk : k ∈ ab.D.map (·.1) := aok.perm.mem_iff.mp (by rw [hM]; simp)
        obtain ⟨v, hv⟩ := Option.isSome_iff_exists.mp (atI_mem.mpr hk)
        refine lpop_spec cx hw ci aok.mok aok.dok hM hv fun st' ch' M' T2 t1 t2 a b e d lt2 => o_argsNil ⟨by simp, fun T lt => ?_⟩
        exact ⟨st', ch', _, .pair k v, a, b, by rw [← roomOf_without aok.dok.keys hv] at e; exact e, by rw [dr8 d8]; exact .inl ⟨c, k, ks, r, v, M', hM, hv, d, rfl, rfl⟩, .pair lt2 (lt _ (.head _))⟩
  rw [if_neg (by simpa using d8)]
  refine o_nil ?_
  refine o_cons (o_if (o_isCompare (o_binop (o_loc h4 (o_int fun _ => o_mod (by decide) fun _ => o_int fun _ => o_eqI (o_truthyBool ?_))))))
  by_cases d9 : value % 4 = 0
  · rw [if_pos (by simpa using d9)]
    refine o_cons (o_exprStmt (o_methodCall _ (o_loc h1 (c_meth cx ci (kf_clear _) (kfn_919 _) (fun _ _ _ _ _ _ _ _ => rfl) (o_callK0 cx (kp_919 _) (lclear_spec cx hw ci aok.mok aok.dok fun st' a b c => ?_))))))
    refine o_cons (o_ret (o_list (o_argsNil ⟨by simp, fun T lt => ?_⟩)))
    exact ⟨st', [], _, .nil, a, b, c, by rw [dr9 d1 d2 d3 d4 d5 d6 d7 d8, if_pos d9]; exact ⟨rfl, rfl⟩, .flat rfl lt⟩
  rw [if_neg (by simpa using d9)]
  refine o_nil ?_
  refine o_cons (o_ret (o_list (o_argsCons (o_methodCall _ (o_loc h1 (c_meth cx ci (kf_pop _) (kfn_786 _) (fun _ _ _ _ _ _ _ _ => rfl) (o_callK cx (kp_786 _) (o_argsCons (o_loc h3 (o_argsNil ?_))))))))))
  cases hat : atI ab.D key with
  | some v =>
    refine cpop_spec (d := .none) cx hw ci aok.mok aok.dok hat (aok.mem hat) (.inr rfl) fun st' ch' M1 M' tk a b c d e => o_argsNil ⟨by simp, fun T lt => ?_⟩
    exact ⟨st', ch', _, .int v, a, b, by rw [← roomOf_without aok.dok.keys hat] at e; exact e, by rw [dr9 d1 d2 d3 d4 d5 d6 d7 d8, if_neg d9]; exact .inl ⟨v, M1, M', hat, c, d, rfl, rfl⟩, .flat ⟨tk, rfl⟩ lt⟩
  | none => exact cpopMiss_spec cx ci hat (hK (by rw [dr9 d1 d2 d3 d4 d5 d6 d7 d8, if_neg d9]; exact .inr ⟨hat, rfl, rfl⟩))
end
end Mine
end
section
open PySem PySem.W PySem.Calls PyProof.Rows
set_option Elab.async false
set_option maxRecDepth 100000
set_option linter.unusedVariables false
namespace Mine
theorem AnsIs.ref {ans : Ans} {v : Value} {fp' fp0 : FP} (x : AnsIs ans v fp' fp0) : ∃ T, v = .ref T := by cases x <;> exact ⟨_, rfl⟩
section
variable {prog : Program} {w : World} {A : Around} {g : Heap} {L : Addr} {E : Value → Heap → Prop} {m : Loc} {n : Nat} {env : Env} {st : St} {rest : FP} {ab : Ab} {rt : Nd} {ch : List Nd} {deed key value : Int} {t td tv : Tok}

theorem deed_spec {Q : Value → Loc → FP → Prop} (cx : Cx w g [] g L A env (n + 10)) (hw : WF st rest) (ci : CI prog w st ab (roomOf ab.sized ab.D) rt ch) (aok : AOK ab) (hcur : roomOf ab.sized ab.D ≤ ab.room)
    (h : ∀ v fp', DeedQ prog w st rest rt ab deed key value v fp' → Q v m fp') :
    Op prog w A g L E (call (.ref 979) [.ref st.c, .int deed td, .int key t, .int value tv]) Q m (objs st ++ rest) := by
  refine .intro fun s F N => ?_
  obtain ⟨A₀, B⟩ := cx.B
  obtain ⟨p, loose, mg, mb, T⟩ := cx.T
  have X := cx.X.keeps F.keep
  refine wpAny_call (callX_turn (scope := f979.1.2.2) B F N T.nolimit cx.hA cx.hf cx.hke (X _ _ (kl_979 _)) rfl (codeRec_of X (kc_979 _)) (by have := cx.depth; simp only [recursionLimit]; omega) (BindsTo.of_eq rfl) (locs rfl) (fun g' L' h₁ FG F' N' B' sti lt => ?_) (by decide))
  have cx' : Cx w g [env] g' L' (A.deeper (env979 L')) (env979 L') (n + 9) := ⟨cx.X.keeps sti, ⟨p, loose, mg, mb, T.keeps sti⟩, ⟨A, B'⟩, Around.frames_deeper cx.hA, rfl, rfl, by have := cx.depth; show A.depth + 1 + (n + 9) ≤ 600; omega, by have := cx.units; show A.units + 3 + 20 * (n + 9) ≤ 6000; omega, cx.handled, cx.XB, cx.TB⟩
  have efr : [env].filterMap (·.frame) = [L] := by simp [cx.hf]
  have tr : ∀ m0 : Loc, m0 "cache" = some (.ref st.c) → m0 "deed" = some (.int deed td) → m0 "key" = some (.int key t) → m0 "value" = some (.int value tv) →
      Op prog w (A.deeper (env979 L')) g' L' (fun e h' => (DeedR deed key value ab ab .missing ∧ XC g (env979 L') [env] g' L' "KeyError" (objs st ++ rest) (fun m' => m' = m0) e h') ∨ (DeedR deed key value ab ab .refused ∧ XC g (env979 L') [env] g' L' "ValueError" (objs st ++ rest) (fun m' => m' = m0) e h'))
        (execs (tryOf (nth f979.1.2.1 0)) (env979 L')) (fun fl _ fp' => DeedQ prog w st rest rt ab deed key value (retOf fl) fp') m0 (objs st ++ rest) := fun m0 a b c d =>
    deed_try cx' hw ci aok hcur a b c d (fun a e h' x => .inl ⟨a, x⟩) (fun a e h' x => .inr ⟨a, x⟩)
  have KB : Below A g [env] g' := ⟨cx.hA, B'.stays, B'.frames⟩
  have fin : ∀ (R : Result → Shared → Prop) (s1 : Shared) (g2 : Heap) (m0 : Loc) (fl : Flow) (h' : Heap) (t' : Nat) (fp' : FP), (∀ v h' t' fp', Fr g L h' m → News g L h' fp' → Q v m fp' → R (.ok (.ret v)) { s with heap := h', toks := t' }) → KtsTurn [L] g' g2 → Fr g2 L' h' m0 → News g2 L' h' fp' →
      DeedQ prog w st rest rt ab deed key value (retOf fl) fp' → LeaveT g L m g' R (match fl with | .ret v => v | _ => .none) { s with heap := h', toks := t' } := by
    intro R s1 g2 m0 fl h' t' fp' hR T2 F2 N2 q
    cases fl with
    | ret v => exact ⟨g2, L', m0, fp', T2, F2, N2, fun F4 N4 => hR v h' t' fp' F4 N4 (h _ _ q)⟩
    | next => obtain ⟨_, _, _, _, _, _, _, _, x⟩ := q; obtain ⟨_, e⟩ := x.ref; cases e
    | brk => obtain ⟨_, _, _, _, _, _, _, _, x⟩ := q; obtain ⟨_, e⟩ := x.ref; cases e
    | cont => obtain ⟨_, _, _, _, _, _, _, _, x⟩ := q; obtain ⟨_, e⟩ := x.ref; cases e
  have suite : ∀ (ans : Ans) (word : Str) (a : Addr) (m0 : Loc) (g2 : Heap) (pos1 pos2 pos3 : Pos) (kk : Nat), (∀ t, AVs ans [.str word t]) → DeedR deed key value ab ab ans →
      Op prog w ((A.deeper (env979 L')).mark (some (.ref a))) g2 L' (fun _ _ => False) (execs [.Return (some (.List [.Constant (.str word) kk pos1] pos2)) pos3] (env979 L')) (fun fl _ fp' => DeedQ prog w st rest rt ab deed key value (retOf fl) fp') m0 (objs st ++ rest) :=
    fun ans word a m0 g2 pos1 pos2 pos3 kk hav hdr =>
      o_cons (o_ret (o_list (o_argsCons (o_str fun t => o_argsNil ⟨by simp, fun T lt => ⟨st, ch, ab, ans, ⟨rfl, rfl, rfl⟩, hw, ci, hdr, .flat (hav t) lt⟩⟩))))
  refine wpAny_execs_cons (wpAny_Try_except (wpAny_mono ((tr _ rfl rfl rfl rfl).run _ F' N') (fun fl s' ⟨h', t', m', fp', es, F3, N3, q⟩ => ?_) fun e s' ⟨h', t', es, hx⟩ => ?_))
  · subst es
    have z := fun R hR => fin R s g' m' fl h' t' fp' hR (efr ▸ KtsTurn.refl) F3 N3 q
    cases fl with
    | ret v => exact z _ fun v h' t' fp' F N q => ⟨h', t', m, fp', rfl, F, N, q⟩
    | next => obtain ⟨_, _, _, _, _, _, _, _, x⟩ := q; obtain ⟨_, e⟩ := x.ref; cases e
    | brk => exact z _ fun v h' t' fp' F N q => ⟨h', t', m, fp', rfl, F, N, q⟩
    | cont => exact z _ fun v h' t' fp' F N q => ⟨h', t', m, fp', rfl, F, N, q⟩
  · subst es
    rcases hx with ⟨hd, hx⟩ | ⟨hd, hx⟩
    · refine XC.see (s := { s with heap := h', toks := t' }) KB hx rfl fun a h1 ea sn => ?_
      subst ea
      refine Seen.flight (s := { s with heap := h1, toks := t' }) sn fun h2 sn2 => ?_
      refine seen_clause (s := { s with heap := h2, toks := t' }) (b := true) sn2 KB cx.XB cx.TB (kn_KeyError _) rfl (by decide) kr_isExc_KeyError kr_notTuple_KeyError subKeyKey ?_
      rw [if_pos rfl]
      intro h3 g3 T3 F3 N3
      rw [efr] at T3
      refine wpAny_mono (Op.run (suite .missing "missing" a _ g3 _ _ _ _ (fun t => ⟨t, rfl⟩) hd) { s with heap := h3, toks := t' } F3 N3) (fun fl s' ⟨h', t', m', fp', es, F4, N4, q⟩ => ?_) fun _ _ ⟨_, _, _, z⟩ => z
      subst es
      have z := fun R hR => fin R s g3 m' fl h' t' fp' hR T3 F4 N4 q
      cases fl with
      | ret v => exact z _ fun v h' t' fp' F N q => ⟨h', t', m, fp', rfl, F, N, q⟩
      | next => obtain ⟨_, _, _, _, _, _, _, _, x⟩ := q; obtain ⟨_, e⟩ := x.ref; cases e
      | brk => exact z _ fun v h' t' fp' F N q => ⟨h', t', m, fp', rfl, F, N, q⟩
      | cont => exact z _ fun v h' t' fp' F N q => ⟨h', t', m, fp', rfl, F, N, q⟩
    · refine XC.see (s := { s with heap := h', toks := t' }) KB hx rfl fun a h1 ea sn => ?_
      subst ea
      refine Seen.flight (s := { s with heap := h1, toks := t' }) sn fun h2 sn2 => ?_
      refine seen_clause (s := { s with heap := h2, toks := t' }) (b := false) sn2 KB cx.XB cx.TB (kn_KeyError _) rfl (by decide) kr_isExc_KeyError kr_notTuple_KeyError subKV ?_
      rw [if_neg (by simp)]
      refine seen_clause (s := { s with heap := h2, toks := t' }) (b := true) sn2 KB cx.XB cx.TB (kn_ValueError _) rfl (by decide) isExcV notTupV subVV ?_
      rw [if_pos rfl]
      intro h3 g3 T3 F3 N3
      rw [efr] at T3
      refine wpAny_mono (Op.run (suite .refused "refused" a _ g3 _ _ _ _ (fun t => ⟨t, rfl⟩) hd) { s with heap := h3, toks := t' } F3 N3) (fun fl s' ⟨h', t', m', fp', es, F4, N4, q⟩ => ?_) fun _ _ ⟨_, _, _, z⟩ => z
      subst es
      have z := fun R hR => fin R s g3 m' fl h' t' fp' hR T3 F4 N4 q
      cases fl with
      | ret v => exact z _ fun v h' t' fp' F N q => ⟨h', t', m, fp', rfl, F, N, q⟩
      | next => obtain ⟨_, _, _, _, _, _, _, _, x⟩ := q; obtain ⟨_, e⟩ := x.ref; cases e
      | brk => exact z _ fun v h' t' fp' F N q => ⟨h', t', m, fp', rfl, F, N, q⟩
      | cont => exact z _ fun v h' t' fp' F N q => ⟨h', t', m, fp', rfl, F, N, q⟩
end
end Mine
end
section
open PySem PySem.W PySem.Calls PyProof.Rows
set_option Elab.async false
set_option maxRecDepth 100000
set_option linter.unusedVariables false
namespace Mine
section
variable (P : Params)
theorem kl_984 : (K P).lookup 984 = some o984 := by kernel_rfl
theorem kc_984 : codeIn (K P) (.ref 983) "_law_due" = true := by kernel_rfl
theorem kn_due : nsIn (K P) mainGlobals "_law_due" = some (some (.ref 984)) := by kernel_rfl
theorem kp_984 : keepIn (K P) (.ref 984) = true := by kernel_rfl
end
noncomputable abbrev env984 (L : Addr) : Env := envX "_law_due" f984.1.2.2 L 984 (.ref 983) (cellsFrom (L + 1) f984.1.2.2.names [])
def useD (u : Use) : PyData := .tuple [.int u.name, .int u.count, .int u.since]
def usesD (U : List Use) : PyData := .list (U.map useD)
theorem rdAll_uses {fp : FP} {vs : List Value} {U : List Use} (h : All2 (UseAt fp) vs U) : RdAll fp vs (U.map useD) := by
  induction h with
  | nil => exact .nil
  | cons r _ ih =>
    obtain ⟨a, t1, t2, t3, rfl, hm⟩ := r
    exact .cons (.tup hm (.cons .int (.cons .int (.cons .int .nil)))) ih
theorem rd_uses {fp : FP} {v : Value} {U : List Use} (h : UsesAt fp v U) : Rd fp v (usesD U) := by
  obtain ⟨P, oP, vs, rfl, hm, ho, ha⟩ := h
  exact .list hm ho (rdAll_uses ha)
theorem canLay_uses : ∀ U : List Use, PyData.canLayAll0 (U.map useD) = true
  | [] => by simp [PyData.canLayAll0]
  | u :: U => by simp [PyData.canLayAll0, PyData.canLay0, useD, canLay_uses U]
theorem depth_uses : ∀ U : List Use, PyData.depthAll (U.map useD) ≤ 1
  | [] => by simp [PyData.depthAll]
  | u :: U => by
    have := depth_uses U
    simp only [List.map_cons, PyData.depthAll, PyData.depth, useD]
    omega
theorem shaped_uses (U : List Use) : SeqAt.shaped (usesD U) = true := by
  have h1 := depth_uses U
  have h2 : PyData.depth (usesD U) ≤ 64 := by unfold usesD; simp only [PyData.depth]; omega
  show (PyData.canLay0 (usesD U) && decide (PyData.depth (usesD U) ≤ 64)) = true
  rw [Bool.and_eq_true]
  exact ⟨by unfold usesD; simp only [PyData.canLay0]; exact canLay_uses U, decide_eq_true h2⟩
theorem eqv_uses_nil (U : List Use) : PyData.eqv (usesD U) (.list []) = U.isEmpty := by
  unfold usesD; cases U <;> simp [PyData.eqv, PyData.eqvAll]
def missU (deed : Int) : PyData := if deed = 4 then .list [.int (-7)] else if deed = 5 then .list [.int (-8)] else .list [.str "missing"]
/-- what the table answers -/
def DueU (sized : Bool) (room deed key value at_ : Int) (D : List (Int × Int)) (U : List Use) (ans : PyData) (D' : List (Int × Int)) (U' : List Use) : Prop :=
  if deed < 2 ∨ (deed = 6 ∧ atI D key = none) then ∃ a, PutU sized room key value at_ D U a D' U' ∧ ((a = .list [] ∧ ans = if deed = 6 then .list [.int value] else .list []) ∨ (a = .list [.str "refused"] ∧ ans = a))
  else if deed = 3 then ans = .list [.bool (atI D key).isSome] ∧ D' = D ∧ U' = U
  else if deed = 8 then (U = [] ∧ ans = .list [.str "missing"] ∧ D' = D ∧ U' = U) ∨ (U ≠ [] ∧ ∃ v, atI D (leastU U) = some v ∧ ans = .list [.tuple [.int (leastU U), .int v]] ∧ D' = withoutI D (leastU U) ∧ U' = outU U (leastU U))
  else if deed = 9 ∧ value % 4 = 0 then ans = .list [] ∧ D' = [] ∧ U' = []
  else (atI D key = none ∧ ans = missU deed ∧ D' = D ∧ U' = U) ∨ (∃ v, atI D key = some v ∧
    if deed = 5 ∨ deed = 7 ∨ deed = 9 then ans = (if deed = 7 then .list [] else .list [.int v]) ∧ D' = withoutI D key ∧ U' = outU U key else ans = .list [.int v] ∧ D' = D ∧ U' = countedU U key at_)
structure DueSt (fp fp1 : FP) (ck cg : Addr) (ok : Obj) (room deed key value at_ : Int) (sized : Bool) (tr td tv ta : Tok) (m1 : Loc) (D1 : List (Int × Int)) (U1 : List Use) : Prop where
  gr : Grow fp fp1
  co : CellOnly cg fp1
  gone : ∃ og x, (cg, og) ∈ fp1 ∧ og.data = .cell x
  hk : (ck, ok) ∈ fp1
  P : ∃ vP, m1 "pairs" = some vP ∧ PairsAt fp1 vP D1
  U : ∃ vU, m1 "uses" = some vU ∧ UsesAt fp1 vU U1
  held : ∃ vH, m1 "held" = some vH ∧ IntsAt fp1 vH (atI D1 key).toList
  room : m1 "room" = some (.int room tr)
  sized : m1 "sized" = some (.bool sized)
  deed : m1 "deed" = some (.int deed td)
  value : m1 "value" = some (.int value tv)
  at' : m1 "at" = some (.int at_ ta)
section
variable {prog : Program} {w : World} {A : Around} {g base : Heap} {outer : List Env} {L : Addr} {E : Value → Heap → Prop} {m : Loc} {fp fp1 : FP} {n : Nat} {env env' : Env} {U : List Use} {D : List (Int × Int)} {key at_ value room deed : Int} {sized : Bool} {t ta tv tr td : Tok} {ok : Obj} {m1 : Loc}
theorem IntsAt.put {c : Addr} {fp : FP} {o : Obj} {v : Value} {ns} (h : IntsAt fp v ns) (k : CellOnly c fp) : IntsAt (put c o fp) v ns := let ⟨P, oP, vs, e, m, l, a⟩ := h; ⟨P, oP, vs, e, put_ne m (k.lst m l), l, a⟩
theorem IntsAt.rd {fp : FP} {v : Value} {ns} (h : IntsAt fp v ns) : Rd fp v (.list (ns.map PyData.int)) := let ⟨P, oP, vs, e, m, l, a⟩ := h; e ▸ Rd.list m l (rdAll_ints a)
theorem DueSt.grow {fp2 : FP} {ck cg : Addr} (h : DueSt fp fp1 ck cg ok room deed key value at_ sized tr td tv ta m1 D U) (g : Grow fp1 fp2) : DueSt fp fp2 ck cg ok room deed key value at_ sized tr td tv ta m1 D U := by
  obtain ⟨og, x, g1, g2⟩ := h.gone
  obtain ⟨vP, p1, p2⟩ := h.P
  obtain ⟨vU, u1, u2⟩ := h.U
  obtain ⟨vH, h1, h2⟩ := h.held
  exact ⟨h.gr.trans g, h.co.grow g1 g, ⟨og, x, g.1 _ g1, g2⟩, g.1 _ h.hk, ⟨vP, p1, p2.mono g.1⟩, ⟨vU, u1, u2.mono g.1⟩, ⟨vH, h1, h2.mono g.1⟩, h.room, h.sized, h.deed, h.value, h.at'⟩

theorem due_miss {p1 p2 p3 p4 p5 q1 q2 q3 q4 q5 r1 r2 r3 r4 r5 s1 s2 u1 u2 u3 : Pos} {k1 k2 k3 k4 k5 j1 j2 j3 j4 j5 : Nat} {Q : Value → Loc → FP → Prop} (cx : Cx w base outer g L A (env984 L) n) (hm : m "deed" = some (.int deed td)) (hd : deed = 2 ∨ deed = 4 ∨ deed = 5 ∨ deed = 7 ∨ deed = 9)
    (h : ∀ vA fpX, Grow fp fpX → Rd fpX vA (missU deed) → Q vA m fpX) :
    Op prog w A g L E (eval (.Subscript (.Dict [some (.Constant (.int 2) k1 p1), some (.Constant (.int 4) k2 p2), some (.Constant (.int 5) k3 p3), some (.Constant (.int 7) k4 p4), some (.Constant (.int 9) k5 p5)]
      [.List [.Constant (.str "missing") j1 q1] r1, .List [.UnaryOp .USub (.Constant (.int 7) j2 q2) s1] r2, .List [.UnaryOp .USub (.Constant (.int 8) j3 q3) s2] r3, .List [.Constant (.str "missing") j4 q4] r4, .List [.Constant (.str "missing") j5 q5] r5] u1) (.Name "deed" u2) u3) (env984 L)) Q m fp := by
  refine o_subscript ?_
  refine o_dictInt (env' := env984 L) cx ?_ ?_ ?_ ?_ ?_ fun d od ltd lod => ?_
  · rfl
  · rfl
  · rfl
  · exact List.cons_ne_nil _ _
  · exact Nat.le_of_ble_eq_true rfl
  refine o_pairsCons (o_int fun _ => o_list (o_argsCons (o_str fun s2 => o_argsNil ⟨by simp, fun A2 l2 => ?_⟩)))
  refine o_pairsCons (o_int fun _ => o_list (o_argsCons (o_unary (o_int fun _ => o_neg fun s4 => o_argsNil ⟨by simp, fun A4 l4 => ?_⟩))))
  refine o_pairsCons (o_int fun _ => o_list (o_argsCons (o_unary (o_int fun _ => o_neg fun s5 => o_argsNil ⟨by simp, fun A5 l5 => ?_⟩))))
  refine o_pairsCons (o_int fun _ => o_list (o_argsCons (o_str fun s7 => o_argsNil ⟨by simp, fun A7 l7 => ?_⟩)))
  refine o_pairsCons (o_int fun _ => o_list (o_argsCons (o_str fun s9 => o_argsNil ⟨by simp, fun A9 l9 => ?_⟩)))
  have ne2 : A2 ≠ d := Nat.ne_of_gt (l2 _ (.head _))
  have ne4 : A4 ≠ d := Nat.ne_of_gt (l4 _ (.tail _ (.head _)))
  have ne5 : A5 ≠ d := Nat.ne_of_gt (l5 _ (.tail _ (.tail _ (.head _))))
  have ne7 : A7 ≠ d := Nat.ne_of_gt (l7 _ (.tail _ (.tail _ (.tail _ (.head _)))))
  have ne9 : A9 ≠ d := Nat.ne_of_gt (l9 _ (.tail _ (.tail _ (.tail _ (.tail _ (.head _))))))
  generalize hF : ((A9, lstO [.str "missing" s9]) :: (A7, lstO [.str "missing" s7]) :: (A5, lstO [.int (-8) s5]) :: (A4, lstO [.int (-7) s4]) :: (A2, lstO [.str "missing" s2]) :: (d, od) :: fp : FP) = fpA
  have gX : Grow fp fpA := hF ▸ (((((Grow.push (o := od) ltd).cons l2).cons l4).cons l5).cons l7).cons l9
  have m2 : (A2, lstO [.str "missing" s2]) ∈ fpA := hF ▸ (.tail _ (.tail _ (.tail _ (.tail _ (.head _)))))
  have m4 : (A4, lstO [.int (-7) s4]) ∈ fpA := hF ▸ (.tail _ (.tail _ (.tail _ (.head _))))
  have m5 : (A5, lstO [.int (-8) s5]) ∈ fpA := hF ▸ (.tail _ (.tail _ (.head _)))
  have m7 : (A7, lstO [.str "missing" s7]) ∈ fpA := hF ▸ (.tail _ (.head _))
  have m9 : (A9, lstO [.str "missing" s9]) ∈ fpA := hF ▸ (.head _)
  have md : (d, od) ∈ fpA := hF ▸ (.tail _ (.tail _ (.tail _ (.tail _ (.tail _ (.head _))))))
  clear hF
  refine o_pairsNil ⟨md, rfl, (by decide : ([2, 4, 5, 7, 9] : List Int).Nodup), fun o' hd' => ?_⟩
  have gP : Grow fp (put d o' fpA) := gX.put ltd
  refine o_loc hm ?_
  rcases hd with rfl | rfl | rfl | rfl | rfl
  · exact o_item put_self hd' rfl (h _ _ gP (Rd.list (put_ne m2 ne2) ⟨0, rfl⟩ (.cons .str .nil)))
  · exact o_item put_self hd' rfl (h _ _ gP (Rd.list (put_ne m4 ne4) ⟨0, rfl⟩ (.cons .int .nil)))
  · exact o_item put_self hd' rfl (h _ _ gP (Rd.list (put_ne m5 ne5) ⟨0, rfl⟩ (.cons .int .nil)))
  · exact o_item put_self hd' rfl (h _ _ gP (Rd.list (put_ne m7 ne7) ⟨0, rfl⟩ (.cons .str .nil)))
  · exact o_item put_self hd' rfl (h _ _ gP (Rd.list (put_ne m9 ne9) ⟨0, rfl⟩ (.cons .str .nil)))
end
end Mine
end
section
open PySem PySem.W PySem.Calls PyProof.Rows
set_option Elab.async false
set_option maxRecDepth 100000
set_option linter.unusedVariables false
namespace Mine
section
variable {prog : Program} {w : World} {A : Around} {g base : Heap} {outer : List Env} {L : Addr} {E : Value → Heap → Prop} {m : Loc} {fp fp1 : FP} {n : Nat} {env env' : Env} {U : List Use} {D : List (Int × Int)} {key at_ value room deed : Int} {sized : Bool} {t ta tv tr td : Tok} {ok : Obj} {m1 : Loc}
noncomputable abbrev outE : PySem.Expr := match nth f984.1.2.1 6 with | .If _ [.Return (some (.Tuple [_, _, e] _ _)) _] _ _ => e | _ => .Name "x" ⟨0, 0, 0, 0⟩
/-- the end of the suite: 5, 6, 7 -/
theorem due_tail {Q : Value → Loc → FP → Prop} (cx : Cx w base outer g L A (env984 L) (n + 2)) (h : DueSt fp fp1 (L + 1) (L + 2) ok room deed key value at_ sized tr td tv ta m1 D U) (pu : PU D U) (hok : ok.data = .cell (some (.int key t)))
    (d1 : ¬ (deed < 2 ∨ (deed = 6 ∧ atI D key = none))) (d3 : deed ≠ 3) (d8 : deed ≠ 8) (d9 : ¬ (deed = 9 ∧ value % 4 = 0)) (dl : 0 ≤ deed ∧ deed < 10)
    (hQ : ∀ v fp' ans D' U', Grow fp fp' → TripAt fp' v ans D' U' → DueU sized room deed key value at_ D U ans D' U' → Q v m fp') :
    Op prog w A g L E (execs [nth f984.1.2.1 5, nth f984.1.2.1 6, nth f984.1.2.1 7] (env984 L)) (fun fl _ fp' => Q (retOf fl) m fp') m1 fp1 := by
  obtain ⟨vH, hh1, hh2⟩ := h.held
  refine o_cons (o_if (o_isCompare (o_loc hh1 (o_list (o_argsNil ⟨by simp, fun R lR => ?_⟩)))))
  refine o_eqD cx (hh2.rd.mono fun q hq => .tail _ hq) (Rd.list (.head _) ⟨0, rfl⟩ .nil) (shaped_ints _) shaped_nil (o_truthyBool ?_)
  rw [eqv_ints_nil]
  have h2 := h.grow (Grow.push (o := lstO []) lR)
  generalize ((R, lstO []) :: fp1 : FP) = fp2 at *
  obtain ⟨vP, hp1, hp2⟩ := h2.P
  obtain ⟨vU, hu1, hu2⟩ := h2.U
  cases hat : atI D key with
  | none =>
    rw [if_pos (by rfl)]
    have hdd : deed = 2 ∨ deed = 4 ∨ deed = 5 ∨ deed = 7 ∨ deed = 9 := by
      have : deed ≠ 6 := fun e => d1 (.inr ⟨e, hat⟩)
      omega
    refine o_cons (o_ret (o_tuple (o_argsCons (due_miss cx h2.deed hdd fun vA fpX gX rX => ?_))))
    refine o_argsCons (o_loc hp1 (o_argsCons (o_loc hu1 (o_argsNil ⟨by simp, fun T lT => ?_⟩))))
    refine hQ _ _ _ _ _ ((h2.gr.trans gX).cons lT) ⟨T, _, _, _, rfl, .head _, rX.mono fun q hq => .tail _ hq, hp2.mono fun q hq => .tail _ (gX.1 _ hq), hu2.mono fun q hq => .tail _ (gX.1 _ hq)⟩ ?_
    unfold DueU
    rw [if_neg d1, if_neg d3, if_neg d8, if_neg d9]
    exact .inl ⟨hat, rfl, rfl, rfl⟩
  | some x =>
    rw [if_neg (by simp)]
    obtain ⟨vH', hh1', hh2'⟩ := h2.held
    rw [hat] at hh2'
    refine o_nil ?_
    refine o_cons (o_if (o_isCompare (o_loc h2.deed (o_tuple (o_argsCons (o_int fun t5 => o_argsCons (o_int fun t7 => o_argsCons (o_int fun t9 => o_argsNil ⟨by simp, fun T lT => ?_⟩))))))))
    refine o_inTup cx (Rd.tup (.head _) (.cons .int (.cons .int (.cons .int .nil)))) Rd.int (by rfl) (by rfl) (by rfl) (o_truthyBool ?_)
    have h3 := h2.grow (Grow.push (o := tupO [.int 5 t5, .int 7 t7, .int 9 t9]) lT)
    have s3 : ∀ q ∈ fp2, q ∈ ((T, tupO [.int 5 t5, .int 7 t7, .int 9 t9]) :: fp2) := fun q hq => .tail _ hq
    generalize ((T, tupO [.int 5 t5, .int 7 t7, .int 9 t9]) :: fp2 : FP) = fp3 at *
    have hin : (List.any [PyData.int 5, PyData.int 7, PyData.int 9] fun y => PyData.eqv y (.int deed)) = decide (deed = 5 ∨ deed = 7 ∨ deed = 9) := by
      simp only [List.any_cons, List.any_nil, PyData.eqv]
      by_cases e5 : deed = 5
      · subst e5; rfl
      by_cases e7 : deed = 7
      · subst e7; rfl
      by_cases e9 : deed = 9
      · subst e9; rfl
      · have a5 : ((5 : Int) == deed) = false := by simpa using Ne.symm e5
        have a7 : ((7 : Int) == deed) = false := by simpa using Ne.symm e7
        have a9 : ((9 : Int) == deed) = false := by simpa using Ne.symm e9
        rw [a5, a7, a9]; simp [e5, e7, e9]
    rw [hin]
    have fin : ∀ ans D' U', (if deed = 5 ∨ deed = 7 ∨ deed = 9 then ans = (if deed = 7 then .list [] else .list [.int x]) ∧ D' = withoutI D key ∧ U' = outU U key else ans = .list [.int x] ∧ D' = D ∧ U' = countedU U key at_) → DueU sized room deed key value at_ D U ans D' U' := by
      intro ans D' U' hx
      unfold DueU
      rw [if_neg d1, if_neg d3, if_neg d8, if_neg d9]
      exact .inr ⟨x, hat, hx⟩
    by_cases e : deed = 5 ∨ deed = 7 ∨ deed = 9
    · rw [if_pos (by simpa using e)]
      refine o_cons (o_ret (o_tuple (o_argsCons ?_)))
      have rest : ∀ vA fpA, Grow fp3 fpA → Rd fpA vA (if deed = 7 then .list [] else .list [.int x]) →
          Op prog w A g L E (spliced (backTo ⟨648, 15, 648, 108⟩ (starEach [.Call (.Name "_law_without" ⟨648, 43, 648, 55⟩) [.Name "pairs" ⟨648, 56, 648, 61⟩, .Name "key" ⟨648, 63, 648, 66⟩] [] ⟨648, 43, 648, 67⟩, outE] (env984 L)))) (fun vs m2 fp2 => (vA :: vs).length ≤ 1000 ∧ ∀ T, (∀ p ∈ fp2, p.1 < T) → Q (.ref T) m ((T, tupO (vA :: vs)) :: fp2)) m1 fpA := by
        intro vA fpA gA rA
        have hA := h3.grow gA
        obtain ⟨vP3, hp31, hp32⟩ := hA.P
        refine o_argsCons (o_nameCall (o_glob cx (kn_without _) (o_callK cx (kp_943 _) (o_argsCons (o_loc hp31 (o_argsCons (o_cell (show List.lookup _ _ = _ by rfl) hA.hk hok (o_argsNil ?_))))))))
        refine without_at cx hp32 (Nat.le_trans pu.dok.five (by decide)) fun v' fp4 g4 hv' => ?_
        have hB := hA.grow g4
        obtain ⟨vU3, hu31, hu32⟩ := hB.U
        refine o_argsCons (o_compG (cl := [("key", L + 1)]) (by rfl) (by decide) rfl (by decide) (o_loc hu31 (out_comp cx.handled hu32 (Nat.le_trans pu.five (by decide)) hB.hk hok rfl (fun C => rfl) (fun C => rfl) (fun C => rfl) (by decide) fun D2 oD2 lD2 hD2 => ?_)))
        refine o_argsNil ⟨by simp, fun T lT => ?_⟩
        refine hQ _ _ _ _ _ ((hB.gr.cons (o := oD2) lD2).cons lT) ⟨T, _, _, _, rfl, .head _, rA.mono fun q hq => .tail _ (.tail _ (g4.1 _ hq)), hv'.mono fun q hq => .tail _ (.tail _ hq), hD2.mono fun q hq => .tail _ hq⟩ (fin _ _ _ ?_)
        rw [if_pos e]; exact ⟨rfl, rfl, rfl⟩
      refine o_ifExp (o_isCompare (o_loc h3.deed (o_int fun _ => o_eqI (o_truthyBool ?_))))
      by_cases e7 : deed = 7
      · rw [if_pos (by simpa using e7)]
        refine o_list (o_argsNil ⟨by simp, fun R2 lR2 => rest _ _ (.push lR2) ?_⟩)
        rw [if_pos e7]; exact Rd.list (.head _) ⟨0, rfl⟩ .nil
      · rw [if_neg (by simpa using e7)]
        obtain ⟨vH3, hh31, hh32⟩ := h3.held
        rw [hat] at hh32
        refine o_loc hh31 (rest _ _ .refl ?_)
        rw [if_neg e7]; exact hh32.rd
    · rw [if_neg (by simpa using e)]
      refine o_nil ?_
      obtain ⟨vP3, hp31, hp32⟩ := h3.P
      obtain ⟨vU3, hu31, hu32⟩ := h3.U
      obtain ⟨vH3, hh31, hh32⟩ := h3.held
      rw [hat] at hh32
      refine o_cons (o_ret (o_tuple (o_argsCons (o_loc hh31 (o_argsCons (o_loc hp31 (o_argsCons (o_nameCall (o_glob cx (kn_counted _) (o_callK cx (kp_960 _) (o_argsCons (o_loc hu31 (o_argsCons (o_cell (show List.lookup _ _ = _ by rfl) h3.hk hok (o_argsCons (o_loc h3.at' (o_argsNil ?_)))))))))))))))))
      refine counted_at cx hu32 (Nat.le_trans pu.five (by decide)) fun v' fp4 g4 hv' => o_argsNil ⟨by simp, fun T lT => ?_⟩
      refine hQ _ _ _ _ _ ((h3.gr.trans g4).cons lT) ⟨T, _, _, _, rfl, .head _, hh32.rd.mono fun q hq => .tail _ (g4.1 _ hq), hp32.mono fun q hq => .tail _ (g4.1 _ hq), hv'.mono fun q hq => .tail _ hq⟩ (fin _ _ _ ?_)
      rw [if_neg e]; exact ⟨rfl, rfl, rfl⟩
end
end Mine
end
section
open PySem PySem.W PySem.Calls PyProof.Rows
set_option Elab.async false
set_option maxRecDepth 100000
set_option linter.unusedVariables false
namespace Mine
section
variable {prog : Program} {w : World} {A : Around} {g base : Heap} {outer : List Env} {L : Addr} {E : Value → Heap → Prop} {m : Loc} {fp fp1 : FP} {n : Nat} {env env' : Env} {U : List Use} {D : List (Int × Int)} {key at_ value room deed : Int} {sized : Bool} {t ta tv tr td : Tok} {ok : Obj} {m1 : Loc}
abbrev bodyOf : Stmt → List Stmt
  | .If _ b _ _ => b
  | _ => []
theorem atI_of_mem {D : List (Int × Int)} {k : Int} (h : k ∈ D.map (·.1)) : ∃ v, atI D k = some v := by
  have := atI_mem.mpr h
  cases q : atI D k with
  | none => rw [q] at this; cases this
  | some v => exact ⟨v, rfl⟩
/-- deed 8 -/
theorem due_eight {Q : Value → Loc → FP → Prop} {Q' : Flow → Loc → FP → Prop} (cx : Cx w base outer g L A (env984 L) (n + 2)) (h : DueSt fp fp1 (L + 1) (L + 2) ok room deed key value at_ sized tr td tv ta m1 D U) (pu : PU D U)
    (d8 : deed = 8) (hcg : ∀ p ∈ fp, p.1 < L + 2) (hQQ : ∀ v m2 fp2, Q v m fp2 → Q' (.ret v) m2 fp2)
    (hQ : ∀ v fp' ans D' U', Grow fp fp' → TripAt fp' v ans D' U' → DueU sized room deed key value at_ D U ans D' U' → Q v m fp') :
    Op prog w A g L E (execs (bodyOf (nth f984.1.2.1 3)) (env984 L)) Q' m1 fp1 := by
  have fin : ∀ ans D' U', ((U = [] ∧ ans = .list [.str "missing"] ∧ D' = D ∧ U' = U) ∨ (U ≠ [] ∧ ∃ v, atI D (leastU U) = some v ∧ ans = .list [.tuple [.int (leastU U), .int v]] ∧ D' = withoutI D (leastU U) ∧ U' = outU U (leastU U))) → DueU sized room deed key value at_ D U ans D' U' := by
    intro ans D' U' hx
    unfold DueU
    rw [if_neg (by omega), if_neg (by omega), if_pos d8]; exact hx
  obtain ⟨vU, hu1, hu2⟩ := h.U
  refine o_cons (o_if (o_isCompare (o_loc hu1 (o_list (o_argsNil ⟨by simp, fun R lR => ?_⟩)))))
  refine o_eqD cx ((rd_uses hu2).mono fun q hq => .tail _ hq) (Rd.list (.head _) ⟨0, rfl⟩ .nil) (shaped_uses _) shaped_nil (o_truthyBool ?_)
  rw [eqv_uses_nil]
  have h2 := h.grow (Grow.push (o := lstO []) lR)
  generalize ((R, lstO []) :: fp1 : FP) = fp2 at *
  obtain ⟨vP, hp1, hp2⟩ := h2.P
  obtain ⟨vU2, hu21, hu22⟩ := h2.U
  cases U with
  | nil =>
    rw [if_pos (by rfl)]
    refine o_cons (o_ret (o_tuple (o_argsCons (o_list (o_argsCons (o_str fun ts => o_argsNil ⟨by simp, fun R2 lR2 => o_argsCons (o_loc hp1 (o_argsCons (o_loc hu21 (o_argsNil ⟨by simp, fun T lT => ?_⟩))))⟩))))))
    refine hQQ _ _ _ (hQ _ _ _ _ _ ((h2.gr.cons (o := lstO [.str "missing" ts]) lR2).cons lT) ⟨T, _, _, _, rfl, .head _, Rd.list (.tail _ (.head _)) ⟨0, rfl⟩ (.cons .str .nil), hp2.mono fun q hq => .tail _ (.tail _ hq), hu22.mono fun q hq => .tail _ (.tail _ hq)⟩ (fin _ _ _ (.inl ⟨rfl, rfl, rfl, rfl⟩)))
  | cons u0 Ur =>
    rw [if_neg (by simp)]
    refine o_nil ?_
    obtain ⟨og, x, hg1, hg2⟩ := h2.gone
    refine o_cons (o_assign (o_nameCall (o_glob cx (kn_least _) (o_callK cx (kp_967 _) (o_argsCons (o_loc hu21 (o_argsNil (least_at cx.less hu22 fun tl => o_storeCell (by rfl) hg1 hg2 fun og' hog' => ?_))))))))
    obtain ⟨v, hat⟩ := atI_of_mem (pu.perm.mem_iff.mp (leastU_mem (U := u0 :: Ur) (by simp)))
    have gP : Grow fp (put (L + 2) og' fp2) := h2.gr.put hcg
    have hp3 := hp2.put (o := og') h2.co
    have hu3 := hu22.put (o := og') h2.co
    have hgm : (L + 2, og') ∈ put (L + 2) og' fp2 := put_self
    generalize put (L + 2) og' fp2 = fp3 at *
    generalize hk : leastU (u0 :: Ur) = lk at *
    refine o_cons (o_assignComp (cl := [("gone", L + 2)]) rfl (by rfl) rfl rfl (by rfl) (by decide) rfl (by decide) (o_loc hu21 (out_comp cx.handled hu3 (Nat.le_trans pu.five (by decide)) hgm hog' rfl (fun C => rfl) (fun C => rfl) (fun C => rfl) (by decide) fun D2 oD2 lD2 hD2 => ?_)))
    have g4 : Grow fp ((D2, oD2) :: fp3) := gP.cons lD2
    have hp4 := hp3.mono (fp' := (D2, oD2) :: fp3) fun q hq => .tail _ hq
    have hgm4 : (L + 2, og') ∈ ((D2, oD2) :: fp3) := .tail _ hgm
    generalize ((D2, oD2) :: fp3 : FP) = fp4 at *
    refine o_cons (o_ret (o_tuple (o_argsCons (o_list (o_argsCons (o_tuple (o_argsCons (o_cell (show List.lookup _ _ = _ by rfl) hgm4 hog' (o_argsCons (o_subscript (o_nameCall (o_glob cx (kn_value _) (o_callK cx (kp_950 _) (o_argsCons (o_loc hp1 (o_argsCons (o_cell (show List.lookup _ _ = _ by rfl) hgm4 hog' (o_argsNil ?_))))))))))))))))))
    refine value_at cx.less hp4 fun v' fp5 g5 hv' => o_int fun _ => ?_
    rw [hat] at hv'
    obtain ⟨V, oV, vsV, rfl, hV1, hV2, hV3⟩ := hv'
    cases hV3 with
    | cons _ tk jr =>
      cases jr
      refine o_lstItem (k := 0) hV1 hV2 rfl (by decide) (o_argsNil ⟨by simp, fun T1 lT1 => o_argsNil ⟨by simp, fun T2 lT2 => ?_⟩⟩)
      have g6 : Grow fp ((T2, lstO [.ref T1]) :: (T1, tupO [.int lk tl, .int v tk]) :: fp5) := ((g4.trans g5).cons lT1).cons lT2
      have hp6 := hp4.mono (fp' := (T2, lstO [.ref T1]) :: (T1, tupO [.int lk tl, .int v tk]) :: fp5) fun q hq => .tail _ (.tail _ (g5.1 _ hq))
      have hD6 := hD2.mono (fp' := (T2, lstO [.ref T1]) :: (T1, tupO [.int lk tl, .int v tk]) :: fp5) fun q hq => .tail _ (.tail _ (g5.1 _ hq))
      have r6 : Rd ((T2, lstO [.ref T1]) :: (T1, tupO [.int lk tl, .int v tk]) :: fp5) (.ref T2) (.list [.tuple [.int lk, .int v]]) := Rd.list (.head _) ⟨0, rfl⟩ (.cons (Rd.tup (.tail _ (.head _)) (.cons .int (.cons .int .nil))) .nil)
      have hg6 : (L + 2, og') ∈ ((T2, lstO [.ref T1]) :: (T1, tupO [.int lk tl, .int v tk]) :: fp5) := .tail _ (.tail _ (g5.1 _ hgm4))
      generalize ((T2, lstO [.ref T1]) :: (T1, tupO [.int lk tl, .int v tk]) :: fp5 : FP) = fp6 at *
      refine o_argsCons (o_nameCall (o_glob cx (kn_without _) (o_callK cx (kp_943 _) (o_argsCons (o_loc hp1 (o_argsCons (o_cell (show List.lookup _ _ = _ by rfl) hg6 hog' (o_argsNil ?_))))))))
      refine without_at cx.less hp6 (Nat.le_trans pu.dok.five (by decide)) fun v' fp7 g7 hv' => o_argsCons (o_loc rfl (o_argsNil ⟨by simp, fun T lT => ?_⟩))
      refine hQQ _ _ _ (hQ _ _ _ _ _ ((g6.trans g7).cons lT) ⟨T, _, _, _, rfl, .head _, r6.mono fun q hq => .tail _ (g7.1 _ hq), hv'.mono fun q hq => .tail _ hq, hD6.mono fun q hq => .tail _ (g7.1 _ hq)⟩ (fin _ _ _ (.inr ⟨by simp, v, hat, rfl, rfl, rfl⟩)))
/-- deeds that put -/
theorem due_put {Q : Value → Loc → FP → Prop} {Q' : Flow → Loc → FP → Prop} (cx : Cx w base outer g L A (env984 L) (n + 2)) (h : DueSt fp fp1 (L + 1) (L + 2) ok room deed key value at_ sized tr td tv ta m1 D U) (pu : PU D U) (hok : ok.data = .cell (some (.int key t)))
    (d1 : deed < 2 ∨ (deed = 6 ∧ atI D key = none)) (hQQ : ∀ v m2 fp2, Q v m fp2 → Q' (.ret v) m2 fp2)
    (hQ : ∀ v fp' ans D' U', Grow fp fp' → TripAt fp' v ans D' U' → DueU sized room deed key value at_ D U ans D' U' → Q v m fp') :
    Op prog w A g L E (execs (bodyOf (nth f984.1.2.1 1)) (env984 L)) Q' m1 fp1 := by
  have fin : ∀ ans D' U' a, PutU sized room key value at_ D U a D' U' → ((a = .list [] ∧ ans = if deed = 6 then .list [.int value] else .list []) ∨ (a = .list [.str "refused"] ∧ ans = a)) → DueU sized room deed key value at_ D U ans D' U' := by
    intro ans D' U' a h1 h2
    unfold DueU
    rw [if_pos d1]; exact ⟨a, h1, h2⟩
  obtain ⟨vU, hu1, hu2⟩ := h.U
  obtain ⟨vP, hp1, hp2⟩ := h.P
  refine o_cons (o_unpack3 cx.handled rfl rfl rfl rfl rfl (o_nameCall (o_glob cx (kn_put _) (o_callK cx (kp_972 _) (o_argsCons (o_loc hp1 (o_argsCons (o_loc hu1 (o_argsCons (o_loc h.room (o_argsCons (o_loc h.sized (o_argsCons (o_cell (show List.lookup _ _ = _ by rfl) h.hk hok (o_argsCons (o_loc h.value (o_argsCons (o_loc h.at' (o_argsNil ?_)))))))))))))))))))
  refine put_at cx hp2 hu2 pu fun v fp2 a D' U' g2 tr2 pt => ?_
  obtain ⟨T, va, vp, vu, rfl, hT, hra, hpp, huu⟩ := tr2
  refine ⟨T, va, vp, vu, rfl, hT, ?_⟩
  have gf : Grow fp fp2 := h.gr.trans g2
  have ret : ∀ (m3 : Loc) (fp3 : FP) (vA : Value) (ans : PyData), m3 "answer" = some vA → m3 "pairs" = some vp → m3 "uses" = some vu → Grow fp2 fp3 → Rd fp3 vA ans → DueU sized room deed key value at_ D U ans D' U' → Op prog w A g L E (execs [nth (bodyOf (nth f984.1.2.1 1)) 2] (env984 L)) Q' m3 fp3 := by
    intro m3 fp3 vA ans a1 a2 a3 g3 rA hd
    refine o_cons (o_ret (o_tuple (o_argsCons (o_loc a1 (o_argsCons (o_loc a2 (o_argsCons (o_loc a3 (o_argsNil ⟨by simp, fun T3 lT3 => ?_⟩)))))))))
    exact hQQ _ _ _ (hQ _ _ _ _ _ ((gf.trans g3).cons lT3) ⟨T3, _, _, _, rfl, .head _, rA.mono fun q hq => .tail _ hq, hpp.mono fun q hq => .tail _ (g3.1 _ hq), huu.mono fun q hq => .tail _ (g3.1 _ hq)⟩ hd)
  have hdeed := h.deed
  have hval := h.value
  refine o_cons (o_if (o_isTrueAnd (o_isCompare (o_loc rfl (o_list (o_argsNil ⟨by simp, fun R lR => ?_⟩))))))
  have g3 : Grow fp2 ((R, lstO []) :: fp2) := .push lR
  have hnil : Rd ((R, lstO []) :: fp2) (.ref R) (.list []) := Rd.list (.head _) ⟨0, rfl⟩ .nil
  have hra3 := hra.mono g3.1
  generalize ((R, lstO []) :: fp2 : FP) = fp3 at *
  have ha : a = .list [] ∨ a = .list [.str "refused"] := by
    rcases pt with ⟨_, _, _, _, _, _, e⟩ | ⟨_, _, _, e⟩
    · exact .inl e
    · exact .inr e
  rcases ha with rfl | rfl
  · refine o_eqD cx hra3 hnil shaped_nil shaped_nil (o_truthyBool ?_)
    rw [if_pos (by rfl)]
    refine o_isTrueAnd (o_isCompare (o_loc hdeed (o_int fun _ => o_eqI (o_truthyBool ?_))))
    by_cases e6 : deed = 6
    · rw [if_pos (by simpa using e6)]
      refine o_isTrueAnd0 ?_
      rw [if_pos rfl]
      refine o_cons (o_assign (o_list (o_argsCons (o_loc hval (o_argsNil ⟨by simp, fun R2 lR2 => o_store (o_nil ?_)⟩)))))
      exact ret _ _ (.ref R2) (.list [.int value]) rfl rfl rfl (g3.cons lR2) (Rd.list (.head _) ⟨0, rfl⟩ (.cons .int .nil)) (fin _ _ _ _ pt (.inl ⟨rfl, by rw [if_pos e6]⟩))
    · rw [if_neg (by simpa using e6)]
      rw [if_neg (by simp)]
      exact o_nil (ret _ _ va (.list []) rfl rfl rfl g3 hra3 (fin _ _ _ _ pt (.inl ⟨rfl, by rw [if_neg e6]⟩)))
  · refine o_eqD cx hra3 hnil (by kernel_rfl) shaped_nil (o_truthyBool ?_)
    have : PyData.eqv (.list [.str "refused"]) (.list []) = false := by simp [PyData.eqv, PyData.eqvAll]
    rw [this, if_neg (by simp), if_neg (by simp)]
    exact o_nil (ret _ _ va (.list [.str "refused"]) rfl rfl rfl g3 hra3 (fin _ _ _ _ pt (.inr ⟨rfl, rfl⟩)))
end
end Mine
end
section
open PySem PySem.W PySem.Calls PyProof.Rows
set_option Elab.async false
set_option maxRecDepth 100000
set_option linter.unusedVariables false
namespace Mine
section
variable {prog : Program} {w : World} {A : Around} {g base : Heap} {outer : List Env} {L : Addr} {E : Value → Heap → Prop} {m : Loc} {fp fp1 : FP} {n : Nat} {env env' : Env} {U : List Use} {D : List (Int × Int)} {key at_ value room deed : Int} {sized : Bool} {t ta tv tr td : Tok} {ok : Obj} {m1 : Loc}
/-- the suite behind held -/
theorem due_suite {Q : Value → Loc → FP → Prop} (cx : Cx w base outer g L A (env984 L) (n + 2)) (h : DueSt fp fp1 (L + 1) (L + 2) ok room deed key value at_ sized tr td tv ta m1 D U) (pu : PU D U) (hok : ok.data = .cell (some (.int key t)))
    (hcg : ∀ p ∈ fp, p.1 < L + 2) (dl : 0 ≤ deed ∧ deed < 10)
    (hQ : ∀ v fp' ans D' U', Grow fp fp' → TripAt fp' v ans D' U' → DueU sized room deed key value at_ D U ans D' U' → Q v m fp') :
    Op prog w A g L E (execs f984.1.2.1.tail (env984 L)) (fun fl _ fp' => Q (retOf fl) m fp') m1 fp1 := by
  have tail3 : ∀ (fp2 : FP), DueSt fp fp2 (L + 1) (L + 2) ok room deed key value at_ sized tr td tv ta m1 D U → ¬ (deed < 2 ∨ (deed = 6 ∧ atI D key = none)) →
      Op prog w A g L E (execs [nth f984.1.2.1 2, nth f984.1.2.1 3, nth f984.1.2.1 4, nth f984.1.2.1 5, nth f984.1.2.1 6, nth f984.1.2.1 7] (env984 L)) (fun fl _ fp' => Q (retOf fl) m fp') m1 fp2 := by
    intro fp2 h d1
    obtain ⟨vU, hu1, hu2⟩ := h.U
    obtain ⟨vP, hp1, hp2⟩ := h.P
    obtain ⟨vH, hh1, hh2⟩ := h.held
    refine o_cons (o_if (o_isCompare (o_loc h.deed (o_int fun _ => o_eqI (o_truthyBool ?_)))))
    by_cases d3 : deed = 3
    · rw [if_pos (by simpa using d3)]
      refine o_cons (o_ret (o_tuple (o_argsCons (o_list (o_argsCons (o_compare (o_loc hh1 (o_list (o_argsNil ⟨by simp, fun R lR => ?_⟩)))))))))
      refine o_neD cx (hh2.rd.mono fun q hq => .tail _ hq) (Rd.list (.head _) ⟨0, rfl⟩ .nil) (shaped_ints _) shaped_nil (o_argsNil ⟨by simp, fun R2 lR2 => o_argsCons (o_loc hp1 (o_argsCons (o_loc hu1 (o_argsNil ⟨by simp, fun T lT => ?_⟩))))⟩)
      refine hQ _ _ _ _ _ (((h.gr.cons (o := lstO []) lR).cons lR2).cons lT) ⟨T, _, _, _, rfl, .head _, Rd.list (.tail _ (.head _)) ⟨0, rfl⟩ (.cons .bool .nil), hp2.mono fun q hq => .tail _ (.tail _ (.tail _ hq)), hu2.mono fun q hq => .tail _ (.tail _ (.tail _ hq))⟩ ?_
      unfold DueU
      rw [if_neg d1, if_pos d3]
      refine ⟨?_, rfl, rfl⟩
      rw [eqv_ints_nil]
      cases atI D key <;> rfl
    · rw [if_neg (by simpa using d3)]
      refine o_nil ?_
      refine o_cons (o_if (o_isCompare (o_loc h.deed (o_int fun _ => o_eqI (o_truthyBool ?_)))))
      by_cases d8 : deed = 8
      · rw [if_pos (by simpa using d8)]
        exact due_eight cx h pu d8 hcg (fun _ _ _ q => q) hQ
      · rw [if_neg (by simpa using d8)]
        refine o_nil ?_
        refine o_cons (o_if (o_isTrueAnd (o_isCompare (o_loc h.deed (o_int fun _ => o_eqI (o_truthyBool ?_))))))
        have go : ¬ (deed = 9 ∧ value % 4 = 0) → Op prog w A g L E (execs [nth f984.1.2.1 5, nth f984.1.2.1 6, nth f984.1.2.1 7] (env984 L)) (fun fl _ fp' => Q (retOf fl) m fp') m1 fp2 := fun d9 => due_tail cx h pu hok d1 d3 d8 d9 dl hQ
        by_cases d9 : deed = 9
        · rw [if_pos (by simpa using d9)]
          refine o_isTrueAnd (o_isCompare (o_binop (o_loc h.value (o_int fun _ => o_mod (by decide) fun _ => o_int fun _ => o_eqI (o_truthyBool ?_)))))
          by_cases v4 : value % 4 = 0
          · rw [if_pos (by simpa using v4)]
            refine o_isTrueAnd0 ?_
            rw [if_pos rfl]
            refine o_cons (o_ret (o_tuple (o_argsCons (o_list (o_argsNil ⟨by simp, fun R1 l1 => o_argsCons (o_list (o_argsNil ⟨by simp, fun R2 l2 => o_argsCons (o_list (o_argsNil ⟨by simp, fun R3 l3 => o_argsNil ⟨by simp, fun T lT => ?_⟩⟩))⟩))⟩)))))
            refine hQ _ _ _ _ _ ((((h.gr.cons (o := lstO []) l1).cons (o := lstO []) l2).cons (o := lstO []) l3).cons lT) ⟨T, _, _, _, rfl, .head _, Rd.list (.tail _ (.tail _ (.tail _ (.head _)))) ⟨0, rfl⟩ .nil, ⟨R2, _, _, rfl, .tail _ (.tail _ (.head _)), ⟨0, rfl⟩, .nil⟩, ⟨R3, _, _, rfl, .tail _ (.head _), ⟨0, rfl⟩, .nil⟩⟩ ?_
            unfold DueU
            rw [if_neg d1, if_neg d3, if_neg d8, if_pos ⟨d9, v4⟩]
            exact ⟨rfl, rfl, rfl⟩
          · rw [if_neg (by simpa using v4)]
            rw [if_neg (by simp)]
            exact o_nil (go fun x => v4 x.2)
        · rw [if_neg (by simpa using d9)]
          rw [if_neg (by simp)]
          exact o_nil (go fun x => d9 x.1)
  obtain ⟨vH, hh1, hh2⟩ := h.held
  refine o_cons (o_if (o_isTrueOr (o_isCompare (o_loc h.deed (o_int fun _ => o_ltI (o_truthyBool ?_))))))
  by_cases d2 : deed < 2
  · rw [if_pos (by simpa using d2), if_pos rfl]
    exact due_put cx h pu hok (.inl d2) (fun _ _ _ q => q) hQ
  · rw [if_neg (by simpa using d2)]
    refine o_isTrueOr (o_isTrueAnd (o_isCompare (o_loc h.deed (o_int fun _ => o_eqI (o_truthyBool ?_)))))
    by_cases d6 : deed = 6
    · rw [if_pos (by simpa using d6)]
      refine o_isTrueAnd (o_isCompare (o_loc hh1 (o_list (o_argsNil ⟨by simp, fun R lR => ?_⟩))))
      refine o_eqD cx (hh2.rd.mono fun q hq => .tail _ hq) (Rd.list (.head _) ⟨0, rfl⟩ .nil) (shaped_ints _) shaped_nil (o_truthyBool ?_)
      rw [eqv_ints_nil]
      have h2 := h.grow (Grow.push (o := lstO []) lR)
      generalize ((R, lstO []) :: fp1 : FP) = fp2 at *
      cases hat : atI D key with
      | none =>
        rw [if_pos (by rfl)]
        refine o_isTrueAnd0 ?_
        rw [if_pos rfl, if_pos rfl]
        exact due_put cx h2 pu hok (.inr ⟨d6, hat⟩) (fun _ _ _ q => q) hQ
      | some x =>
        rw [if_neg (by simp), if_neg (by simp)]
        refine o_isTrueOr0 ?_
        rw [if_neg (by simp)]
        exact o_nil (tail3 _ h2 (by rw [hat]; intro q; rcases q with q | ⟨_, q⟩; exact d2 q; cases q))
    · rw [if_neg (by simpa using d6), if_neg (by simp)]
      refine o_isTrueOr0 ?_
      rw [if_neg (by simp)]
      exact o_nil (tail3 _ h (by intro q; rcases q with q | ⟨q, _⟩; exact d2 q; exact d6 q))

theorem due_at {vP vU : Value} {Q : Value → Loc → FP → Prop} (cx : Cx w base outer g L A env (n + 3)) (hP : PairsAt fp vP D) (hU : UsesAt fp vU U) (pu : PU D U) (dl : 0 ≤ deed ∧ deed < 10)
    (h : ∀ v fp' ans D' U', Grow fp fp' → TripAt fp' v ans D' U' → DueU sized room deed key value at_ D U ans D' U' → Q v m fp') :
    Op prog w A g L E (call (.ref 984) [vP, vU, .int room tr, .bool sized, .int deed td, .int key t, .int value tv, .int at_ ta]) Q m fp := by
  refine o_callC cx (kl_984 _) (kc_984 _) (fun s _ => BindsTo.of_eq rfl) ?_ (by decide) fun g' L' E' cells cx' st lt hcells => ?_
  · intro nn x hx
    rcases List.mem_cons.mp hx with e | hx
    · subst e; exact .inl rfl
    rcases List.mem_cons.mp hx with e | hx
    · subst e; exact .inl rfl
    rcases List.mem_cons.mp hx with e | hx
    · subst e; exact .inl rfl
    rcases List.mem_cons.mp hx with e | hx
    · subst e; exact .inl rfl
    rcases List.mem_cons.mp hx with e | hx
    · subst e; exact .inl rfl
    rcases List.mem_cons.mp hx with e | hx
    · subst e; exact .inr ⟨rfl, rfl⟩
    rcases List.mem_cons.mp hx with e | hx
    · subst e; exact .inl rfl
    rcases List.mem_cons.mp hx with e | hx
    · subst e; exact .inl rfl
    cases hx
  obtain ⟨og, ok, hcs, hog, hok⟩ := CellsAre.two hcells
  subst hcs
  have hok : ok.data = .cell (some (.int key t)) := hok
  have l1 : ∀ p ∈ fp, p.1 < L' + 1 := fun p hp => Nat.lt_succ_of_lt (lt p hp)
  have l2 : ∀ p ∈ fp, p.1 < L' + 2 := fun p hp => Nat.lt_succ_of_lt (l1 p hp)
  have g0 : Grow fp ([(L' + 2, og), (L' + 1, ok)] ++ fp) := (Grow.refl.add l1).add l2
  have co : CellOnly (L' + 2) ([(L' + 2, og), (L' + 1, ok)] ++ fp) := by
    intro p hp e
    rcases List.mem_cons.mp hp with rfl | hp
    · exact ⟨_, hog⟩
    rcases List.mem_cons.mp hp with rfl | hp
    · exact ⟨_, hok⟩
    · exact absurd e (Nat.ne_of_lt (l2 p hp))
  show Op prog w _ g' L' E' (execs f984.1.2.1 (env984 L')) _ _ _
  have hkm : (L' + 1, ok) ∈ ([(L' + 2, og), (L' + 1, ok)] ++ fp : FP) := .tail _ (.head _)
  have hgm : (L' + 2, og) ∈ ([(L' + 2, og), (L' + 1, ok)] ++ fp : FP) := .head _
  generalize ([(L' + 2, og), (L' + 1, ok)] ++ fp : FP) = fp1 at *
  refine o_cons (o_assign (o_nameCall (o_glob cx' (kn_value _) (o_callK cx' (kp_950 _) (o_argsCons (o_loc rfl (o_argsCons (o_cell (show List.lookup _ _ = _ by rfl) hkm hok (o_argsNil (value_at cx'.less (hP.mono g0.1) fun v' fp2 g2 hv' => o_store ?_))))))))))
  exact due_suite cx' ⟨g0.trans g2, co.grow hgm g2, ⟨og, _, g2.1 _ hgm, hog⟩, g2.1 _ hkm, ⟨vP, rfl, hP.mono (g0.trans g2).1⟩, ⟨vU, rfl, hU.mono (g0.trans g2).1⟩, ⟨v', rfl, hv'⟩, rfl, rfl, rfl, rfl, rfl⟩ pu hok l2 dl h
end
end Mine
end
section
open PySem PySem.W PySem.Calls PyProof.Rows
set_option Elab.async false
set_option maxRecDepth 100000
set_option linter.unusedVariables false
namespace Mine
section
variable {prog : Program} {w : World} {A : Around} {g base : Heap} {outer : List Env} {L : Addr} {E : Value → Heap → Prop} {m : Loc} {fp : FP} {n : Nat} {env env' : Env}

/-- range as an iterator of its own -/
theorem o_iterRangeI {r : Addr} {a b : Int} {k : Nat} {t1 t2 t3 : Tok} {Q : Value → Loc → FP → Prop} (hh : A.handled = none) (hm : (r, ({ cls := .type "range", dict := none, data := .fields #[.int a t1, .int b t2, .int 1 t3], slots := #[] } : Obj)) ∈ fp) (hsmall : Builtin.Range.small a b 1 = true) (hn : (b - a).toNat = k)
    (h : ∀ I oI St', (∀ p ∈ fp, p.1 < I) → Walks prog w A I [I] [I] k (fun i v => ∃ t, v = .int (a + i) t) St' → (∀ h : Heap, h.get? I = some oI → St' 0 h) → (∀ i h, St' i h → ∃ o, h.get? I = some o ∧ ∃ fs, o.data = .fields fs) → Q (.ref I) m ((I, oI) :: fp)) :
    Op prog w A g L E (pyIter (.ref r)) Q m fp :=
  Op.of fun s F N _ kk => by
    refine wpAny_pyIter_range (N _ hm).1 hsmall ?_
    rw [rangeSize_nat, hn]
    have W := Walks.range (prog := prog) (w := w) hh s.heap.objs.size a 1 k
    have e2 : (fun (i : Nat) (v : Value) => ∃ t, v = Value.int (a + (i : Int) * 1) t) = fun i v => ∃ t, v = .int (a + i) t := by funext i v; simp
    rw [e2] at W
    refine kk _ _ s.toks m _ (F.push _) (News.push F N _) (h _ _ _ (fun p hp => Heap.lt_size (N p hp).1) W ?_ ?_)
    · intro h hk
      simpa using hk
    · intro i h st
      exact ⟨_, st, _, rfl⟩
theorem o_and2 {e₁ e₂ : PySem.Expr} {pos : Pos} {Q : Value → Loc → FP → Prop}
    (h : Op prog w A g L E (eval e₁ env') (fun v => Op prog w A g L E (truthy v) (fun c m fp => if c = true then Op prog w A g L E (eval e₂ env') Q m fp else Q v m fp)) m fp) :
    Op prog w A g L E (eval (.BoolOp .And [e₁, e₂] pos) env') Q m fp :=
  Op.of fun s F N _ k => BoolOp_and (h.use F N fun v _ _ _ _ F1 N1 q1 => q1.use F1 N1 fun c _ _ _ _ F2 N2 q2 => by
    cases c with
    | true => rw [if_pos rfl] at q2 ⊢; exact BoolOp_one (Op.use q2 F2 N2 k)
    | false => rw [if_neg (by simp)] at q2 ⊢; exact k _ _ _ _ _ F2 N2 q2)
theorem o_sliceTo {value : PySem.Expr} {k : Int} {j : Nat} {p1 p2 p3 : Pos} {l : Addr} {vs : List Value} {ns : List Int} {Q : Value → Loc → FP → Prop} (hl : g.IsList l vs.toArray) (hi : IntsAre vs ns) (hk : 0 ≤ k) (hz : ns.length ≤ 1000)
    (h : Op prog w A g L E (eval value env') (fun v m fp => v = .ref l ∧ ∀ D oD ws, (∀ p ∈ fp, p.1 < D) → LstOf oD ws → IntsAre ws (ns.take k.toNat) → Q (.ref D) m ((D, oD) :: fp)) m fp)
    (ht : ∀ r, letTemporaryGo value (.ref l) r = Pure.pure () := by intro _; rfl) :
    Op prog w A g L E (eval (.Subscript value (.Slice none (some (.Constant (.int k) j p1)) none p2) p3) env') Q m fp :=
  Op.of fun s F N _ kk => Subscript_ (h.use F N fun v h1 t1 m1 fp1 F1 N1 q1 => by
    obtain ⟨rfl, q1⟩ := q1
    refine wpAny_Slice ?_
    refine wpAny_pure ?_
    rw [evalPart_some]
    refine wpAny_Constant_int (k := j) (pos := p1) ?_
    refine wpAny_pure ?_
    have hl1 : h1.IsList l vs.toArray := hl.at fun o e => F1.keep l o e
    refine kmk_slice (s := { s with heap := h1, toks := t1 + 1 }) F1 N1 hl1 .none (.int k _) (fun D h' F' N' lt => ?_) rfl ht (by rw [List.size_toArray, hi.length, sizeLine_eq]; omega)
    exact kk _ h' (t1 + 1) _ _ F' N' (q1 D _ (slicePick vs.toArray none (some k) none).toList lt ⟨0, by simp⟩ (kmk_upto hi hk)))
/-- the iterator of an object, by its own __iter__, which gives the keys of a dict -/
theorem o_iterInst {x C dx f : Addr} {es : List DictEntry} {ep : Nat} {sl : Array (Option Value)} {Q : Value → Loc → FP → Prop} (cx : Cx w base outer g L A env n) (h1 : (x, (⟨.ref C, some dx, .plain, sl⟩ : Obj)) ∈ fp) (h2 : (dx, dictOf es ep) ∈ fp)
    (hs : findIn (K w.params) (.ref C) "__iter__" = some (some (.ref f))) (hf : isFn (K w.params) (.ref f) = true)
    (h : Op prog w A g L E (call (.ref f) [.ref x]) (fun v m fp => ∃ I io d i k e, v = .ref I ∧ (I, io) ∈ fp ∧ KdkIter io d i k e ∧ Q (.ref I) m fp) m fp) : Op prog w A g L E (pyIter (.ref x)) Q m fp :=
  Op.of fun s F N _ kk => owit_iter F cx.X (InstAt.of_news N h1 h2) hs hf (h.use F N fun v h' t' m' fp' F1 N1 ⟨I, io, d, i, k, e, ev, hm, hi, q⟩ => by
    subst ev
    unfold OwitIt
    have hT : Shared.TypeIs { s with heap := h', toks := t' } (.ref I) "dict_keyiterator" := ⟨io, (N1 _ hm).1, hi.1⟩
    exact wpAny_specialOf hT PySem.F.slot_dict_keyiterator_next.lookup (kk _ h' t' _ _ F1 N1 q))
end
end Mine
end
section
open PySem PySem.W PySem.Calls PyProof.Rows
set_option Elab.async false
set_option maxRecDepth 100000
set_option linter.unusedVariables false
namespace Mine
section
variable (P : Params)
theorem kf_iter : findIn (K P) (.ref 929) "__iter__" = some (some (.ref 763)) := by kernel_rfl
theorem kfn_763 : isFn (K P) (.ref 763) = true := by kernel_rfl
end
section
variable {prog : Program} {w : World} {A : Around} {g base : Heap} {outer : List Env} {L : Addr} {E : Value → Heap → Prop} {m : Loc} {fp fp1 rest : FP} {n : Nat} {env env' : Env} {U : List Use} {D : List (Int × Int)} {st : St} {ab : Ab} {cur : Int} {rt : Nd} {ch : List Nd}
  {cl : List (Str × Addr)}
theorem iter_spec {Q : Value → Loc → FP → Prop} (cx : Cx w base outer g L A env (n + 1)) (ci : CI prog w st ab cur rt ch)
    (h : ∀ I oI kv ep, (∀ p ∈ objs st ++ rest, p.1 < I) → KdkIter oI st.dA 0 kv.length ep → KdkAt (PySem.intKind prog w) st.oD kv ep → PairsI kv ab.D → Q (.ref I) m ((I, oI) :: (objs st ++ rest))) :
    Op prog w A g L E (call (.ref 763) [.ref st.c]) Q m (objs st ++ rest) := by
  obtain ⟨kv, hkv, lo, hp⟩ := ci.hD
  refine o_call cx (kl_763 _) (kc_763 _) (fun s _ => BindsTo.of_eq rfl) (locs rfl) (by decide) fun g' L' E' cx' _ _ => ?_
  exact o_cons (o_ret (o_nameCall (o_built cx' (kn_iter _) rfl (by decide) (o_callB (o_argsCons (o_attr (o_loc rfl (c_data cx' ci (o_argsNil (o_iter m_dA hkv lo fun I oI ep lt hi ha => h I oI kv ep lt hi ha hp))))))))))
theorem pairsI_get {kv : List (Int × Value)} {D : List (Int × Int)} (h : PairsI kv D) : ∀ {i : Nat} {k : Int} {x : Value}, kv[i]? = some (k, x) → ∃ v, D[i]? = some (k, v) := by
  induction h with
  | nil => intro i k x e; simp at e
  | cons r ih =>
    intro i k x e
    cases i with
    | zero => simp at e; exact ⟨_, by simp [e.1]; rfl⟩
    | succ i => simp at e ⊢; exact ih e
theorem pairsI_len {kv : List (Int × Value)} {D : List (Int × Int)} (h : PairsI kv D) : kv.length = D.length := by
  induction h with
  | nil => rfl
  | cons _ ih => simp [ih]
/-- [other for other in cache] -/
theorem other_comp {scope : Scope} {px p1 : Pos} {R : Addr → Obj → Loc → FP → Prop} (cx : Cx w base outer g L A env' (n + 1)) (ci : CI prog w st ab cur rt ch) (hlen : ab.D.length ≤ 1000)
    (k1 : ∀ C, (compEnvC scope cl C env).kindOf "other" = some .local) (k3 : ∀ C, (compEnvC scope cl C env).scope.kind = .function)
    (h : ∀ D' oD ys, (∀ p ∈ objs st ++ rest, p.1 < D') → LstOf oD ys → IntsAre ys (ab.D.map (·.1)) → R D' oD m (objs st ++ rest)) :
    Op prog w A g L E (pyIter (.ref st.c)) (fun it m2 fp2 => ∃ I oI fpB n P J B, it = .ref I ∧ (∀ p ∈ ((I, oI) :: fpB), p ∈ fp2) ∧ (∀ p ∈ fpB, p.1 ≠ I) ∧ n ≤ 1000 ∧ Src prog w A (.Name "other" px) I n P ((I, oI) :: fpB) ∧ CompOkG prog w A g env scope cl (.Name "other" px) [] (.Name "other" p1) I n P J B ∧
      (∀ D, (∀ p ∈ ((I, oI) :: fpB), p.1 < D) → J D 0 fpB []) ∧
      (∀ D fp3 ys oD, (∀ p ∈ ((I, oI) :: fpB), p.1 < D) → J D n fp3 ys → LstOf oD ys → R D oD m2 fp3)) m (objs st ++ rest) := by
  refine o_iterInst cx m_c m_dc (kf_iter _) (kfn_763 _) (iter_spec cx ci fun I oI kv ep lI hi ha hp => ⟨I, oI, _, _, _, _, rfl, .head _, hi, ?_⟩)
  have hkl := pairsI_len hp
  have hne : st.dA ≠ I := Nat.ne_of_lt (lI _ m_dA)
  have W := Walks.dictKeys (prog := prog) (w := w) (knd := PySem.intKind prog w) cx.handled I st.dA hne kv ep
  have hmA : (st.dA, st.oD) ∈ (objs st ++ rest) := m_dA
  generalize hF : (objs st ++ rest : FP) = fp0 at *
  refine ⟨I, oI, fp0, kv.length, _, fun D' i fp1 ys => fp1 = fp0 ∧ (∀ p ∈ fp0, p.1 < D') ∧ IntsAre ys ((ab.D.take i).map (·.1)) ∧ ys.length ≤ i, fun i u m' => m' "other" = some u, rfl, fun p hp => hp, fun p hp => Nat.ne_of_lt (lI p hp), by omega, ⟨_, _, W, ?_, ?_, ?_, fun i v s Q E st hq => wpAny_pure hq⟩, ⟨?_, ?_, ?_, ?_⟩, ?_, ?_⟩
  · intro b hb
    rcases List.mem_cons.mp hb with q | hb
    · rw [q]; exact ⟨_, .head _⟩
    · rw [List.mem_singleton.mp hb]; exact ⟨_, .tail _ hmA⟩
  · exact fun h' hk => ⟨hi.at (hk _ (.head _)), ha.dictAt (hk _ (.tail _ hmA))⟩
  · rintro i h' ⟨⟨o1, a1, _⟩, ⟨o2, _, a2, _⟩⟩ b hb
    rcases List.mem_cons.mp hb with q | hb
    · rw [q]; exact ⟨o1, a1⟩
    · rw [List.mem_singleton.mp hb]; exact ⟨o2, a2⟩
  · exact fun D i fp1 ys j => j.2.2.2
  · rintro D i fp1 ys ⟨rfl, j1, _⟩ p hp; exact ⟨Nat.ne_of_lt (lI p hp), Nat.ne_of_lt (j1 p hp)⟩
  · rintro D i u fp1 ys gC C hi hu _
    exact tgt_name (k1 C) (by rw [k3 C]; rfl)
  · rintro D' i u fp1 ys mC ext gC C oI' oD stg hi hu ⟨rfl, j1, j2, j3⟩ hmC hI hD
    obtain ⟨k, x, hx, hk⟩ := hu
    obtain ⟨v, hv⟩ := pairsI_get hp hx
    refine o_tests0 (by
      rw [if_pos rfl]
      refine o_locG rfl hmC ?_ (k3 C) (k1 C)
      cases u with
      | int k' t' =>
        have : k' = k := by simpa [PySem.intKind, Value.isInt] using hk
        subst this
        exact ⟨_, fun q hq => hq, rfl, j1, by rw [List.take_add_one, hv, List.map_append]; exact intsAre_snoc j2 _ _, by simp; omega⟩
      | _ => simp [PySem.intKind, Value.isInt] at hk)
  · exact fun D' lD => ⟨rfl, fun p hp => lD p (.tail _ hp), .nil, Nat.le_refl _⟩
  · rintro D' fp3 ys oD lD ⟨rfl, j1, j2, j3⟩ hl
    rw [hkl, List.take_length] at j2
    exact h D' oD ys j1 hl j2
/-- [pair[0] for pair in pairs] -/
theorem keys_comp {scope : Scope} {px p1 p2 p3 : Pos} {k : Nat} {v : Value} {R : Addr → Obj → Loc → FP → Prop} (hh : A.handled = none) (hP : PairsAt fp v D) (hlen : D.length ≤ 1000)
    (k1 : ∀ C, (compEnvC scope cl C env).kindOf "pair" = some .local) (k3 : ∀ C, (compEnvC scope cl C env).scope.kind = .function)
    (h : ∀ D' oD ys, (∀ p ∈ fp, p.1 < D') → LstOf oD ys → IntsAre ys (D.map (·.1)) → R D' oD m fp) :
    Op prog w A g L E (pyIter v) (fun it m2 fp2 => ∃ I oI fpB n P J B, it = .ref I ∧ (∀ p ∈ ((I, oI) :: fpB), p ∈ fp2) ∧ (∀ p ∈ fpB, p.1 ≠ I) ∧ n ≤ 1000 ∧ Src prog w A (.Name "pair" px) I n P ((I, oI) :: fpB) ∧ CompOkG prog w A g env scope cl (.Name "pair" px) [] (.Subscript (.Name "pair" p1) (.Constant (.int 0) k p2) p3) I n P J B ∧
      (∀ D, (∀ p ∈ ((I, oI) :: fpB), p.1 < D) → J D 0 fpB []) ∧
      (∀ D fp3 ys oD, (∀ p ∈ ((I, oI) :: fpB), p.1 < D) → J D n fp3 ys → LstOf oD ys → R D oD m2 fp3)) m fp := by
  obtain ⟨P, oP, vs, rfl, hmP, ho, ha⟩ := hP
  refine o_iterList hh hmP ho fun I oI lI src _ => ?_
  have hvl := ha.len
  refine ⟨I, oI, fp, vs.length, _, fun D' i fp1 ys => fp1 = fp ∧ (∀ p ∈ fp, p.1 < D') ∧ IntsAre ys ((D.take i).map (·.1)) ∧ ys.length ≤ i, fun i u m' => m' "pair" = some u, rfl, fun p hp => hp, fun p hp => Nat.ne_of_lt (lI p hp), by omega, src _ _, ⟨?_, ?_, ?_, ?_⟩, ?_, ?_⟩
  · exact fun D i fp1 ys j => j.2.2.2
  · rintro D i fp1 ys ⟨rfl, j1, _⟩ p hp; exact ⟨Nat.ne_of_lt (lI p hp), Nat.ne_of_lt (j1 p hp)⟩
  · rintro D i u fp1 ys gC C hi hu _
    exact tgt_name (k1 C) (by rw [k3 C]; rfl)
  · rintro D' i u fp1 ys mC ext gC C oI' oD stg hi hu ⟨rfl, j1, j2, j3⟩ hmC hI hD
    obtain ⟨p, hp, a, t1, t2, rfl, hap⟩ := ha.get hu
    refine o_tests0 (by
      rw [if_pos rfl]
      exact o_subscript (o_locG rfl hmC (o_int fun _ => o_tupItem (k := 0) (List.mem_append_right _ hap) rfl (by decide) ⟨_, fun q hq => hq, rfl, j1, by rw [List.take_add_one, hp, List.map_append]; exact intsAre_snoc j2 _ _, by simp; omega⟩) (k3 C) (k1 C)))
  · exact fun D' lD => ⟨rfl, fun p hp => lD p (.tail _ hp), .nil, Nat.le_refl _⟩
  · rintro D' fp3 ys oD lD ⟨rfl, j1, j2, j3⟩ hl
    rw [hvl, List.take_length] at j2
    exact h D' oD ys j1 hl j2
end
end Mine
end
section
open PySem PySem.W PySem.Calls PyProof.Rows
set_option Elab.async false
set_option maxRecDepth 100000
set_option linter.unusedVariables false
namespace Mine
/-- an object that is a bare object or a dict -/
def Bare (o : Obj) : Prop := o.data = .plain ∨ ∃ es ep, o.data = .dict es ep
theorem Bare.notSeq {o : Obj} (h : Bare o) {vs : Array Value} {n : Nat} : o.data ≠ .seq vs n := fun e => by
  rcases h with h | ⟨_, _, h⟩ <;> rw [e] at h <;> cases h
theorem Bare.notCell {o : Obj} (h : Bare o) {x : Option Value} : o.data ≠ .cell x := fun e => by
  rcases h with h | ⟨_, _, h⟩ <;> rw [e] at h <;> cases h
theorem IsD.bare {prog : Program} {w : World} {o : Obj} {kv : List (Int × Value)} (h : IsD prog w o kv) : Bare o := by
  obtain ⟨es, ep, _, e, _⟩ := h
  exact .inr ⟨es, ep, e⟩
/-- the state without its dead nodes -/
noncomputable def prune (st : St) (rt : Nd) (ch : List Nd) : St := { st with nodes := st.nodes.filter fun nd => @decide (nd ∈ rt :: ch) (Classical.propDecidable _) }
theorem prune_sub {st : St} {rt : Nd} {ch : List Nd} : ∀ p ∈ objs (prune st rt ch), p ∈ objs st := fun p hp => by
  simp only [objs, prune, List.mem_cons, List.mem_append, List.mem_flatMap] at hp ⊢
  rcases hp with h | h | h | h | h | ⟨nd, h1, h2⟩
  · exact .inl h
  · exact .inr (.inl h)
  · exact .inr (.inr (.inl h))
  · exact .inr (.inr (.inr (.inl h)))
  · exact .inr (.inr (.inr (.inr (.inl h))))
  · exact .inr (.inr (.inr (.inr (.inr ⟨nd, (List.mem_filter.mp h1).1, h2⟩))))
theorem flatMap_sublist {α β : Type} {f : α → List β} {a b : List α} (h : List.Sublist a b) : List.Sublist (a.flatMap f) (b.flatMap f) := by
  induction h with
  | slnil => exact List.Sublist.refl _
  | cons x _ ih => rw [List.flatMap_cons]; exact List.Sublist.trans ih (List.sublist_append_right _ _)
  | cons_cons x _ ih => rw [List.flatMap_cons, List.flatMap_cons]; exact List.Sublist.append (List.Sublist.refl _) ih
theorem prune_addrs {st : St} {rt : Nd} {ch : List Nd} : List.Sublist (addrs' (prune st rt ch)) (addrs' st) := by
  unfold addrs' prune
  exact .cons_cons _ (.cons_cons _ (.cons_cons _ (.cons_cons _ (List.Sublist.append (List.Sublist.refl _) (flatMap_sublist List.filter_sublist)))))
theorem WF.prune {st : St} {rest : FP} {rt : Nd} {ch : List Nd} (h : WF st rest) : WF (Mine.prune st rt ch) rest := by
  unfold WF at h ⊢
  exact List.Nodup.sublist (List.Sublist.append prune_addrs (List.Sublist.refl _)) h
theorem CI.prune {prog : Program} {w : World} {st : St} {ab : Ab} {cur : Int} {rt : Nd} {ch : List Nd} (h : CI prog w st ab cur rt ch) : CI prog w (Mine.prune st rt ch) ab cur rt ch :=
  ⟨h.att, ⟨List.mem_filter.mpr ⟨h.sh.rtm, by simp⟩, fun nd hn => List.mem_filter.mpr ⟨h.sh.chm nd hn, by simp [hn]⟩, h.sh.nod, h.sh.ring, h.sh.rt0⟩, h.kd, h.M, h.hL, h.hD, h.hS⟩
theorem CI.bare {prog : Program} {w : World} {st : St} {ab : Ab} {cur : Int} {rt : Nd} {ch : List Nd} (h : CI prog w st ab cur rt ch) (hr : Bare rt.oK) : ∀ p ∈ objs (Mine.prune st rt ch), Bare p.2 := fun p hp => by
  simp only [objs, Mine.prune, List.mem_cons, List.mem_append, List.mem_flatMap] at hp
  rcases hp with rfl | rfl | rfl | rfl | h1 | ⟨nd, h1, h2⟩
  · exact .inl rfl
  · exact .inr ⟨_, _, rfl⟩
  · obtain ⟨kv, a, _⟩ := h.hD; exact IsD.bare a
  · obtain ⟨kv, a, _⟩ := h.hL; exact IsD.bare a
  · have hS := h.hS
    cases q : st.sz with
    | none => rw [q] at h1; cases h1
    | some x =>
      rw [q] at h1 hS
      obtain ⟨sA, oS⟩ := x
      obtain ⟨_, kv, a, _⟩ := hS
      have : p = (sA, oS) := by simpa using h1
      subst this
      exact IsD.bare a
  · have hn : nd ∈ rt :: ch := by simpa using (List.mem_filter.mp h1).2
    simp only [ndObjs, List.mem_cons, List.not_mem_nil, or_false] at h2
    rcases h2 with rfl | rfl | rfl
    · exact .inl rfl
    · exact .inr ⟨_, _, rfl⟩
    · rcases List.mem_cons.mp hn with rfl | hn
      · exact hr
      · exact IsD.bare (h.kd nd hn).1
/-- one entry for each address -/
def uniq : FP → FP
  | [] => []
  | p :: r => if p.1 ∈ (uniq r).map (·.1) then uniq r else p :: uniq r
theorem uniq_nodup : ∀ fp : FP, ((uniq fp).map (·.1)).Nodup
  | [] => .nil
  | p :: r => by
    unfold uniq
    split
    · exact uniq_nodup r
    · rename_i h
      rw [List.map_cons, List.nodup_cons]; exact ⟨h, uniq_nodup r⟩
theorem uniq_sub : ∀ (fp : FP) (p : Addr × Obj), p ∈ uniq fp → p ∈ fp
  | [], _, h => nomatch h
  | q :: r, p, h => by
    unfold uniq at h
    split at h
    · exact .tail _ (uniq_sub r p h)
    · rcases List.mem_cons.mp h with rfl | h
      · exact .head _
      · exact .tail _ (uniq_sub r p h)
theorem mem_uniq : ∀ (fp : FP), (∀ p ∈ fp, ∀ q ∈ fp, p.1 = q.1 → p = q) → ∀ p ∈ fp, p ∈ uniq fp
  | [], _, _, h => nomatch h
  | q :: r, hc, p, h => by
    have ih := mem_uniq r fun a ha b hb => hc a (.tail _ ha) b (.tail _ hb)
    unfold uniq
    split
    · rename_i hm
      rcases List.mem_cons.mp h with rfl | h
      · obtain ⟨x, hx, e⟩ := List.mem_map.mp hm
        have := hc x (.tail _ (uniq_sub r x hx)) p (.head _) e
        rw [← this]; exact hx
      · exact ih p h
    · rcases List.mem_cons.mp h with rfl | h
      · exact .head _
      · exact .tail _ (ih p h)
section
variable {prog : Program} {w : World} {A : Around} {g base : Heap} {outer : List Env} {L : Addr} {E : Value → Heap → Prop} {m : Loc} {fp fp1 rest : FP} {n : Nat} {env env' : Env} {U : List Use} {D : List (Int × Int)} {st : St} {ab : Ab} {cur : Int} {rt : Nd} {ch : List Nd}
theorem Op.same {α : Type} {t : Sem α} {Q : α → Loc → FP → Prop} (h : (∀ p ∈ fp, ∀ q ∈ fp, p.1 = q.1 → p = q) → Op prog w A g L E t Q m fp) : Op prog w A g L E t Q m fp :=
  .intro fun s F N => (h fun p hp q hq e => by
    have a := (N p hp).1
    have b := (N q hq).1
    rw [e, b] at a
    exact Prod.ext e (Option.some.inj a).symm).run s F N
/-- the ledger parted anew: the state and the rest -/
theorem o_regroup {α : Type} {t : Sem α} {Q : α → Loc → FP → Prop} {rest0 : FP} (hw : WF st rest0) (hs : ∀ p ∈ objs st, p ∈ fp)
    (h : ∀ rest', WF st rest' → (∀ p ∈ fp, p ∈ objs st ∨ p ∈ rest') → (∀ p ∈ rest', p ∈ fp) → Op prog w A g L E t Q m (objs st ++ rest')) : Op prog w A g L E t Q m fp :=
  Op.same fun hc => by
    have hn : (addrs' st).Nodup := (List.nodup_append.mp hw).1
    refine Op.weaken (h (uniq (fp.filter fun p => decide (p.1 ∉ addrs' st))) ?_ ?_ ?_) ?_
    · unfold WF
      rw [List.nodup_append]
      refine ⟨hn, uniq_nodup _, fun a ha b hb e => ?_⟩
      obtain ⟨p, hp, rfl⟩ := List.mem_map.mp hb
      have := (List.mem_filter.mp (uniq_sub _ _ hp)).2
      simp only [decide_eq_true_eq] at this
      exact this (e ▸ ha)
    · intro p hp
      by_cases e : p.1 ∈ addrs' st
      · rw [← objs_addrs] at e
        obtain ⟨q, hq, eq⟩ := List.mem_map.mp e
        have := hc q (hs q hq) p hp eq
        exact .inl (this ▸ hq)
      · exact .inr (mem_uniq _ (fun a ha b hb => hc a (List.mem_filter.mp ha).1 b (List.mem_filter.mp hb).1) p (List.mem_filter.mpr ⟨hp, by simpa using e⟩))
    · exact fun p hp => (List.mem_filter.mp (uniq_sub _ _ hp)).1
    · intro p hp
      rcases List.mem_append.mp hp with hp | hp
      · exact hs p hp
      · exact (List.mem_filter.mp (uniq_sub _ _ hp)).1
theorem PairAt.off {v : Value} {p : Int × Int} (hb : ∀ q ∈ objs st, Bare q.2) (h : PairAt fp v p) (k : ∀ q ∈ fp, q ∈ objs st ∨ q ∈ rest) : PairAt rest v p := by
  obtain ⟨a, t1, t2, e, m⟩ := h
  exact ⟨a, t1, t2, e, (k _ m).resolve_left fun q => (hb _ q).notSeq rfl⟩
theorem UseAt.off {v : Value} {p : Use} (hb : ∀ q ∈ objs st, Bare q.2) (h : UseAt fp v p) (k : ∀ q ∈ fp, q ∈ objs st ∨ q ∈ rest) : UseAt rest v p := by
  obtain ⟨a, t1, t2, t3, e, m⟩ := h
  exact ⟨a, t1, t2, t3, e, (k _ m).resolve_left fun q => (hb _ q).notSeq rfl⟩
theorem lst_off {P : Addr} {oP : Obj} {vs : List Value} (hb : ∀ q ∈ objs st, Bare q.2) (h : (P, oP) ∈ fp) (l : LstOf oP vs) (k : ∀ q ∈ fp, q ∈ objs st ∨ q ∈ rest) : (P, oP) ∈ rest := by
  obtain ⟨n, rfl⟩ := l
  exact (k _ h).resolve_left fun q => (hb _ q).notSeq rfl
theorem PairsAt.off {v : Value} {D} (hb : ∀ q ∈ objs st, Bare q.2) (h : PairsAt fp v D) (k : ∀ q ∈ fp, q ∈ objs st ∨ q ∈ rest) : PairsAt rest v D := by
  obtain ⟨P, oP, vs, e, m, l, a⟩ := h
  exact ⟨P, oP, vs, e, lst_off hb m l k, l, a.mono fun _ _ x => x.off hb k⟩
theorem UsesAt.off {v : Value} {D} (hb : ∀ q ∈ objs st, Bare q.2) (h : UsesAt fp v D) (k : ∀ q ∈ fp, q ∈ objs st ∨ q ∈ rest) : UsesAt rest v D := by
  obtain ⟨P, oP, vs, e, m, l, a⟩ := h
  exact ⟨P, oP, vs, e, lst_off hb m l k, l, a.mono fun _ _ x => x.off hb k⟩
theorem IntsAt.off {v : Value} {D} (hb : ∀ q ∈ objs st, Bare q.2) (h : IntsAt fp v D) (k : ∀ q ∈ fp, q ∈ objs st ∨ q ∈ rest) : IntsAt rest v D := by
  obtain ⟨P, oP, vs, e, m, l, a⟩ := h
  exact ⟨P, oP, vs, e, lst_off hb m l k, l, a⟩
end
end Mine
end
section
open PySem PySem.W PySem.Calls PyProof.Rows
set_option Elab.async false
set_option maxRecDepth 100000
set_option linter.unusedVariables false
namespace Mine
def keysAt (M : List (Int × List Int)) (c : Int) : List Int := M.flatMap fun g => if g.1 = c then g.2 else []
def Grp (M : List (Int × List Int)) (U : List Use) : Prop := ∀ c, keysAt M c = (U.filter fun u => decide (u.count = c)).map (·.name)
theorem keysAt_append {A B : List (Int × List Int)} {c : Int} : keysAt (A ++ B) c = keysAt A c ++ keysAt B c := List.flatMap_append
theorem keysAt_cons {g : Int × List Int} {B : List (Int × List Int)} {c : Int} : keysAt (g :: B) c = (if g.1 = c then g.2 else []) ++ keysAt B c := List.flatMap_cons
theorem keysAt_nil {c : Int} : keysAt [] c = [] := rfl
theorem keysAt_none {A : List (Int × List Int)} {c : Int} (h : ∀ g ∈ A, g.1 ≠ c) : keysAt A c = [] := by
  induction A with
  | nil => rfl
  | cons g A ih => rw [keysAt_cons, if_neg (h g (.head _)), ih fun x hx => h x (.tail _ hx)]; rfl
theorem keysAt_sub {A : List (Int × List Int)} {c k : Int} (h : k ∈ keysAt A c) : k ∈ A.flatMap (·.2) := by
  obtain ⟨g, hg, hk⟩ := List.mem_flatMap.mp h
  split at hk
  · exact List.mem_flatMap.mpr ⟨g, hg, hk⟩
  · cases hk
theorem keysAt_dropE {c c' : Int} {ks : List Int} : keysAt (dropE c ks) c' = if c = c' then ks else [] := by
  unfold dropE
  split
  · rename_i h
    have : ks = [] := by simpa using h
    rw [keysAt_nil, this]; split <;> rfl
  · rw [keysAt_cons, keysAt_nil, List.append_nil]
theorem outOf_none {k : Int} {l : List Int} (h : k ∉ l) : outOf k l = l := by
  unfold outOf; rw [List.filter_eq_self]; intro x hx; simp; intro e; exact h (e ▸ hx)
theorem outOf_append {k : Int} {a b : List Int} : outOf k (a ++ b) = outOf k a ++ outOf k b := List.filter_append ..
theorem outOf_nil {k : Int} : outOf k [] = [] := rfl

theorem del_at {k : Int} {M M' : List (Int × List Int)} (mok : MOK M) (h : DelR k M M') (c' : Int) : keysAt M' c' = outOf k (keysAt M c') := by
  obtain ⟨pre, c, ks, r, rfl, hk, rfl⟩ := h
  have nod := mok.keys
  rw [List.flatMap_append, List.flatMap_cons] at nod
  have n1 := List.nodup_append.mp nod
  have n2 := List.nodup_append.mp n1.2.1
  have kpre : k ∉ keysAt pre c' := fun q => n1.2.2 k (keysAt_sub q) k (List.mem_append_left _ hk) rfl
  have kr : k ∉ keysAt r c' := fun q => n2.2.2 k hk k (keysAt_sub q) rfl
  rw [keysAt_append, keysAt_append, keysAt_dropE, keysAt_append, keysAt_cons, outOf_append, outOf_append, outOf_none kpre, outOf_none kr]
  split <;> rfl
theorem touch_at {k : Int} {M M' : List (Int × List Int)} (mok : MOK M) (h : TouchR k M M') : ∃ c, k ∈ keysAt M c ∧ ∀ c', keysAt M' c' = outOf k (keysAt M c') ++ if c' = c + 1 then [k] else [] := by
  obtain ⟨pre, c, ks, r, rfl, hk, rfl⟩ := h
  have nod := mok.keys
  rw [List.flatMap_append, List.flatMap_cons] at nod
  have n1 := List.nodup_append.mp nod
  have n2 := List.nodup_append.mp n1.2.1
  have asc := mok.asc
  rw [List.pairwise_append, List.pairwise_cons] at asc
  obtain ⟨a1, ⟨a2, a3⟩, a4⟩ := asc
  have kpre : ∀ c', k ∉ keysAt pre c' := fun c' q => n1.2.2 k (keysAt_sub q) k (List.mem_append_left _ hk) rfl
  have kr : ∀ c', k ∉ keysAt r c' := fun c' q => n2.2.2 k hk k (keysAt_sub q) rfl
  have one : ks.length = 1 → ks = [k] := fun e => by
    obtain ⟨y, hy⟩ := List.length_eq_one_iff.mp e
    subst hy; rw [List.mem_singleton.mp hk]
  have out1 : outOf k [k] = [] := by unfold outOf; simp
  have hpre1 : keysAt pre (c + 1) = [] := keysAt_none fun g hg => by
    have : g.1 < c := a4 g hg (c, ks) (.head _)
    omega
  refine ⟨c, ?_, fun c' => ?_⟩
  · rw [keysAt_append, keysAt_cons, if_pos rfl]
    exact List.mem_append_right _ (List.mem_append_left _ hk)
  rw [keysAt_append, keysAt_append (A := pre), keysAt_cons, outOf_append, outOf_append, outOf_none (kpre _), outOf_none (kr _), List.append_assoc, List.append_assoc]
  refine congrArg (keysAt pre c' ++ ·) ?_
  unfold stepM
  split
  · rename_i c2 ks2 r'
    have h2 : c < c2 := a2 (c2, ks2) (.head _)
    have hr' : ∀ g ∈ r', c2 < g.1 := (List.pairwise_cons.mp a3).1
    split
    · rename_i e2
      subst e2
      rw [keysAt_append, keysAt_dropE, keysAt_cons, keysAt_cons]
      by_cases e1 : c' = c + 1
      · subst e1
        have hz : keysAt r' (c + 1) = [] := keysAt_none fun g hg => by have := hr' g hg; omega
        have : ¬ c = c + 1 := by omega
        simp [this, hz, outOf_nil]
      · by_cases e0 : c = c'
        · subst e0
          have : ¬ c + 1 = c := by omega
          simp [this]
          intro z; omega
        · have : ¬ c + 1 = c' := fun z => e1 z.symm
          simp [this, e0, e1, outOf_nil]
    · rename_i e2
      have hz : keysAt ((c2, ks2) :: r') (c + 1) = [] := keysAt_none fun g hg => by
        rcases List.mem_cons.mp hg with rfl | hg
        · exact e2
        · have := hr' g hg; show g.1 ≠ c + 1; omega
      split
      · rename_i e3
        rw [one e3, keysAt_cons]
        by_cases e1 : c' = c + 1
        · subst e1
          have : ¬ c = c + 1 := by omega
          simp [this, hz, outOf_nil]
        · have : ¬ c + 1 = c' := fun z => e1 z.symm
          simp only [this, e1, if_false, List.nil_append, List.append_nil]
          split <;> simp [out1, outOf_nil]
      · rw [keysAt_append, keysAt_dropE, keysAt_cons]
        by_cases e1 : c' = c + 1
        · subst e1
          have : ¬ c = c + 1 := by omega
          simp [this, hz, outOf_nil]
        · have : ¬ c + 1 = c' := fun z => e1 z.symm
          simp only [this, e1, if_false, List.nil_append, List.append_nil]
          split <;> simp [outOf_nil]
  · split
    · rename_i e3
      rw [one e3, keysAt_cons, keysAt_nil]
      by_cases e1 : c' = c + 1
      · subst e1
        have : ¬ c = c + 1 := by omega
        simp [this, outOf_nil]
      · have : ¬ c + 1 = c' := fun z => e1 z.symm
        simp only [this, e1, if_false, List.nil_append, List.append_nil]
        split <;> simp [out1, outOf_nil]
    · rw [keysAt_append, keysAt_dropE, keysAt_cons, keysAt_nil]
      by_cases e1 : c' = c + 1
      · subst e1
        have : ¬ c = c + 1 := by omega
        simp [this, outOf_nil]
      · have : ¬ c + 1 = c' := fun z => e1 z.symm
        simp only [this, e1, if_false, List.nil_append, List.append_nil]
        split <;> simp [outOf_nil]
theorem add_at {k : Int} {M M' : List (Int × List Int)} (mok : MOK M) (h : AddR k M M') (c' : Int) : keysAt M' c' = keysAt M c' ++ if c' = 1 then [k] else [] := by
  rcases h with ⟨ks, r, rfl, rfl⟩ | ⟨hh, rfl⟩
  · have asc := (List.pairwise_cons.mp mok.asc).1
    rw [keysAt_cons, keysAt_cons]
    by_cases e1 : c' = 1
    · subst e1
      have hz : keysAt r 1 = [] := keysAt_none fun g hg => by have := asc g hg; show g.1 ≠ 1; simp only at this; omega
      simp [hz]
    · have : ¬ (1 : Int) = c' := fun z => e1 z.symm
      simp [this, e1]
  · rw [keysAt_cons]
    by_cases e1 : c' = 1
    · subst e1
      have hz : keysAt M 1 = [] := keysAt_none fun g hg => by
        cases M with
        | nil => cases hg
        | cons x M =>
          have h1 : x.1 ≠ 1 := hh x rfl
          have h2 : 0 < x.1 := mok.pos x (.head _)
          rcases List.mem_cons.mp hg with rfl | hg
          · exact h1
          · have := (List.pairwise_cons.mp mok.asc).1 g hg; omega
      simp [hz]
    · have : ¬ (1 : Int) = c' := fun z => e1 z.symm
      simp [this, e1]
end Mine
end
section
open PySem PySem.W PySem.Calls PyProof.Rows
set_option Elab.async false
set_option maxRecDepth 100000
set_option linter.unusedVariables false
namespace Mine
/-- the cache's contents and the table's -/
structure Co (ab : Ab) (U : List Use) (at_ : Int) : Prop where
  aok : AOK ab
  pu : PU ab.D U
  sorted : U.Pairwise fun a b => a.since < b.since
  below : ∀ u ∈ U, u.since < at_
  grp : Grp ab.M U
theorem outU_grp {U : List Use} {k c : Int} : ((outU U k).filter fun u => decide (u.count = c)).map (·.name) = outOf k ((U.filter fun u => decide (u.count = c)).map (·.name)) := by
  unfold outU outOf
  rw [List.filter_map, List.filter_filter, List.filter_filter]
  congr 1
  apply List.filter_congr
  intro u _
  show (decide (u.count = c) && decide (u.name ≠ k)) = (decide (u.name ≠ k) && decide (u.count = c))
  rw [Bool.and_comm]
theorem outU_sub {U : List Use} {k : Int} : List.Sublist (outU U k) U := List.filter_sublist
theorem Co.names {ab : Ab} {U : List Use} {a : Int} (h : Co ab U a) : (U.map (·.name)).Nodup := h.pu.perm.nodup_iff.mpr h.pu.dok.keys
theorem nodup_one {U : List Use} (h : (U.map (·.name)).Nodup) {u : Use} (hu : u ∈ U) : U.filter (fun x => decide (x.name = u.name)) = [u] := by
  induction U with
  | nil => cases hu
  | cons x U ih =>
    rw [List.map_cons, List.nodup_cons] at h
    rw [List.filter_cons]
    rcases List.mem_cons.mp hu with rfl | hu
    · rw [if_pos (by simp)]
      congr 1
      rw [List.filter_eq_nil_iff]
      intro y hy e
      have e : y.name = u.name := by simpa using e
      exact h.1 (List.mem_map.mpr ⟨y, hy, e⟩)
    · have : x.name ≠ u.name := fun e => h.1 (List.mem_map.mpr ⟨u, hu, e.symm⟩)
      rw [if_neg (by simpa using this)]
      exact ih h.2 hu
theorem countOf_of {U : List Use} (h : (U.map (·.name)).Nodup) {u : Use} (hu : u ∈ U) : countOf U u.name = u.count + 1 := by
  unfold countOf; rw [nodup_one h hu]; rfl
theorem countOf_none {U : List Use} {k : Int} (h : k ∉ U.map (·.name)) : countOf U k = 1 := by
  unfold countOf
  have : U.filter (fun u => decide (u.name = k)) = [] := by
    rw [List.filter_eq_nil_iff]
    intro y hy e
    have e : y.name = k := by simpa using e
    exact h (List.mem_map.mpr ⟨y, hy, e⟩)
  rw [this]; rfl
theorem counted_grp {U : List Use} {k a c : Int} : ((countedU U k a).filter fun u => decide (u.count = c)).map (·.name) = outOf k ((U.filter fun u => decide (u.count = c)).map (·.name)) ++ if c = countOf U k then [k] else [] := by
  unfold countedU
  rw [List.filter_append, List.map_append, outU_grp]
  congr 1
  rw [List.filter_cons, List.filter_nil]
  by_cases e : c = countOf U k
  · rw [if_pos (by simp [e]), if_pos e]; rfl
  · rw [if_neg (by simpa using fun z => e z.symm), if_neg e]; rfl
theorem counted_sorted {U : List Use} {k a : Int} (h : U.Pairwise fun a b => a.since < b.since) (hb : ∀ u ∈ U, u.since < a) : (countedU U k a).Pairwise fun a b => a.since < b.since := by
  unfold countedU
  rw [List.pairwise_append]
  refine ⟨h.sublist outU_sub, by simp, fun x hx y hy => ?_⟩
  rw [List.mem_singleton.mp hy]
  exact hb x (outU_sub.subset hx)
theorem counted_below {U : List Use} {k a : Int} (hb : ∀ u ∈ U, u.since < a) : ∀ u ∈ countedU U k a, u.since < a + 1 := by
  intro u hu
  unfold countedU at hu
  rcases List.mem_append.mp hu with hu | hu
  · have := hb u (outU_sub.subset hu); omega
  · rw [List.mem_singleton.mp hu]; show a < a + 1; omega
theorem counted_names {U : List Use} {k a : Int} : (countedU U k a).map (·.name) = (U.map (·.name)).filter (fun x => decide (x ≠ k)) ++ [k] := by
  unfold countedU; rw [List.map_append, outU_names]; rfl
theorem names_in {U : List Use} {k a : Int} (hn : (U.map (·.name)).Nodup) (hk : k ∈ U.map (·.name)) : ((countedU U k a).map (·.name)).Perm (U.map (·.name)) := by
  rw [counted_names]
  exact (List.perm_append_comm.trans (flat_out hn hk))
theorem names_new {U : List Use} {k a : Int} (hk : k ∉ U.map (·.name)) : (countedU U k a).map (·.name) = U.map (·.name) ++ [k] := by
  rw [counted_names]; congr 1; exact outOf_none hk
theorem Co.mono {ab : Ab} {U : List Use} {a b : Int} (h : Co ab U a) (hab : a ≤ b) : Co ab U b := ⟨h.aok, h.pu, h.sorted, fun u hu => Int.lt_of_lt_of_le (h.below u hu) hab, h.grp⟩
theorem Co.in_keys {ab : Ab} {U : List Use} {a k : Int} (h : Co ab U a) : k ∈ U.map (·.name) ↔ k ∈ ab.M.flatMap (·.2) := h.pu.perm.mem_iff.trans h.aok.perm.mem_iff.symm
/-- a key is used -/
theorem Co.touch {ab : Ab} {U : List Use} {a k : Int} {M' : List (Int × List Int)} (h : Co ab U a) (t : TouchR k ab.M M') : Co { ab with M := M' } (countedU U k a) (a + 1) := by
  obtain ⟨c, hc, ht⟩ := touch_at h.aok.mok t
  rw [h.grp c] at hc
  obtain ⟨u, hu, e⟩ := List.mem_map.mp hc
  obtain ⟨hu1, hu2⟩ := List.mem_filter.mp hu
  have hu2 : u.count = c := by simpa using hu2
  have hco : countOf U k = c + 1 := by rw [← e, countOf_of h.names hu1, hu2]
  have hk : k ∈ U.map (·.name) := List.mem_map.mpr ⟨u, hu1, e⟩
  exact ⟨h.aok.touch t, ⟨h.pu.dok, (names_in h.names hk).trans h.pu.perm⟩, counted_sorted h.sorted h.below, counted_below h.below, fun c' => by rw [counted_grp, ht c', h.grp c', hco]⟩
/-- a key goes -/
theorem Co.del {ab : Ab} {U : List Use} {a k : Int} {M' : List (Int × List Int)} (h : Co ab U a) (t : DelR k ab.M M') : Co { ab with D := withoutI ab.D k, M := M' } (outU U k) a :=
  ⟨h.aok.del t, h.pu.out k, h.sorted.sublist outU_sub, fun u hu => h.below u (outU_sub.subset hu), fun c' => by rw [outU_grp, del_at h.aok.mok t c', h.grp c']⟩
-- the least
theorem least_fold : ∀ (U : List Use) (b : Use), (U.foldl leastF b = b ∨ U.foldl leastF b ∈ U) ∧
    (∀ u, u = b ∨ u ∈ U → ¬ (u.count < (U.foldl leastF b).count ∨ (u.count = (U.foldl leastF b).count ∧ u.since < (U.foldl leastF b).since)))
  | [], b => ⟨.inl rfl, fun u hu => by
    rcases hu with rfl | hu
    · show ¬ (u.count < u.count ∨ (u.count = u.count ∧ u.since < u.since)); omega
    · cases hu⟩
  | x :: U, b => by
    rw [List.foldl_cons]
    obtain ⟨h1, h2⟩ := least_fold U (leastF b x)
    generalize U.foldl leastF (leastF b x) = r at *
    have hb := h2 (leastF b x) (.inl rfl)
    by_cases e : x.count < b.count ∨ (x.count = b.count ∧ x.since < b.since)
    · have ef : leastF b x = x := by unfold leastF; rw [if_pos e]
      rw [ef] at h1 hb
      refine ⟨.inr (h1.elim (fun z => z ▸ .head _) fun z => .tail _ z), fun u hu => ?_⟩
      rcases hu with rfl | hu
      · omega
      · rcases List.mem_cons.mp hu with rfl | hu
        · exact hb
        · exact h2 u (.inr hu)
    · have ef : leastF b x = b := by unfold leastF; rw [if_neg e]
      rw [ef] at h1 hb
      refine ⟨h1.elim .inl fun z => .inr (.tail _ z), fun u hu => ?_⟩
      rcases hu with rfl | hu
      · exact hb
      · rcases List.mem_cons.mp hu with rfl | hu
        · omega
        · exact h2 u (.inr hu)
theorem Co.least {ab : Ab} {U : List Use} {a c k : Int} {ks : List Int} {r : List (Int × List Int)} (h : Co ab U a) (hM : ab.M = (c, k :: ks) :: r) : U ≠ [] ∧ leastU U = k := by
  have hc := h.grp c
  rw [hM, keysAt_cons, if_pos rfl] at hc
  have hasc := (List.pairwise_cons.mp (hM ▸ h.aok.mok.asc)).1
  obtain ⟨u1, V, hV, hn⟩ : ∃ u1 V, (U.filter fun u => decide (u.count = c)) = u1 :: V ∧ u1.name = k := by
    cases q : (U.filter fun u => decide (u.count = c)) with
    | nil => rw [q] at hc; cases hc
    | cons u1 V => rw [q] at hc; injection hc with e1 e2; exact ⟨u1, V, rfl, e1.symm⟩
  have hu1 : u1 ∈ U.filter fun u => decide (u.count = c) := by rw [hV]; exact .head _
  obtain ⟨hu1U, hu1c⟩ := List.mem_filter.mp hu1
  have hu1c : u1.count = c := by simpa using hu1c
  have hmin : ∀ u ∈ U, c ≤ u.count := fun u hu => by
    have : u.name ∈ keysAt ab.M u.count := by rw [h.grp]; exact List.mem_map.mpr ⟨u, List.mem_filter.mpr ⟨hu, by simp⟩, rfl⟩
    obtain ⟨g, hg, hk⟩ := List.mem_flatMap.mp this
    split at hk
    · rename_i e
      rw [hM] at hg
      rcases List.mem_cons.mp hg with rfl | hg
      · simp only at e; omega
      · have := hasc g hg; simp only at this; omega
    · cases hk
  have hs : (u1 :: V).Pairwise fun a b => a.since < b.since := hV ▸ h.sorted.sublist List.filter_sublist
  cases U with
  | nil => cases hu1U
  | cons x U =>
    refine ⟨by simp, ?_⟩
    show ((x :: U).foldl leastF x).name = k
    obtain ⟨h1, h2⟩ := least_fold (x :: U) x
    generalize hb : (x :: U).foldl leastF x = b at *
    have hbU : b ∈ x :: U := h1.elim (fun z => z ▸ .head _) id
    have h3 := h2 u1 (.inr hu1U)
    have h4 := hmin b hbU
    have hbc : b.count = c := by omega
    have hbV : b ∈ u1 :: V := hV ▸ List.mem_filter.mpr ⟨hbU, by simpa using hbc⟩
    rcases List.mem_cons.mp hbV with rfl | hbV
    · exact hn
    · have := (List.pairwise_cons.mp hs).1 b hbV
      omega
theorem Co.empty {ab : Ab} {U : List Use} {a : Int} (h : Co ab U a) : ab.M = [] ↔ U = [] := by
  constructor
  · intro e
    cases U with
    | nil => rfl
    | cons u U =>
      have := h.grp u.count
      rw [e, keysAt_nil, List.filter_cons, if_pos (by simp)] at this
      cases this
  · intro e
    cases q : ab.M with
    | nil => rfl
    | cons g M =>
      have := h.aok.mok.full g (q ▸ .head _)
      have hc := h.grp g.1
      rw [q, e, keysAt_cons, if_pos rfl] at hc
      have := List.append_eq_nil_iff.mp hc
      exact absurd this.1 ‹_›
end Mine
end
section
open PySem PySem.W PySem.Calls PyProof.Rows
set_option Elab.async false
set_option maxRecDepth 100000
set_option linter.unusedVariables false
namespace Mine
structure Co2 (ab : Ab) (U : List Use) (at_ : Int) : Prop where
  co : Co ab U at_
  szs : ∀ p ∈ ab.D, 0 ≤ szOf ab.sized p.2
  cur : roomOf ab.sized ab.D ≤ ab.room
def ansD : Ans → PyData
  | .nil => .list []
  | .int n => .list [.int n]
  | .bool b => .list [.bool b]
  | .pair k v => .list [.tuple [.int k, .int v]]
  | .missing => .list [.str "missing"]
  | .refused => .list [.str "refused"]
theorem room_le {s : Bool} {D : List (Int × Int)} {k : Int} (h : ∀ p ∈ D, 0 ≤ szOf s p.2) : roomOf s (withoutI D k) ≤ roomOf s D := by
  induction D with
  | nil => exact Int.le_refl _
  | cons x D ih =>
    have ih := ih fun p hp => h p (.tail _ hp)
    have hx := h x (.head _)
    unfold roomOf withoutI at ih ⊢
    rw [List.filter_cons]
    split
    · simp only [List.map_cons, List.sum_cons]; omega
    · simp only [List.map_cons, List.sum_cons]; omega
theorem without_mem {D : List (Int × Int)} {k : Int} {p : Int × Int} (h : p ∈ withoutI D k) : p ∈ D := (List.mem_filter.mp h).1
theorem without_none {D : List (Int × Int)} {k : Int} (h : atI D k = none) : withoutI D k = D := by
  unfold withoutI
  rw [List.filter_eq_self]
  intro p hp
  have : p.1 ≠ k := fun e => by
    have := atI_mem.mpr (List.mem_map.mpr ⟨p, hp, e⟩)
    rw [h] at this; cases this
  simpa using this
theorem Co2.mono {ab : Ab} {U : List Use} {a b : Int} (h : Co2 ab U a) (hab : a ≤ b) : Co2 ab U b := ⟨h.co.mono hab, h.szs, h.cur⟩
theorem Co2.touch {ab : Ab} {U : List Use} {a k : Int} {M' : List (Int × List Int)} (h : Co2 ab U a) (t : TouchR k ab.M M') : Co2 { ab with M := M' } (countedU U k a) (a + 1) := ⟨h.co.touch t, h.szs, h.cur⟩
theorem Co2.del {ab : Ab} {U : List Use} {a k : Int} {M' : List (Int × List Int)} (h : Co2 ab U a) (t : DelR k ab.M M') : Co2 { ab with D := withoutI ab.D k, M := M' } (outU U k) a :=
  ⟨h.co.del t, fun p hp => h.szs p (without_mem hp), Int.le_trans (room_le h.szs) h.cur⟩
/-- making room, on both sides -/
theorem ev_both {key sz : Int} {ab ab1 : Ab} (h : EvR key sz ab ab1) : ∀ {U U1 : List Use} {D1 : List (Int × Int)} {a : Int}, Co2 ab U a → EvU ab.sized ab.room key sz ab.D U D1 U1 → ab1.D = D1 ∧ Co2 ab1 U1 a ∧ ab1.sized = ab.sized ∧ ab1.room = ab.room ∧ ¬ roomOf ab.sized (withoutI D1 key) + sz > ab.room := by
  induction h with
  | done hc =>
    intro U U1 D1 a co e
    cases e with
    | done _ => exact ⟨rfl, co, rfl, rfl, hc⟩
    | step hc' _ _ => exact absurd hc' hc
  | @step ab ab' c k ks r M' hc hM hdel _ ih =>
    intro U U1 D1 a co e
    obtain ⟨hne, hl⟩ := co.co.least hM
    cases e with
    | done hc' => exact absurd hc hc'
    | step _ _ e => rw [hl] at e; exact ih (co.del hdel) e
theorem stored_keys_old {D : List (Int × Int)} {k v v0 : Int} (h : atI D k = some v0) : (storedI D k v).map (·.1) = D.map (·.1) := by
  rw [storedI_old (by rw [h]; rfl), List.map_map]
  apply List.map_congr_left
  intro p _
  show (if p.1 = k then (p.1, v) else p).1 = p.1
  split <;> rfl
theorem stored_mem {D : List (Int × Int)} {k v : Int} {p : Int × Int} (h : p ∈ storedI D k v) : p.2 = v ∨ p ∈ D := by
  unfold storedI at h
  split at h
  · obtain ⟨q, hq, rfl⟩ := List.mem_map.mp h
    show (if q.1 = k then (q.1, v) else q).2 = v ∨ _
    split
    · exact .inl rfl
    · exact .inr hq
  · rcases List.mem_append.mp h with h | h
    · exact .inr h
    · rw [List.mem_singleton.mp h]; exact .inl rfl
theorem set_both {key value a : Int} {ab ab' : Ab} {U U1 : List Use} {D1 : List (Int × Int)} (co : Co2 ab U a) (hk : 0 ≤ key ∧ key < 5) (h0 : 0 ≤ szOf ab.sized value) (h : SetR key value ab ab') (e : EvU ab.sized ab.room key (szOf ab.sized value) ab.D U D1 U1) :
    ab'.D = storedI D1 key value ∧ Co2 ab' (countedU U1 key a) (a + 1) ∧ ab'.sized = ab.sized ∧ ab'.room = ab.room := by
  obtain ⟨ab1, M', hev, hM, h1, h2, rfl⟩ := h
  obtain ⟨rfl, co1, h1, h2, hc⟩ := ev_both hev co e
  rw [← h1, ← h2] at hc
  rw [← h1] at h0
  refine ⟨rfl, ?_, h1, h2⟩
  have szs : ∀ p ∈ storedI ab1.D key value, 0 ≤ szOf ab1.sized p.2 := fun p hp => by
    rcases stored_mem hp with e | hp
    · rw [e]; exact h0
    · exact co1.szs p hp
  rcases hM with ⟨hin, ht⟩ | ⟨hout, ht⟩
  · have hkD : key ∈ ab1.D.map (·.1) := co1.co.aok.perm.mem_iff.mp hin
    obtain ⟨v0, hv0⟩ := atI_of_mem hkD
    have hks := stored_keys_old (v := value) hv0
    have ct := co1.co.touch (k := key) ht
    have hr := roomOf_stored_old (sized := ab1.sized) (v := value) co1.co.pu.dok.keys hv0
    have hr2 := roomOf_without (sized := ab1.sized) co1.co.pu.dok.keys hv0
    exact ⟨⟨⟨ct.aok.mok, ⟨by show ((storedI ab1.D key value).map (·.1)).Nodup; rw [hks]; exact ct.aok.dok.keys, fun x hx => ct.aok.dok.small x (by show x ∈ ab1.D.map (·.1); rw [← hks]; exact hx)⟩, by show (List.Perm _ ((storedI ab1.D key value).map (·.1))); rw [hks]; exact ct.aok.perm⟩,
      ⟨⟨by show ((storedI ab1.D key value).map (·.1)).Nodup; rw [hks]; exact ct.pu.dok.keys, fun x hx => ct.pu.dok.small x (by show x ∈ ab1.D.map (·.1); rw [← hks]; exact hx)⟩, by show (List.Perm _ ((storedI ab1.D key value).map (·.1))); rw [hks]; exact ct.pu.perm⟩, ct.sorted, ct.below, ct.grp⟩, szs, by show roomOf ab1.sized (storedI ab1.D key value) ≤ ab1.room; omega⟩
  · have hkD : key ∉ ab1.D.map (·.1) := fun q => hout (co1.co.aok.perm.mem_iff.mpr q)
    have hat : atI ab1.D key = none := by
      cases q : atI ab1.D key with
      | none => rfl
      | some v => exact absurd (atI_mem.mp (by rw [q]; rfl)) hkD
    have hst := storedI_new (v := value) hat
    obtain ⟨mok', hp⟩ := co1.co.aok.mok.add ht hout hk
    have hkU : key ∉ U1.map (·.name) := fun q => hout (co1.co.in_keys.mp q)
    have hr := roomOf_app (sized := ab1.sized) (D := ab1.D) (k := key) (v := value)
    have hw := without_none hat
    have hkeys : (storedI ab1.D key value).map (·.1) = ab1.D.map (·.1) ++ [key] := by rw [hst, List.map_append]; rfl
    have dok' : DOK (storedI ab1.D key value) := ⟨by
      rw [hkeys, List.nodup_append]
      refine ⟨co1.co.pu.dok.keys, by simp, fun x hx y hy e => ?_⟩
      rw [List.mem_singleton.mp hy] at e
      exact hkD (e ▸ hx), fun x hx => by
      rw [hkeys] at hx
      rcases List.mem_append.mp hx with hx | hx
      · exact co1.co.pu.dok.small x hx
      · rw [List.mem_singleton.mp hx]; exact hk⟩
    refine ⟨⟨⟨mok', dok', ?_⟩, ⟨dok', ?_⟩, counted_sorted co1.co.sorted co1.co.below, counted_below co1.co.below, fun c' => ?_⟩, szs, ?_⟩
    · show (M'.flatMap (·.2)).Perm ((storedI ab1.D key value).map (·.1))
      rw [hkeys]
      exact hp.trans ((List.Perm.cons key co1.co.aok.perm).trans (List.perm_append_comm (l₁ := [key])))
    · show (List.Perm ((countedU U1 key a).map (·.name)) ((storedI ab1.D key value).map (·.1)))
      rw [hkeys, names_new hkU]
      exact co1.co.pu.perm.append_right _
    · show keysAt M' c' = _
      rw [counted_grp, countOf_none hkU, add_at co1.co.aok.mok ht c', co1.co.grp c']
      congr 1
      refine (outOf_none fun q => hkU ?_).symm
      obtain ⟨u, hu, e⟩ := List.mem_map.mp q
      exact List.mem_map.mpr ⟨u, (List.mem_filter.mp hu).1, e⟩
    · show roomOf ab1.sized (storedI ab1.D key value) ≤ ab1.room
      rw [hst, hr]; rw [hw] at hc; omega
theorem outU_counted {U : List Use} {k a : Int} : outU (countedU U k a) k = outU U k := by
  unfold countedU outU
  rw [List.filter_append, List.filter_filter]
  simp
end Mine
end
section
open PySem PySem.W PySem.Calls PyProof.Rows
set_option Elab.async false
set_option maxRecDepth 100000
set_option linter.unusedVariables false
namespace Mine
def Both (ab : Ab) (a : Int) (ab' : Ab) (ans : Ans) (d : PyData) (D' : List (Int × Int)) (U' : List Use) : Prop :=
  d = ansD ans ∧ ab'.D = D' ∧ ab'.sized = ab.sized ∧ ab'.room = ab.room ∧ Co2 ab' U' (a + 1)
section
variable {key value deed a : Int} {ab ab' : Ab} {U U' : List Use} {D' : List (Int × Int)} {ans : Ans} {d : PyData}
theorem put_both {good : Ans} (co : Co2 ab U a) (hk : 0 ≤ key ∧ key < 5) (hg : good = .nil ∨ ∃ n, good = .int n) (r : PutR key value good ab ab' ans)
    (u : ∃ b, PutU ab.sized ab.room key value a ab.D U b D' U' ∧ ((b = .list [] ∧ d = ansD good) ∨ (b = .list [.str "refused"] ∧ d = b))) : Both ab a ab' ans d D' U' := by
  obtain ⟨b, pu, hb⟩ := u
  rcases r with ⟨hf, hs, rfl⟩ | ⟨hf, rfl, rfl⟩
  · rcases pu with ⟨_, D1, U1, ev, rfl, rfl, rfl⟩ | ⟨hn, _⟩
    · obtain ⟨e1, e2, e3, e4⟩ := set_both co hk hf.1 hs ev
      rcases hb with ⟨_, rfl⟩ | ⟨hb, _⟩
      · exact ⟨rfl, e1, e3, e4, e2⟩
      · injection hb with hb; cases hb
    · exact absurd hf hn
  · rcases pu with ⟨hy, _⟩ | ⟨_, rfl, rfl, rfl⟩
    · exact absurd hy hf
    · rcases hb with ⟨hb, _⟩ | ⟨_, rfl⟩
      · injection hb with hb; cases hb
      · exact ⟨rfl, rfl, rfl, rfl, co.mono (by omega)⟩
theorem use_both {miss : Ans} (co : Co2 ab U a) (r : UseR key miss ab ab' ans)
    (u : (atI ab.D key = none ∧ d = ansD miss ∧ D' = ab.D ∧ U' = U) ∨ (∃ v, atI ab.D key = some v ∧ d = .list [.int v] ∧ D' = ab.D ∧ U' = countedU U key a)) : Both ab a ab' ans d D' U' := by
  rcases r with ⟨v, M', hat, ht, rfl, rfl⟩ | ⟨hat, rfl, rfl⟩
  · rcases u with ⟨hn, _⟩ | ⟨v', hat', rfl, rfl, rfl⟩
    · rw [hat] at hn; cases hn
    · rw [hat] at hat'; injection hat' with e; subst e
      exact ⟨rfl, rfl, rfl, rfl, co.touch ht⟩
  · rcases u with ⟨_, rfl, rfl, rfl⟩ | ⟨v', hat', _⟩
    · exact ⟨rfl, rfl, rfl, rfl, co.mono (by omega)⟩
    · rw [hat] at hat'; cases hat'
theorem take_both {miss : Ans} (co : Co2 ab U a) (r : TakeR key miss ab ab' ans)
    (u : (atI ab.D key = none ∧ d = ansD miss ∧ D' = ab.D ∧ U' = U) ∨ (∃ v, atI ab.D key = some v ∧ d = .list [.int v] ∧ D' = withoutI ab.D key ∧ U' = outU U key)) : Both ab a ab' ans d D' U' := by
  rcases r with ⟨v, M1, M', hat, ht, hd, rfl, rfl⟩ | ⟨hat, rfl, rfl⟩
  · rcases u with ⟨hn, _⟩ | ⟨v', hat', rfl, rfl, rfl⟩
    · rw [hat] at hn; cases hn
    · rw [hat] at hat'; injection hat' with e; subst e
      have := (co.touch ht).del (k := key) (M' := M') hd
      rw [outU_counted] at this
      exact ⟨rfl, rfl, rfl, rfl, this⟩
  · rcases u with ⟨_, rfl, rfl, rfl⟩ | ⟨v', hat', _⟩
    · exact ⟨rfl, rfl, rfl, rfl, co.mono (by omega)⟩
    · rw [hat] at hat'; cases hat'
theorem clear_co (co : Co2 ab U a) (h0 : 0 ≤ ab.room) : Co2 { ab with D := [], M := [] } [] (a + 1) :=
  ⟨⟨⟨⟨.nil, fun _ h => (nomatch h), fun _ h => (nomatch h), fun _ h => (nomatch h), .nil⟩, ⟨.nil, fun _ h => (nomatch h)⟩, .nil⟩, ⟨⟨.nil, fun _ h => (nomatch h)⟩, .nil⟩, .nil, fun _ h => (nomatch h), fun c => rfl⟩, fun _ h => (nomatch h), h0⟩
/-- one deed, on both sides -/
theorem deed_both (co : Co2 ab U a) (h0 : 0 ≤ ab.room) (hk : 0 ≤ key ∧ key < 5) (hd : 0 ≤ deed ∧ deed < 10) (r : DeedR deed key value ab ab' ans) (u : DueU ab.sized ab.room deed key value a ab.D U d D' U') : Both ab a ab' ans d D' U' := by
  unfold DeedR at r
  unfold DueU at u
  by_cases d1 : deed < 2
  · rw [if_pos d1] at r
    rw [if_pos (.inl d1)] at u
    refine put_both co hk (.inl rfl) r ?_
    obtain ⟨b, p, q⟩ := u
    refine ⟨b, p, ?_⟩
    rw [if_neg (by omega)] at q
    exact q
  rw [if_neg d1] at r
  by_cases d2 : deed = 2
  · rw [if_pos d2] at r
    rw [if_neg (by omega), if_neg (by omega), if_neg (by omega), if_neg (by omega)] at u
    refine use_both co r ?_
    rcases u with ⟨h1, h2, h3, h4⟩ | ⟨v, h1, h2⟩
    · refine .inl ⟨h1, ?_, h3, h4⟩
      rw [h2, d2]; rfl
    · rw [if_neg (by omega)] at h2
      exact .inr ⟨v, h1, h2⟩
  rw [if_neg d2] at r
  by_cases d3 : deed = 3
  · rw [if_pos d3] at r
    rw [if_neg (by omega), if_pos d3] at u
    obtain ⟨rfl, rfl⟩ := r
    obtain ⟨rfl, rfl, rfl⟩ := u
    exact ⟨rfl, rfl, rfl, rfl, co.mono (by omega)⟩
  rw [if_neg d3] at r
  by_cases d4 : deed = 4
  · rw [if_pos d4] at r
    rw [if_neg (by omega), if_neg (by omega), if_neg (by omega), if_neg (by omega)] at u
    refine use_both co r ?_
    rcases u with ⟨h1, h2, h3, h4⟩ | ⟨v, h1, h2⟩
    · refine .inl ⟨h1, ?_, h3, h4⟩
      rw [h2, d4]; rfl
    · rw [if_neg (by omega)] at h2
      exact .inr ⟨v, h1, h2⟩
  rw [if_neg d4] at r
  by_cases d5 : deed = 5
  · rw [if_pos d5] at r
    rw [if_neg (by omega), if_neg (by omega), if_neg (by omega), if_neg (by omega)] at u
    refine take_both co r ?_
    rcases u with ⟨h1, h2, h3, h4⟩ | ⟨v, h1, h2⟩
    · refine .inl ⟨h1, ?_, h3, h4⟩
      rw [h2, d5]; rfl
    · rw [if_pos (by omega), if_neg (by omega)] at h2
      exact .inr ⟨v, h1, h2⟩
  rw [if_neg d5] at r
  by_cases d6 : deed = 6
  · rw [if_pos d6] at r
    cases hat : atI ab.D key with
    | some x =>
      rw [hat, if_pos (by rfl)] at r
      rw [if_neg (by rw [hat]; intro q; rcases q with q | ⟨_, q⟩; exact d1 q; cases q), if_neg (by omega), if_neg (by omega), if_neg (by omega)] at u
      refine use_both co r ?_
      rcases u with ⟨h1, h2, h3, h4⟩ | ⟨v, h1, h2⟩
      · rw [hat] at h1; cases h1
      · rw [if_neg (by omega)] at h2
        exact .inr ⟨v, h1, h2⟩
    | none =>
      rw [hat, if_neg (by simp)] at r
      rw [if_pos (.inr ⟨d6, hat⟩)] at u
      refine put_both co hk (.inr ⟨_, rfl⟩) r ?_
      obtain ⟨b, p, q⟩ := u
      refine ⟨b, p, ?_⟩
      rw [if_pos d6] at q
      exact q
  rw [if_neg d6] at r
  by_cases d7 : deed = 7
  · rw [if_pos d7] at r
    rw [if_neg (by omega), if_neg (by omega), if_neg (by omega), if_neg (by omega)] at u
    rcases r with ⟨v, M', hat, hdel, rfl, rfl⟩ | ⟨hat, rfl, rfl⟩
    · rcases u with ⟨hn, _⟩ | ⟨v', hat', h2⟩
      · rw [hat] at hn; cases hn
      · rw [if_pos (by omega), if_pos d7] at h2
        obtain ⟨rfl, rfl, rfl⟩ := h2
        exact ⟨rfl, rfl, rfl, rfl, (co.del hdel).mono (by omega)⟩
    · rcases u with ⟨_, rfl, rfl, rfl⟩ | ⟨v', hat', _⟩
      · refine ⟨?_, rfl, rfl, rfl, co.mono (by omega)⟩
        rw [d7]; rfl
      · rw [hat] at hat'; cases hat'
  rw [if_neg d7] at r
  by_cases d8 : deed = 8
  · rw [if_pos d8] at r
    rw [if_neg (by omega), if_neg (by omega), if_pos d8] at u
    rcases r with ⟨c, k, ks, rr, v, M', hM, hat, hdel, rfl, rfl⟩ | ⟨hM, rfl, rfl⟩
    · obtain ⟨hne, hl⟩ := co.co.least hM
      rcases u with ⟨hn, _⟩ | ⟨_, v', hat', rfl, rfl, rfl⟩
      · exact absurd hn hne
      · rw [hl] at hat' ⊢
        rw [hat] at hat'; injection hat' with e; subst e
        exact ⟨rfl, rfl, rfl, rfl, (co.del hdel).mono (by omega)⟩
    · rcases u with ⟨_, rfl, rfl, rfl⟩ | ⟨hne, _⟩
      · exact ⟨rfl, rfl, rfl, rfl, co.mono (by omega)⟩
      · exact absurd (co.co.empty.mp hM) hne
  rw [if_neg d8] at r
  have d9 : deed = 9 := by omega
  by_cases v4 : value % 4 = 0
  · rw [if_pos v4] at r
    rw [if_neg (by omega), if_neg (by omega), if_neg (by omega), if_pos ⟨d9, v4⟩] at u
    obtain ⟨rfl, rfl⟩ := r
    obtain ⟨rfl, rfl, rfl⟩ := u
    exact ⟨rfl, rfl, rfl, rfl, clear_co co h0⟩
  · rw [if_neg v4] at r
    rw [if_neg (by omega), if_neg (by omega), if_neg (by omega), if_neg (fun q => v4 q.2)] at u
    refine take_both co r ?_
    rcases u with ⟨h1, h2, h3, h4⟩ | ⟨v, h1, h2⟩
    · refine .inl ⟨h1, ?_, h3, h4⟩
      rw [h2, d9]; rfl
    · rw [if_pos (by omega), if_neg (by omega)] at h2
      exact .inr ⟨v, h1, h2⟩
end
end Mine
end
section
open PySem PySem.W PySem.Calls PyProof.Rows
set_option Elab.async false
set_option maxRecDepth 100000
set_option linter.unusedVariables false
namespace Mine
section
variable (P : Params)
theorem kf_currsize : findIn (K P) (.ref 929) "currsize" = some (some (.ref 817)) := by kernel_rfl
theorem kf_maxsize : findIn (K P) (.ref 929) "maxsize" = some (some (.ref 809)) := by kernel_rfl
theorem kg_817 : specialIn (K P) (.ref 817) "__get__" = some (some (.builtin "property.__get__")) := by kernel_rfl
theorem kg_809 : specialIn (K P) (.ref 809) "__get__" = some (some (.builtin "property.__get__")) := by kernel_rfl
theorem kt_817 : takesIn (K P) (.ref 817) = some true := by kernel_rfl
theorem kt_809 : takesIn (K P) (.ref 809) = some true := by kernel_rfl
theorem kr_817 : recIn (K P) 817 "property" = some [.ref 816, .none, .none, .none, .str "currsize" 1274, .bool false] := by kernel_rfl
theorem kr_809 : recIn (K P) 809 "property" = some [.ref 808, .none, .none, .none, .str "maxsize" 1266, .bool false] := by kernel_rfl
theorem kf_len929 : findIn (K P) (.ref 929) "__len__" = some (some (.ref 770)) := by kernel_rfl
theorem kfn_770 : isFn (K P) (.ref 770) = true := by kernel_rfl
theorem kn_deed : nsIn (K P) mainGlobals "_law_deed" = some (some (.ref 979)) := by kernel_rfl
theorem kp_979 : keepIn (K P) (.ref 979) = true := by kernel_rfl
theorem kp_929 : keepIn (K P) (.ref 929) = true := by kernel_rfl
theorem kn_range : nsIn (K P) mainGlobals "range" = some none := by kernel_rfl
end
noncomputable abbrev env989 (L fa : Addr) (cd : Value) : Env := envX "law" f989.1.2.2 L fa cd (cellsFrom (L + 1) f989.1.2.2.names [])
section
variable {prog : Program} {w : World} {A : Around} {g base : Heap} {outer : List Env} {L : Addr} {E : Value → Heap → Prop} {m : Loc} {fp fp1 rest : FP} {n : Nat} {env env' : Env} {U : List Use} {D : List (Int × Int)} {st : St} {ab : Ab} {cur : Int} {rt : Nd} {ch : List Nd} {ex : Bool}
theorem c_currsize {Q : Value → Loc → FP → Prop} (cx : Cx w base outer g L A env (n + 2)) (ci : CI prog w st ab cur rt ch) (h : ∀ t, Q (.int cur t) m (objs st ++ rest)) : Op prog w A g L E (getAttr (.ref st.c) "currsize" ex) Q m (objs st ++ rest) :=
  o_prop cx m_c m_dc (kf_pg _ _) (kf_hd _) (kf_currsize _) (kg_817 _) (kt_817 _) (kr_817 _) (kl_816 _) (kc_816 _) (fun s _ => BindsTo.of_eq rfl) (locs rfl) (by decide) fun g' L' E' cx' _ _ => o_cons (o_ret (o_attr (o_loc rfl (c_cur cx' ci fun t => ⟨rfl, h t⟩))))
theorem c_maxsize {Q : Value → Loc → FP → Prop} (cx : Cx w base outer g L A env (n + 2)) (ci : CI prog w st ab cur rt ch) (h : ∀ t, Q (.int ab.room t) m (objs st ++ rest)) : Op prog w A g L E (getAttr (.ref st.c) "maxsize" ex) Q m (objs st ++ rest) :=
  o_prop cx m_c m_dc (kf_pg _ _) (kf_hd _) (kf_maxsize _) (kg_809 _) (kt_809 _) (kr_809 _) (kl_808 _) (kc_808 _) (fun s _ => BindsTo.of_eq rfl) (locs rfl) (by decide) fun g' L' E' cx' _ _ => o_cons (o_ret (o_attr (o_loc rfl (c_max cx' ci fun t => ⟨rfl, h t⟩))))
theorem c_len {Q : Value → Loc → FP → Prop} (cx : Cx w base outer g L A env (n + 2)) (ci : CI prog w st ab cur rt ch) (dok : DOK ab.D) (h : ∀ t, Q (.int ab.D.length t) m (objs st ++ rest)) : Op prog w A g L E (call (.builtin "len") [.ref st.c]) Q m (objs st ++ rest) :=
  o_lenInst cx m_c m_dc (kf_len929 _) (kfn_770 _) (clen_spec cx.in1 ci dok fun t => ⟨_, _, rfl, ⟨by omega, by have := dok.five; omega⟩, h⟩)

/-- the state of law between two deeds -/
structure LawSt (prog : Program) (w : World) (cg : Addr) (nums : List Int) (tr : Tok) (m : Loc) (st : St) (rest : FP) (rt : Nd) (ch : List Nd) (ab : Ab) (U : List Use) (D : List (Int × Int)) (at_ : Int) : Prop where
  hw : WF st rest
  ci : CI prog w st ab (roomOf ab.sized ab.D) rt ch
  bare : ∀ p ∈ objs st, Bare p.2
  brt : Bare rt.oK
  co : Co2 ab U at_
  r0 : 0 ≤ ab.room
  N : ∃ v, m "numbers" = some v ∧ IntsAt rest v nums
  P : ∃ v, m "pairs" = some v ∧ PairsAt rest v D
  U : ∃ v, m "uses" = some v ∧ UsesAt rest v U
  cache : m "cache" = some (.ref st.c)
  room : m "room" = some (.int ab.room tr)
  sized : m "sized" = some (.bool ab.sized)
  gone : ∃ og x, (cg, og) ∈ rest ∧ og.data = .cell x
variable {cg : Addr} {nums : List Int} {tr : Tok} {at_ : Int}
theorem LawSt.more {rest' : FP} (h : LawSt prog w cg nums tr m st rest rt ch ab U D at_) (hw : WF st rest') (k : ∀ p ∈ rest, p ∈ rest') : LawSt prog w cg nums tr m st rest' rt ch ab U D at_ := by
  obtain ⟨vN, a1, a2⟩ := h.N
  obtain ⟨vP, b1, b2⟩ := h.P
  obtain ⟨vU, c1, c2⟩ := h.U
  obtain ⟨og, x, d1, d2⟩ := h.gone
  exact ⟨hw, h.ci, h.bare, h.brt, h.co, h.r0, ⟨vN, a1, a2.mono k⟩, ⟨vP, b1, b2.mono k⟩, ⟨vU, c1, c2.mono k⟩, h.cache, h.room, h.sized, ⟨og, x, k _ d1, d2⟩⟩
theorem LawSt.names {m' : Loc} (h : LawSt prog w cg nums tr m st rest rt ch ab U D at_) (k : ∀ x, x = ("numbers" : Str) ∨ x = ("pairs" : Str) ∨ x = ("uses" : Str) ∨ x = ("cache" : Str) ∨ x = ("room" : Str) ∨ x = ("sized" : Str) → m' x = m x) : LawSt prog w cg nums tr m' st rest rt ch ab U D at_ := by
  obtain ⟨vN, a1, a2⟩ := h.N
  obtain ⟨vP, b1, b2⟩ := h.P
  obtain ⟨vU, c1, c2⟩ := h.U
  exact ⟨h.hw, h.ci, h.bare, h.brt, h.co, h.r0, ⟨vN, (k _ (by simp)).trans a1, a2⟩, ⟨vP, (k _ (by simp)).trans b1, b2⟩, ⟨vU, (k _ (by simp)).trans c1, c2⟩, (k _ (by simp)).trans h.cache, (k _ (by simp)).trans h.room, (k _ (by simp)).trans h.sized, h.gone⟩
/-- what grew is taken into the rest -/
theorem LawSt.grow {α : Type} {mX : Loc} {t : Sem α} {Q : α → Loc → FP → Prop} (h : LawSt prog w cg nums tr m st rest rt ch ab U D at_) {fp' : FP} (hs : ∀ p ∈ objs st ++ rest, p ∈ fp')
    (k : ∀ rest', LawSt prog w cg nums tr m st rest' rt ch ab U D at_ → (∀ p ∈ fp', p ∈ objs st ∨ p ∈ rest') → (∀ p ∈ rest, p ∈ rest') → Op prog w A g L E t Q mX (objs st ++ rest')) : Op prog w A g L E t Q mX fp' :=
  o_regroup h.hw (fun p hp => hs p (List.mem_append_left _ hp)) fun rest' hw' h1 h2 => by
    have hr : ∀ p ∈ rest, p ∈ rest' := fun p hp => (h1 p (hs p (List.mem_append_right _ hp))).resolve_left fun q => by
      have := h.hw
      unfold WF at this
      rw [List.nodup_append] at this
      refine this.2.2 p.1 ?_ p.1 (List.mem_map_of_mem hp) rfl
      rw [← objs_addrs]; exact List.mem_map_of_mem q
    exact k rest' (h.more hw' hr) h1 hr
theorem Rd.off {v : Value} {d : PyData} (hb : ∀ q ∈ objs st, Bare q.2) (h : Rd fp v d) (k : ∀ q ∈ fp, q ∈ objs st ∨ q ∈ rest) : Rd rest v d :=
  h.keep fun p hp ⟨vs, n, e⟩ => (k p hp).resolve_left fun q => (hb _ q).notSeq e
theorem intsAre_get {vs : List Value} {ns : List Int} (h : IntsAre vs ns) : ∀ {i : Nat} {k : Int}, ns[i]? = some k → ∃ t, vs[i]? = some (.int k t) := by
  induction h with
  | nil => intro i k e; simp at e
  | cons n t _ ih =>
    intro i k e
    cases i with
    | zero => simp at e; exact ⟨t, by simp [e]⟩
    | succ i => simp at e ⊢; exact ih e
end
end Mine
end
section
open PySem PySem.W PySem.Calls PyProof.Rows
set_option Elab.async false
set_option maxRecDepth 100000
set_option linter.unusedVariables false
namespace Mine
section
variable {prog : Program} {w : World} {A : Around} {g base : Heap} {outer : List Env} {L fa : Addr} {cd : Value} {E : Value → Heap → Prop} {m : Loc} {fp fp1 rest : FP} {n : Nat} {env env' : Env} {U : List Use} {D : List (Int × Int)} {st : St} {ab : Ab} {cur : Int} {rt : Nd} {ch : List Nd} {ex : Bool} {cg : Addr} {nums : List Int} {tr : Tok} {at_ : Int}
theorem ansIs_rd {ans : Ans} {v : Value} {fp' fp0 : FP} (h : AnsIs ans v fp' fp0) : Rd fp' v (ansD ans) ∧ ∀ p ∈ fp0, p ∈ fp' := by
  cases h with
  | flat a lt =>
    refine ⟨?_, fun p hp => .tail _ hp⟩
    cases ans with
    | nil => rw [show _ = [] from a]; exact Rd.list (.head _) ⟨0, rfl⟩ .nil
    | int k => obtain ⟨t, rfl⟩ := a; exact Rd.list (.head _) ⟨0, rfl⟩ (.cons .int .nil)
    | bool b => rw [show _ = [Value.bool b] from a]; exact Rd.list (.head _) ⟨0, rfl⟩ (.cons .bool .nil)
    | pair => cases a
    | missing => obtain ⟨t, rfl⟩ := a; exact Rd.list (.head _) ⟨0, rfl⟩ (.cons .str .nil)
    | refused => obtain ⟨t, rfl⟩ := a; exact Rd.list (.head _) ⟨0, rfl⟩ (.cons .str .nil)
  | pair lt lt2 => exact ⟨Rd.list (.head _) ⟨0, rfl⟩ (.cons (Rd.tup (.tail _ (.head _)) (.cons .int (.cons .int .nil))) .nil), fun p hp => .tail _ (.tail _ hp)⟩
theorem shaped_ans (ans : Ans) : SeqAt.shaped (ansD ans) = true := by
  cases ans <;> first | rfl | kernel_rfl
theorem eqv_ans (ans : Ans) : PyData.eqv (ansD ans) (ansD ans) = true := PySem.SeqAt.eqv_refl _ (PySem.SeqAt.canLay_of_shaped (shaped_ans ans))
abbrev bodyF : Stmt → List Stmt
  | .For _ _ b _ _ => b
  | .While _ b _ _ => b
  | _ => []
/-- the looks behind a deed -/
theorem law_looks {Q : Flow → Loc → FP → Prop} (cx : Cx w g [] g L A (env989 L fa cd) (n + 12)) (h : LawSt prog w (L + 1) nums tr m st rest rt ch ab U ab.D at_) (hQ : Q .next m (objs st ++ rest)) :
    Op prog w A g L E (execs [nth (bodyF (nth f989.1.2.1 6)) 5, nth (bodyF (nth f989.1.2.1 6)) 6] (env989 L fa cd)) Q m (objs st ++ rest) := by
  obtain ⟨vP, hp1, hp2⟩ := h.P
  have dok := h.co.co.pu.dok
  have five : ab.D.length ≤ 1000 := Nat.le_trans dok.five (by decide)
  have hpw : PairsAt (objs st ++ rest) vP ab.D := hp2.mono fun q hq => List.mem_append_right _ hq
  refine o_cons (o_if (o_isTrueOr (o_isCompare (o_compG (cl := []) (by rfl) (by decide) rfl (by decide) (o_loc h.cache (other_comp cx h.ci five (fun C => rfl) (fun C => rfl) fun D1 oD1 ys1 l1 hl1 hi1 => ?_))))))
  refine o_compG (cl := []) (by rfl) (by decide) rfl (by decide) (o_loc hp1 (keys_comp cx.handled (hpw.mono fun q hq => .tail _ hq) five (fun C => rfl) (fun C => rfl) fun D2 oD2 ys2 l2 hl2 hi2 => ?_))
  refine o_neD cx (Rd.list (.tail _ (.head _)) hl1 (rdAll_ints hi1)) (Rd.list (.head _) hl2 (rdAll_ints hi2)) (shaped_ints _) (shaped_ints _) (o_truthyBool ?_)
  rw [PySem.SeqAt.eqv_refl _ (PySem.SeqAt.canLay_of_shaped (shaped_ints _)), if_neg (by simp)]
  refine Op.weaken (fp' := objs st ++ rest) ?_ (fun p hp => .tail _ (.tail _ hp))
  refine o_isTrueOr (o_isCompare (o_nameCall (o_built cx (kn_len _) rfl (by decide) (o_callB (o_argsCons (o_loc h.cache (o_argsNil (c_len cx h.ci dok fun t1 => o_nameCall (o_built cx (kn_len _) rfl (by decide) (o_callB (o_argsCons (o_loc hp1 (o_argsNil ?_)))))))))))))
  obtain ⟨PP, oP, vsP, rfl, mP, lP, aP⟩ := id hpw
  refine o_lenList mP lP (by rw [aP.len]; exact five) fun t2 => o_neI (o_truthyBool ?_)
  rw [aP.len, if_neg (by simp)]
  refine o_isTrueOr0 ?_
  rw [if_neg (by simp)]
  refine o_nil ?_
  refine o_cons (o_if (o_isTrueOr (o_isCompare (o_attr (o_loc h.cache (c_currsize cx h.ci fun t3 => o_nameCall (o_glob cx (kn_room _) (o_callK cx (kp_955 _) (o_argsCons (o_loc hp1 (o_argsCons (o_loc h.sized (o_argsNil (room_at cx hpw five fun t4 fp4 g4 => o_neI (o_truthyBool ?_)))))))))))))))
  rw [if_neg (by simp)]
  refine Op.weaken (fp' := objs st ++ rest) ?_ g4.1
  refine o_isTrueOr (o_isCompare (o_attr (o_loc h.cache (c_currsize cx h.ci fun t5 => o_loc h.room (o_gtI (o_truthyBool ?_))))))
  have hcur := h.co.cur
  rw [if_neg (by simpa using hcur)]
  refine o_isTrueOr (o_isCompare (o_attr (o_loc h.cache (c_maxsize cx h.ci fun t6 => o_loc h.room (o_neI (o_truthyBool ?_))))))
  rw [if_neg (by simp)]
  refine o_isTrueOr0 ?_
  rw [if_neg (by simp)]
  exact o_nil (o_nil hQ)

/-- one turn of law's loop -/
theorem law_turn {Q : Flow → Loc → FP → Prop} {i : Nat} {x : Int} {ta : Tok} (cx : Cx w g [] g L A (env989 L fa cd) (n + 12)) (h : LawSt prog w (L + 1) nums tr m st rest rt ch ab U ab.D ((i + 1 : Nat) : Int)) (hat : m "at" = some (.int ((i + 1 : Nat) : Int) ta)) (hx : nums[i + 1]? = some x) (hi : i + 1 < 1000)
    (hQ : ∀ m' st' rest' ch' ab' U', LawSt prog w (L + 1) nums tr m' st' rest' rt ch' ab' U' ab'.D (((i + 1 : Nat) : Int) + 1) → (∀ p ∈ rest, p ∈ rest') → Q .next m' (objs st' ++ rest')) :
    Op prog w A g L E (execs (bodyF (nth f989.1.2.1 6)) (env989 L fa cd)) Q m (objs st ++ rest) := by
  obtain ⟨vN, hn1, hn2⟩ := h.N
  obtain ⟨vP, hp1, hp2⟩ := h.P
  obtain ⟨vU, hu1, hu2⟩ := h.U
  obtain ⟨PN, oN, vsN, rfl, mN, lN, iN⟩ := id hn2
  obtain ⟨tx, hxv⟩ := intsAre_get iN hx
  have memN : (PN, oN) ∈ objs st ++ rest := List.mem_append_right _ mN
  have hc := h.cache
  have hr := h.room
  have hs := h.sized
  refine o_cons (o_assign (o_binop (o_subscript (o_loc hn1 (o_loc hat (o_lstItem (k := i + 1) memN lN hxv hi (o_int fun _ => o_mod (by decide) fun t1 => o_store ?_)))))))
  refine o_cons (o_assign (o_binop (o_binop (o_subscript (o_loc hn1 (o_loc hat (o_lstItem (k := i + 1) memN lN hxv hi (o_int fun _ => o_floordiv (by decide) (by decide) fun _ => o_int fun _ => o_mod (by decide) fun t2 => o_store ?_))))))))
  refine o_cons (o_assign (o_binop (o_binop (o_subscript (o_loc hn1 (o_loc hat (o_lstItem (k := i + 1) memN lN hxv hi (o_int fun _ => o_floordiv (by decide) (by decide) fun _ => o_int fun _ => o_mod (by decide) fun t3 => o_store ?_))))))))
  have hd : 0 ≤ x % 10 ∧ x % 10 < 10 := by omega
  have hk : 0 ≤ x / 10 % 5 ∧ x / 10 % 5 < 5 := by omega
  generalize x % 10 = deed at *
  generalize x / 10 % 5 = key at *
  generalize x / 50 % 30 = value at *
  refine o_cons (o_unpack3 cx.handled rfl rfl rfl rfl rfl (o_nameCall (o_glob cx (kn_due _) (o_callK cx (kp_984 _) (o_argsCons (o_loc hp1 (o_argsCons (o_loc hu1 (o_argsCons (o_loc hr (o_argsCons (o_loc hs (o_argsCons (o_loc rfl (o_argsCons (o_loc rfl (o_argsCons (o_loc rfl (o_argsCons (o_loc hat (o_argsNil ?_)))))))))))))))))))))
  refine due_at (n := n + 8) cx.less (hp2.mono fun q hq => List.mem_append_right _ hq) (hu2.mono fun q hq => List.mem_append_right _ hq) h.co.co.pu hd fun v fp' d D' U' g2 tr2 du => ?_
  obtain ⟨T, va, vp, vu, rfl, hT, hra, hpp, huu⟩ := tr2
  refine ⟨T, va, vp, vu, rfl, hT, ?_⟩
  refine h.grow (fp' := fp') g2.1 fun rest1 h1 k1 k2 => ?_
  have hra1 := hra.off h.bare k1
  have hpp1 := hpp.off h.bare k1
  have huu1 := huu.off h.bare k1
  refine o_cons (o_if (o_isCompare (o_nameCall (o_glob cx (kn_deed _) (o_callK cx (kp_979 _) (o_argsCons (o_loc hc (o_argsCons (o_loc rfl (o_argsCons (o_loc rfl (o_argsCons (o_loc rfl (o_argsNil ?_))))))))))))))
  refine deed_spec (n := n + 2) cx h1.hw h1.ci h.co.co.aok h.co.cur fun v2 fp2 dq => ?_
  obtain ⟨st2, ch2, ab2, ans2, same, hw2, ci2, dr, ai⟩ := dq
  obtain ⟨rfl, e2, e3, e4, co2⟩ := deed_both h.co h.r0 hk hd dr du
  obtain ⟨rd2, sub2⟩ := ansIs_rd ai
  refine o_loc rfl (o_neD cx rd2 (hra1.mono fun q hq => sub2 _ (List.mem_append_right _ hq)) (shaped_ans _) (shaped_ans _) (o_truthyBool ?_))
  rw [eqv_ans, if_neg (by simp)]
  refine o_nil ?_
  have hcs : (prune st2 rt ch2).c = st.c := same.1
  have h3 : LawSt prog w (L + 1) nums tr (fun q => if q = "uses" then some vu else if q = "pairs" then some vp else if q = "due" then some va else if q = "value" then some (.int value t3) else if q = "key" then some (.int key t2) else if q = "deed" then some (.int deed t1) else m q) (prune st2 rt ch2) rest1 rt ch2 ab2 U' D' (((i + 1 : Nat) : Int) + 1) :=
    ⟨hw2.prune, ci2.prune, ci2.bare h.brt, h.brt, co2, by rw [e4]; exact h.r0, ⟨_, hn1, hn2.mono k2⟩, ⟨vp, rfl, hpp1⟩, ⟨vu, rfl, huu1⟩, by rw [hcs]; exact hc, by rw [e4]; exact hr, by rw [e3]; exact hs, h1.gone⟩
  refine h3.grow (fp' := fp2) (fun p hp => ?_) fun rest4 h4 k4 k5 => ?_
  · rcases List.mem_append.mp hp with hp | hp
    · exact sub2 _ (List.mem_append_left _ (prune_sub p hp))
    · exact sub2 _ (List.mem_append_right _ hp)
  · rw [← e2] at h4
    exact law_looks cx h4 (hQ _ _ _ _ _ _ h4 fun p hp => k5 p (k2 p hp))
end
end Mine
end
section
open PySem PySem.W PySem.Calls PyProof.Rows
set_option Elab.async false
set_option maxRecDepth 100000
set_option linter.unusedVariables false
namespace Mine
section
variable {prog : Program} {w : World} {A : Around} {g base : Heap} {outer : List Env} {L fa : Addr} {cd : Value} {E : Value → Heap → Prop} {m : Loc} {fp fp1 rest : FP} {n : Nat} {env env' : Env} {U : List Use} {D : List (Int × Int)} {st : St} {ab : Ab} {cur : Int} {rt : Nd} {ch : List Nd} {ex : Bool} {cg : Addr} {nums : List Int} {tr : Tok} {at_ : Int}
theorem LawSt.cellOnly (h : LawSt prog w cg nums tr m st rest rt ch ab U D at_) : CellOnly cg rest := by
  obtain ⟨og, x, g1, g2⟩ := h.gone
  intro p hp e
  have hn : (rest.map (·.1)).Nodup := (List.nodup_append.mp h.hw).2.1
  have := nodup_unique hn hp g1 e
  subst this
  exact ⟨x, g2⟩
theorem LawSt.apart (h : LawSt prog w cg nums tr m st rest rt ch ab U D at_) : ∀ p ∈ objs st, p.1 ≠ cg := fun p hp e => by
  obtain ⟨og, x, g1, g2⟩ := h.gone
  have := (List.nodup_append.mp h.hw).2.2 p.1 (by rw [← objs_addrs]; exact List.mem_map_of_mem hp) cg (List.mem_map_of_mem (f := (·.1)) g1)
  exact this e
theorem LawSt.put {o : Obj} {x : Option Value} (h : LawSt prog w cg nums tr m st rest rt ch ab U D at_) (hd : o.data = .cell x) : LawSt prog w cg nums tr m st (put cg o rest) rt ch ab U D at_ := by
  obtain ⟨vN, a1, a2⟩ := h.N
  obtain ⟨vP, b1, b2⟩ := h.P
  obtain ⟨vU, c1, c2⟩ := h.U
  obtain ⟨og, y, d1, d2⟩ := h.gone
  have hw := List.nodup_append.mp h.hw
  have hsub : List.Sublist ((rest.filter fun p => p.1 != cg).map (·.1)) (rest.map (·.1)) := List.Sublist.map _ List.filter_sublist
  refine ⟨?_, h.ci, h.bare, h.brt, h.co, h.r0, ⟨vN, a1, a2.put h.cellOnly⟩, ⟨vP, b1, b2.put h.cellOnly⟩, ⟨vU, c1, c2.put h.cellOnly⟩, h.cache, h.room, h.sized, ⟨o, x, put_self, hd⟩⟩
  unfold WF
  rw [List.nodup_append]
  refine ⟨hw.1, ?_, fun a ha b hb => ?_⟩
  · show ((cg :: (rest.filter fun p => p.1 != cg).map (·.1)) : List Addr).Nodup
    rw [List.nodup_cons]
    refine ⟨fun hm => ?_, hw.2.1.sublist hsub⟩
    obtain ⟨p, hp, e⟩ := List.mem_map.mp hm
    have := (List.mem_filter.mp hp).2
    simp [e] at this
  · rcases List.mem_cons.mp (show b ∈ cg :: (rest.filter fun p => p.1 != cg).map (·.1) from hb) with rfl | hb
    · exact hw.2.2 a ha b (List.mem_map_of_mem (f := (·.1)) d1)
    · exact hw.2.2 a ha b (hsub.subset hb)
theorem put_app {o : Obj} (h : ∀ p ∈ objs st, p.1 ≠ cg) : ∀ p ∈ objs st ++ put cg o rest, p ∈ put cg o (objs st ++ rest) := fun p hp => by
  rcases List.mem_append.mp hp with hp | hp
  · exact put_ne (ox := p.2) (List.mem_append_left _ hp) (h p hp)
  · rcases mem_put hp with rfl | ⟨q, ne⟩
    · exact put_self
    · exact put_ne (ox := p.2) (List.mem_append_right _ q) ne
theorem first_link (h : Co ab U at_) (hne : U ≠ []) : ∃ c k ks r, ab.M = (c, k :: ks) :: r := by
  cases q : ab.M with
  | nil => exact absurd (h.empty.mp q) hne
  | cons x M =>
    obtain ⟨c, ks⟩ := x
    cases ks with
    | nil => exact absurd rfl (h.aok.mok.full (c, []) (q ▸ .head _))
    | cons k ks => exact ⟨c, k, ks, M, rfl⟩
theorem atI_sub {D : List (Int × Int)} {k j v : Int} (h : atI (withoutI D k) j = some v) : atI D j = some v := by
  by_cases e : j = k
  · subst e
    have hm := atI_mem.mp (show (atI (withoutI D j) j).isSome = true by rw [h]; rfl)
    rw [withoutI_keys] at hm
    have := (List.mem_filter.mp hm).2
    simp at this
  · rw [← atI_ne (D := D) e]; exact h
/-- one turn of the last loop -/
theorem law_pop {Q : Flow → Loc → FP → Prop} (cx : Cx w g [] g L A (env989 L fa cd) (n + 12)) (h : LawSt prog w (L + 1) nums tr m st rest rt ch ab U D at_) (hne : U ≠ []) (hD : ∀ k v, atI ab.D k = some v → atI D k = some v) (hlD : D.length ≤ 1000)
    (hQ : ∀ m' st' rest' ch' ab' U', LawSt prog w (L + 1) nums tr m' st' rest' rt ch' ab' U' D at_ → (∀ k v, atI ab'.D k = some v → atI D k = some v) → U'.length < U.length → Q .next m' (objs st' ++ rest')) :
    Op prog w A g L E (execs (bodyF (nth f989.1.2.1 7)) (env989 L fa cd)) Q m (objs st ++ rest) := by
  obtain ⟨c, k, ks, r, hM⟩ := first_link h.co.co hne
  obtain ⟨_, hleast⟩ := h.co.co.least hM
  have hkU : k ∈ U.map (·.name) := hleast ▸ leastU_mem hne
  have hkD : k ∈ ab.D.map (·.1) := h.co.co.pu.perm.mem_iff.mp hkU
  obtain ⟨v, hat⟩ := atI_of_mem hkD
  obtain ⟨vU, hu1, hu2⟩ := h.U
  obtain ⟨og, x, hg1, hg2⟩ := h.gone
  cases U with
  | nil => exact absurd rfl hne
  | cons u0 Ur =>
    refine o_cons (o_assign (o_nameCall (o_glob cx (kn_least _) (o_callK cx (kp_967 _) (o_argsCons (o_loc hu1 (o_argsNil (least_at (n := n + 11) cx (hu2.mono fun q hq => List.mem_append_right _ hq) fun tl => o_storeCell (by rfl) (List.mem_append_right _ hg1) hg2 fun og' hog' => ?_))))))))
    rw [hleast] at hog'
    have h1 := h.put hog'
    refine Op.weaken (fp' := objs st ++ put (L + 1) og' rest) ?_ (put_app h.apart)
    have hgm : (L + 1, og') ∈ put (L + 1) og' rest := put_self
    generalize put (L + 1) og' rest = rest1 at *
    obtain ⟨vP, hp1, hp2⟩ := h1.P
    obtain ⟨vU1, hu11, hu12⟩ := h1.U
    have hc := h1.cache
    refine o_cons (o_if (o_isCompare (o_methodCall _ (o_loc hc (c_meth cx h1.ci (kf_popitem _) (kfn_912 _) (fun _ _ _ _ _ _ _ _ => rfl) (o_callK0 cx (kp_912 _) ?_))))))
    refine lpop_spec (n := n + 8) cx h1.hw h1.ci h.co.co.aok.mok h.co.co.aok.dok hM hat fun st2 ch2 M2 T t1 t2 same hw2 ci2 hdel lT => ?_
    have sub2 : ∀ p ∈ objs st2 ++ rest1, p ∈ ((T, tupO [.int k t1, .int v t2]) :: (objs st2 ++ rest1)) := fun p hp => .tail _ hp
    have hP2 : PairsAt ((T, tupO [.int k t1, .int v t2]) :: (objs st2 ++ rest1)) vP D := hp2.mono fun q hq => .tail _ (List.mem_append_right _ hq)
    have hT2 : (T, tupO [.int k t1, .int v t2]) ∈ ((T, tupO [.int k t1, .int v t2]) :: (objs st2 ++ rest1)) := .head _
    have hg3 : (L + 1, og') ∈ ((T, tupO [.int k t1, .int v t2]) :: (objs st2 ++ rest1)) := .tail _ (List.mem_append_right _ hgm)
    generalize ((T, tupO [.int k t1, .int v t2]) :: (objs st2 ++ rest1) : FP) = fp2 at *
    refine o_tuple (o_argsCons (o_cell (show List.lookup _ _ = _ by rfl) hg3 hog' (o_argsCons (o_subscript (o_nameCall (o_glob cx (kn_value _) (o_callK cx (kp_950 _) (o_argsCons (o_loc hp1 (o_argsCons (o_cell (show List.lookup _ _ = _ by rfl) hg3 hog' (o_argsNil ?_))))))))))))
    refine value_at (n := n + 11) cx hP2 fun v' fp5 g5 hv' => o_int fun _ => ?_
    rw [hD k v hat] at hv'
    obtain ⟨V, oV, vsV, rfl, hV1, hV2, hV3⟩ := hv'
    cases hV3 with
    | cons _ tk jr =>
      cases jr
      refine o_lstItem (k := 0) hV1 hV2 rfl (by decide) (o_argsNil ⟨by simp, fun T1 lT1 => ?_⟩)
      refine o_neD cx (Rd.tup (.tail _ (g5.1 _ hT2)) (.cons .int (.cons .int .nil))) (Rd.tup (.head _) (.cons .int (.cons .int .nil))) (by rfl) (by rfl) (o_truthyBool ?_)
      rw [PySem.SeqAt.eqv_refl _ (PySem.SeqAt.canLay_of_shaped (by rfl)), if_neg (by simp)]
      refine o_nil ?_
      have hcs : (prune st2 rt ch2).c = st.c := same.1
      have co2 := h.co.del hdel
      have hcur := roomOf_without (sized := ab.sized) h.co.co.pu.dok.keys hat
      rw [← hcur] at ci2
      have fin : ∀ rest', WF (prune st2 rt ch2) rest' → (∀ p ∈ fp5, p ∈ objs (prune st2 rt ch2) ∨ p ∈ rest') → (∀ p ∈ rest1, p ∈ rest') → Op prog w A g L E (execs [nth (bodyF (nth f989.1.2.1 7)) 2] (env989 L fa cd)) Q m (objs (prune st2 rt ch2) ++ rest') := by
        intro rest' hw' k1 k2
        refine o_cons (o_assignComp (cl := [("gone", L + 1)]) rfl (by rfl) rfl rfl (by rfl) (by decide) rfl (by decide) (o_loc hu11 (out_comp cx.handled (hu12.mono fun q hq => List.mem_append_right _ (k2 q hq)) (Nat.le_trans h.co.co.pu.five (by decide)) (List.mem_append_right _ (k2 _ hgm)) hog' rfl (fun C => rfl) (fun C => rfl) (fun C => rfl) (by decide) fun D2 oD2 lD2 hD2 => ?_)))
        obtain ⟨vN, a1, a2⟩ := h1.N
        refine o_regroup (st := prune st2 rt ch2) hw' (fun p hp => .tail _ (List.mem_append_left _ hp)) fun rest5 hw5 k5 k6 => ?_
        have k7 : ∀ p ∈ rest', p ∈ rest5 := fun p hp => (k5 p (.tail _ (List.mem_append_right _ hp))).resolve_left fun q => by
          refine (List.nodup_append.mp hw').2.2 p.1 ?_ p.1 (List.mem_map_of_mem hp) rfl
          rw [← objs_addrs]; exact List.mem_map_of_mem q
        refine o_nil (hQ _ (prune st2 rt ch2) rest5 ch2 { ab with D := withoutI ab.D k, M := M2 } (outU (u0 :: Ur) k) ⟨hw5, ci2.prune, ci2.bare h.brt, h.brt, co2, h.r0, ⟨vN, a1, a2.mono fun q hq => k7 q (k2 q hq)⟩, ⟨vP, hp1, hp2.mono fun q hq => k7 q (k2 q hq)⟩, ⟨_, rfl, hD2.off (ci2.bare h.brt) k5⟩, by rw [hcs]; exact hc, h1.room, h1.sized, ⟨og', _, k7 _ (k2 _ hgm), hog'⟩⟩ (fun j z hz => hD j z (atI_sub hz)) (outU_lt hkU))
      refine o_regroup (st := prune st2 rt ch2) hw2.prune (fun p hp => .tail _ (g5.1 _ (sub2 _ (List.mem_append_left _ (prune_sub p hp))))) fun rest' hw' k1 k2 => ?_
      refine fin rest' hw' (fun p hp => k1 p (.tail _ hp)) fun p hp => (k1 p (.tail _ (g5.1 _ (sub2 _ (List.mem_append_right _ hp))))).resolve_left fun q => ?_
      refine (List.nodup_append.mp hw2).2.2 p.1 ?_ p.1 (List.mem_map_of_mem hp) rfl
      rw [← objs_addrs]; exact List.mem_map_of_mem (prune_sub p q)
end
end Mine
end
section
open PySem PySem.W PySem.Calls PyProof.Rows
set_option Elab.async false
set_option maxRecDepth 100000
set_option linter.unusedVariables false
namespace Mine
section
variable {prog : Program} {w : World} {A : Around} {g base : Heap} {outer : List Env} {L fa : Addr} {cd : Value} {E : Value → Heap → Prop} {m : Loc} {fp fp1 rest : FP} {n : Nat} {env env' : Env} {U : List Use} {D : List (Int × Int)} {st : St} {ab : Ab} {cur : Int} {rt : Nd} {ch : List Nd} {ex : Bool} {cg : Addr} {nums : List Int} {tr : Tok} {at_ : Int}
theorem deed_eight_nil {a' : Ab} {ans : Ans} (hM : ab.M = []) (h : DeedR 8 0 0 ab a' ans) : a' = ab ∧ ans = .missing := by
  unfold DeedR at h
  rw [if_neg (by decide), if_neg (by decide), if_neg (by decide), if_neg (by decide), if_neg (by decide), if_neg (by decide), if_neg (by decide), if_pos rfl] at h
  rcases h with ⟨c, k, ks, r, v, M', e, _⟩ | ⟨_, e1, e2⟩
  · rw [hM] at e; cases e
  · exact ⟨e1, e2⟩
/-- the end of law -/
theorem law_end {Q : Flow → Loc → FP → Prop} (cx : Cx w g [] g L A (env989 L fa cd) (n + 12)) (h : LawSt prog w (L + 1) nums tr m st rest rt ch ab U D at_) (hU : U = []) (hQ : ∀ m' fp', Q (.ret (.bool true)) m' fp') :
    Op prog w A g L E (execs [nth f989.1.2.1 8] (env989 L fa cd)) Q m (objs st ++ rest) := by
  have hM := h.co.co.empty.mpr hU
  have hD0 : ab.D = [] := by
    have := h.co.co.pu.len
    rw [hU] at this
    exact List.length_eq_zero_iff.mp this.symm
  refine o_cons (o_ret (o_and2 (o_compare (o_nameCall (o_glob cx (kn_deed _) (o_callK cx (kp_979 _) (o_argsCons (o_loc h.cache (o_argsCons (o_int fun t1 => o_argsCons (o_int fun t2 => o_argsCons (o_int fun t3 => o_argsNil ?_))))))))))))
  refine deed_spec (n := n + 2) cx h.hw h.ci h.co.co.aok h.co.cur fun v2 fp2 dq => ?_
  obtain ⟨st2, ch2, ab2, ans2, same, hw2, ci2, dr, ai⟩ := dq
  obtain ⟨rfl, rfl⟩ := deed_eight_nil hM dr
  obtain ⟨rd2, sub2⟩ := ansIs_rd ai
  refine o_list (o_argsCons (o_str fun ts => o_argsNil ⟨by simp, fun R lR => ?_⟩))
  refine o_eqD cx (rd2.mono fun q hq => .tail _ hq) (Rd.list (ds := [.str "missing"]) (.head _) ⟨0, rfl⟩ (.cons .str .nil)) (shaped_ans _) (shaped_ans .missing) ?_
  rw [show PyData.eqv (ansD .missing) (.list [.str "missing"]) = true from eqv_ans .missing]
  refine o_truthyBool ?_
  rw [if_pos rfl]
  refine Op.weaken (fp' := objs st2 ++ rest) ?_ (fun p hp => .tail _ (sub2 p hp))
  have hcs : st2.c = st.c := same.1
  refine o_compare (o_attr (o_loc (by rw [h.cache, ← hcs]) (c_currsize cx ci2 fun t5 => o_int fun _ => o_eqI ?_)))
  rw [hD0]
  exact hQ _ _
/-- from the last loop on -/
theorem law_rest {Q : Flow → Loc → FP → Prop} (cx : Cx w g [] g L A (env989 L fa cd) (n + 12)) (h : LawSt prog w (L + 1) nums tr m st rest rt ch ab U ab.D at_) (hQ : ∀ m' fp', Q (.ret (.bool true)) m' fp') :
    Op prog w A g L E (execs [nth f989.1.2.1 7, nth f989.1.2.1 8] (env989 L fa cd)) Q m (objs st ++ rest) := by
  have hlD : ab.D.length ≤ 1000 := Nat.le_trans h.co.co.pu.dok.five (by decide)
  generalize hDD : ab.D = D0 at h hlD
  refine o_cons (o_while (fun k m1 fp1 => ∃ st rest ch ab U, fp1 = objs st ++ rest ∧ k = U.length ∧ LawSt prog w (L + 1) nums tr m1 st rest rt ch ab U D0 at_ ∧ ∀ k v, atI ab.D k = some v → atI D0 k = some v) U.length ⟨st, rest, ch, ab, U, rfl, rfl, h, fun k v e => by rw [← hDD]; exact e⟩ rfl ?_)
  rintro k m1 fp1 ⟨st, rest, ch, ab, U, rfl, rfl, h, hD⟩
  obtain ⟨vU, hu1, hu2⟩ := h.U
  refine o_isCompare (o_loc hu1 (o_list (o_argsNil ⟨by simp, fun R lR => ?_⟩)))
  refine o_neD cx ((rd_uses hu2).mono fun q hq => .tail _ (List.mem_append_right _ hq)) (Rd.list (.head _) ⟨0, rfl⟩ .nil) (shaped_uses _) shaped_nil (o_truthyBool ?_)
  rw [eqv_uses_nil]
  cases hU : U with
  | nil =>
    rw [if_neg (by simp)]
    exact Op.weaken (law_end cx h hU hQ) fun p hp => .tail _ hp
  | cons u0 Ur =>
    rw [if_pos (by simp)]
    refine Op.weaken (fp' := objs st ++ rest) ?_ (fun p hp => .tail _ hp)
    exact law_pop cx h (by rw [hU]; simp) hD hlD fun m' st' rest' ch' ab' U' h' hD' hl => ⟨U'.length, by rw [hU] at hl; exact hl, st', rest', ch', ab', U', rfl, rfl, h', hD'⟩
end
end Mine
end
section
open PySem PySem.W PySem.Calls PyProof.Rows
set_option Elab.async false
set_option maxRecDepth 100000
set_option linter.unusedVariables false
namespace Mine
section
variable {prog : Program} {w : World} {A : Around} {g base : Heap} {outer : List Env} {L fa : Addr} {cd : Value} {E : Value → Heap → Prop} {m : Loc} {fp fp1 rest : FP} {n : Nat} {env env' : Env} {U : List Use} {D : List (Int × Int)} {st : St} {ab : Ab} {cur : Int} {rt : Nd} {ch : List Nd} {ex : Bool} {cg : Addr} {nums : List Int} {tr : Tok} {at_ : Int}
theorem small_up {b : Int} (h0 : 0 ≤ b) (h1 : b ≤ 1000) : Builtin.Range.small 1 b 1 = true := by
  have hs : Builtin.Range.rangeSize 1 b 1 = ((b - 1).toNat : Int) := rangeSize_nat 1 b
  unfold Builtin.Range.small
  rw [hs]
  simp only [Builtin.Range.rangeFitsLong]
  have e1 : ((b - 1).toNat : Int) ≤ 1000 := by omega
  have e2 : 0 ≤ ((b - 1).toNat : Int) := by omega
  generalize ((b - 1).toNat : Int) = z at *
  simp only [Bool.and_eq_true, Bool.or_eq_true, decide_eq_true_eq]
  refine ⟨⟨⟨⟨⟨by omega, by omega⟩, ⟨by omega, by omega⟩⟩, ⟨by omega, by omega⟩⟩, ⟨by omega, by omega⟩⟩, .inr ?_⟩
  rw [if_pos (by decide)]
  simp only [Bool.and_eq_true, decide_eq_true_eq]
  exact ⟨by omega, by omega⟩
theorem o_uniq {α : Type} {t : Sem α} {Q : α → Loc → FP → Prop} (h : ∀ fp', (fp'.map (·.1)).Nodup → (∀ p ∈ fp, p ∈ fp') → (∀ p ∈ fp', p ∈ fp) → Op prog w A g L E t Q m fp') : Op prog w A g L E t Q m fp :=
  Op.same fun hc => Op.weaken (h (uniq fp) (uniq_nodup fp) (mem_uniq fp hc) (uniq_sub fp)) (uniq_sub fp)
theorem PairsAt.keep {fp fp' : FP} {v : Value} {D} (h : PairsAt fp v D) (k : ∀ p ∈ fp, (∃ vs n, p.2.data = .seq vs n) → p ∈ fp') : PairsAt fp' v D := by
  obtain ⟨P, oP, vs, e, mm, l, a⟩ := h
  exact ⟨P, oP, vs, e, k _ mm (by obtain ⟨n, rfl⟩ := l; exact ⟨_, _, rfl⟩), l, a.mono fun _ _ ⟨b, t1, t2, e, mb⟩ => ⟨b, t1, t2, e, k _ mb ⟨_, _, rfl⟩⟩⟩
theorem UsesAt.keep {fp fp' : FP} {v : Value} {D} (h : UsesAt fp v D) (k : ∀ p ∈ fp, (∃ vs n, p.2.data = .seq vs n) → p ∈ fp') : UsesAt fp' v D := by
  obtain ⟨P, oP, vs, e, mm, l, a⟩ := h
  exact ⟨P, oP, vs, e, k _ mm (by obtain ⟨n, rfl⟩ := l; exact ⟨_, _, rfl⟩), l, a.mono fun _ _ ⟨b, t1, t2, t3, e, mb⟩ => ⟨b, t1, t2, t3, e, k _ mb ⟨_, _, rfl⟩⟩⟩
theorem IntsAt.keep {fp fp' : FP} {v : Value} {D} (h : IntsAt fp v D) (k : ∀ p ∈ fp, (∃ vs n, p.2.data = .seq vs n) → p ∈ fp') : IntsAt fp' v D := by
  obtain ⟨P, oP, vs, e, mm, l, a⟩ := h
  exact ⟨P, oP, vs, e, k _ mm (by obtain ⟨n, rfl⟩ := l; exact ⟨_, _, rfl⟩), l, a⟩
/-- the loop's iterator is left out of the rest -/
theorem LawSt.leave {I : Addr} {oI : Obj} {fs : Array Value} (h : LawSt prog w cg nums tr m st rest rt ch ab U D at_) (hm : (I, oI) ∈ rest) (hf : oI.data = .fields fs) : LawSt prog w cg nums tr m st (rest.filter fun p => p.1 != I) rt ch ab U D at_ := by
  have hw := List.nodup_append.mp h.hw
  have key : ∀ p ∈ rest, p.2.data ≠ .fields fs → p ∈ rest.filter fun p => p.1 != I := fun p hp hd => List.mem_filter.mpr ⟨hp, by
    have : p.1 ≠ I := fun e => hd (by have := nodup_unique hw.2.1 hp hm e; subst this; exact hf)
    simpa using this⟩
  have ks : ∀ p ∈ rest, (∃ vs n, p.2.data = .seq vs n) → p ∈ rest.filter fun p => p.1 != I := fun p hp ⟨vs, n, e⟩ => key p hp (by rw [e]; intro q; cases q)
  obtain ⟨vN, a1, a2⟩ := h.N
  obtain ⟨vP, b1, b2⟩ := h.P
  obtain ⟨vU, c1, c2⟩ := h.U
  obtain ⟨og, y, d1, d2⟩ := h.gone
  refine ⟨?_, h.ci, h.bare, h.brt, h.co, h.r0, ⟨vN, a1, a2.keep ks⟩, ⟨vP, b1, b2.keep ks⟩, ⟨vU, c1, c2.keep ks⟩, h.cache, h.room, h.sized, ⟨og, y, key _ d1 (by rw [d2]; intro q; cases q), d2⟩⟩
  exact List.Nodup.sublist (List.Sublist.append (List.Sublist.refl _) (List.Sublist.map _ List.filter_sublist)) h.hw
theorem co2_nil {sized : Bool} {room : Int} (h : 0 ≤ room) {a : Int} : Co2 ⟨sized, room, [], []⟩ [] a :=
  ⟨⟨⟨⟨.nil, fun _ h => (nomatch h), fun _ h => (nomatch h), fun _ h => (nomatch h), .nil⟩, ⟨.nil, fun _ h => (nomatch h)⟩, .nil⟩, ⟨⟨.nil, fun _ h => (nomatch h)⟩, .nil⟩, .nil, fun _ h => (nomatch h), fun c => rfl⟩, fun _ h => (nomatch h), h⟩
/-- from the loop on -/
theorem law_loop {Q : Flow → Loc → FP → Prop} (cx : Cx w g [] g L A (env989 L fa cd) (n + 12)) (h : LawSt prog w (L + 1) nums tr m st rest rt ch ab U ab.D 1) (hn : nums.length ≤ 900) (hQ : ∀ m' fp', Q (.ret (.bool true)) m' fp') :
    Op prog w A g L E (execs [nth f989.1.2.1 6, nth f989.1.2.1 7, nth f989.1.2.1 8] (env989 L fa cd)) Q m (objs st ++ rest) := by
  obtain ⟨vN, hn1, hn2⟩ := h.N
  obtain ⟨PN, oN, vsN, rfl, mN, lN, iN⟩ := id hn2
  have hlen : vsN.length = nums.length := iN.length
  refine o_cons (o_forW rfl rfl rfl (o_nameCall (o_built cx (kn_range _) boot_range (by decide) (o_callT (o_argsCons (o_int fun t1 => o_argsCons (o_nameCall (o_built cx (kn_len _) rfl (by decide) (o_callB (o_argsCons (o_loc hn1 (o_argsNil (o_lenList (List.mem_append_right _ mN) lN (by omega) fun t2 => o_argsNil ?_)))))))))))))
  refine o_range fun r t3 t4 t5 lr => ?_
  refine o_iterRangeI cx.handled (.head _) (small_up (by omega) (by omega)) rfl fun I oI St' lI W w2 w3 => ?_
  refine ⟨I, oI, objs st ++ rest, _, _, [I], St', fun i m1 fp1 => ∃ st rest ch ab U, fp1 = objs st ++ rest ∧ LawSt prog w (L + 1) nums tr m1 st rest rt ch ab U ab.D ((i + 1 : Nat) : Int) ∧ ∀ p ∈ fp1, p.1 ≠ I, rfl, fun p hp => ?_, ?_, W, fun b hb => by rw [List.mem_singleton.mp hb]; exact ⟨_, .head _⟩, fun h hk => w2 h (hk _ (.head _)), fun i h st b hb => by rw [List.mem_singleton.mp hb]; obtain ⟨o, ho, _⟩ := w3 i h st; exact ⟨o, ho⟩, ⟨st, rest, ch, ab, U, rfl, h, fun p hp => Nat.ne_of_lt (lI p (.tail _ hp))⟩, ?_, ?_⟩
  · rcases List.mem_cons.mp hp with rfl | hp
    · exact .head _
    · exact .tail _ (.tail _ hp)
  · rintro i m1 fp1 ⟨_, _, _, _, _, _, _, k⟩; exact k
  · rintro i u m1 fp1 h3' hi ⟨tu, rfl⟩ ⟨st, rest, ch, ab, U, rfl, h1, hne⟩ st3
    obtain ⟨o3, ho3, fs, hfs⟩ := w3 _ _ st3
    rw [← objAt_of ho3] at hfs
    rw [show ([I].map fun b => (b, objAt h3' b)) = [(I, objAt h3' I)] from rfl]
    generalize objAt h3' I = oI' at *
    have hi' : i + 1 < nums.length := by omega
    have e1 : (1 + (i : Int)) = ((i + 1 : Nat) : Int) := by omega
    rw [e1]
    have h2 : LawSt prog w (L + 1) nums tr (fun y => if y = "at" then some (.int ((i + 1 : Nat) : Int) tu) else m1 y) st rest rt ch ab U ab.D ((i + 1 : Nat) : Int) := h1.names fun x hx => by
      show (if x = "at" then _ else m1 x) = m1 x
      rw [if_neg (by rcases hx with rfl | rfl | rfl | rfl | rfl | rfl <;> decide)]
    refine h2.grow (fp' := (I, oI') :: (objs st ++ rest)) (fun p hp => .tail _ hp) fun rest1 h3 k1 k2 => ?_
    have hI1 : (I, oI') ∈ rest1 := (k1 _ (.head _)).resolve_left fun q => hne _ (List.mem_append_left _ q) rfl
    refine law_turn (n := n) cx h3 rfl (List.getElem?_eq_getElem hi') (by omega) fun m' st' rest' ch' ab' U' h4 k4 => ?_
    have hI2 := k4 _ hI1
    have hap : ∀ p ∈ objs st', p.1 ≠ I := fun p hp e => by
      have := (List.nodup_append.mp h4.hw).2.2 p.1 (by rw [← objs_addrs]; exact List.mem_map_of_mem hp) I (List.mem_map_of_mem (f := (·.1)) hI2)
      exact this e
    refine ⟨objs st' ++ rest'.filter fun p => p.1 != I, fun p hp => ?_, st', _, ch', ab', U', rfl, ?_, fun p hp => ?_⟩
    · rcases List.mem_cons.mp (show p ∈ (I, oI') :: (objs st' ++ rest'.filter fun p => p.1 != I) from hp) with rfl | hp
      · exact List.mem_append_right _ hI2
      · rcases List.mem_append.mp hp with hp | hp
        · exact List.mem_append_left _ hp
        · exact List.mem_append_right _ (List.mem_filter.mp hp).1
    · have h5 := h4.leave hI2 hfs
      have e2 : (((i + 1 : Nat) : Int) + 1) = ((i + 1 + 1 : Nat) : Int) := by omega
      rw [e2] at h5; exact h5
    · rcases List.mem_append.mp hp with hp | hp
      · exact hap p hp
      · simpa using (List.mem_filter.mp hp).2
  · rintro m' fp' ⟨st, rest, ch, ab, U, rfl, h1, _⟩
    exact law_rest cx h1 hQ
end
end Mine
end
section
open PySem PySem.W PySem.Calls PyProof.Rows
set_option Elab.async false
set_option maxRecDepth 100000
set_option linter.unusedVariables false
namespace Mine
section
variable {prog : Program} {w : World} {A : Around} {g base : Heap} {outer : List Env} {L fa : Addr} {cd : Value} {E : Value → Heap → Prop} {m : Loc} {fp fp1 rest : FP} {n : Nat} {env env' : Env} {ns : List Int}
  {cl : List (Str × Addr)}
/-- [n % 1000000007 for n in ...] -/
theorem mod_comp {scope : Scope} {px p1 p2 p3 : Pos} {k : Nat} {a : Addr} {o : Obj} {ws : List Value} {R : Addr → Obj → Loc → FP → Prop} (hh : A.handled = none) (hm : (a, o) ∈ fp) (ho : LstOf o ws) (hi : IntsAre ws ns) (hlen : ns.length ≤ 1000)
    (k1 : ∀ C, (compEnvC scope cl C env).kindOf "n" = some .local) (k3 : ∀ C, (compEnvC scope cl C env).scope.kind = .function)
    (h : ∀ D' oD ys, (∀ p ∈ fp, p.1 < D') → LstOf oD ys → IntsAre ys (ns.map fun z => z % 1000000007) → R D' oD m fp) :
    Op prog w A g L E (pyIter (.ref a)) (fun it m2 fp2 => ∃ I oI fpB n P J B, it = .ref I ∧ (∀ p ∈ ((I, oI) :: fpB), p ∈ fp2) ∧ (∀ p ∈ fpB, p.1 ≠ I) ∧ n ≤ 1000 ∧ Src prog w A (.Name "n" px) I n P ((I, oI) :: fpB) ∧ CompOkG prog w A g env scope cl (.Name "n" px) [] (.BinOp (.Name "n" p1) .Mod (.Constant (.int 1000000007) k p2) p3) I n P J B ∧
      (∀ D, (∀ p ∈ ((I, oI) :: fpB), p.1 < D) → J D 0 fpB []) ∧
      (∀ D fp3 ys oD, (∀ p ∈ ((I, oI) :: fpB), p.1 < D) → J D n fp3 ys → LstOf oD ys → R D oD m2 fp3)) m fp := by
  refine o_iterList hh hm ho fun I oI lI src _ => ?_
  have hvl : ws.length = ns.length := hi.length
  refine ⟨I, oI, fp, ws.length, _, fun D' i fp1 ys => fp1 = fp ∧ (∀ p ∈ fp, p.1 < D') ∧ IntsAre ys ((ns.take i).map fun z => z % 1000000007) ∧ ys.length ≤ i, fun i u m' => m' "n" = some u, rfl, fun p hp => hp, fun p hp => Nat.ne_of_lt (lI p hp), by omega, src _ _, ⟨?_, ?_, ?_, ?_⟩, ?_, ?_⟩
  · exact fun D i fp1 ys j => j.2.2.2
  · rintro D i fp1 ys ⟨rfl, j1, _⟩ p hp; exact ⟨Nat.ne_of_lt (lI p hp), Nat.ne_of_lt (j1 p hp)⟩
  · rintro D i u fp1 ys gC C hi hu _
    exact tgt_name (k1 C) (by rw [k3 C]; rfl)
  · rintro D' i u fp1 ys mC ext gC C oI' oD stg hin hu ⟨rfl, j1, j2, j3⟩ hmC hI hD
    have hin' : i < ns.length := by omega
    have hg : ns[i]? = some ns[i] := List.getElem?_eq_getElem hin'
    obtain ⟨t, ht⟩ := intsAre_get hi hg
    rw [hu] at ht
    injection ht with ht
    subst ht
    refine o_tests0 (by
      rw [if_pos rfl]
      exact o_binop (o_locG rfl hmC (o_int fun _ => o_mod (by decide) fun _ => ⟨_, fun q hq => hq, rfl, j1, by rw [List.take_add_one, hg, List.map_append]; exact intsAre_snoc j2 _ _, by simp; omega⟩) (k3 C) (k1 C)))
  · exact fun D' lD => ⟨rfl, fun p hp => lD p (.tail _ hp), .nil, Nat.le_refl _⟩
  · rintro D' fp3 ys oD lD ⟨rfl, j1, j2, j3⟩ hl
    rw [hvl, List.take_length] at j2
    exact h D' oD ys j1 hl j2
def numsOf' (ns : List Int) : List Int := (ns.take 34).map (fun z => z % 1000000007) ++ [165, 50, 114, 202, 311]
theorem numsOf_len (ns : List Int) : (numsOf' ns).length ≤ 39 ∧ 5 ≤ (numsOf' ns).length := by
  unfold numsOf'
  simp only [List.length_append, List.length_map, List.length_take, List.length_cons, List.length_nil]
  omega
/-- law gives True -/
theorem law_spec {Q : Flow → Loc → FP → Prop} {l : Addr} {vs : List Value} {og : Obj} {x : Option Value} (cx : Cx w g [] g L A (env989 L fa cd) (n + 12)) (hl : g.IsList l vs.toArray) (hi : IntsAre vs ns) (hn : ns.length ≤ 63) (hs : m "script" = some (.ref l)) (hog : og.data = .cell x)
    (hQ : ∀ m' fp', Q (.ret (.bool true)) m' fp') : Op prog w A g L E (execs f989.1.2.1 (env989 L fa cd)) Q m [(L + 1, og)] := by
  refine o_cons (o_assign (o_binop (o_compG (cl := []) (by rfl) (by decide) rfl (by decide) (o_sliceTo hl hi (by decide) (by omega) (o_loc hs ⟨rfl, fun D oD ws lD hD hW => ?_⟩)))))
  refine mod_comp cx.handled (.head _) hD hW (by simp only [List.length_take]; omega) (fun C => rfl) (fun C => rfl) fun D1 oD1 ys l1 hl1 hi1 => ?_
  refine o_list (o_argsCons (o_int fun a1 => o_argsCons (o_int fun a2 => o_argsCons (o_int fun a3 => o_argsCons (o_int fun a4 => o_argsCons (o_int fun a5 => o_argsNil ⟨by simp, fun R lR => ?_⟩))))))
  refine o_listAdd (.tail _ (.head _)) hl1 (.head _) ⟨0, rfl⟩ (by have := hi1.length; simp only [List.length_map, List.length_take, List.length_cons, List.length_nil] at this ⊢; omega) fun N oN lN hN => o_store ?_
  have hiN : IntsAre (ys ++ [.int 165 a1, .int 50 a2, .int 114 a3, .int 202 a4, .int 311 a5]) (numsOf' ns) := hi1.append (.cons _ _ (.cons _ _ (.cons _ _ (.cons _ _ (.cons _ _ .nil)))))
  have hNm : (N, oN) ∈ ((N, oN) :: (R, lstO [.int 165 a1, .int 50 a2, .int 114 a3, .int 202 a4, .int 311 a5]) :: (D1, oD1) :: (D, oD) :: [(L + 1, og)] : FP) := .head _
  have hgm : (L + 1, og) ∈ ((N, oN) :: (R, lstO [.int 165 a1, .int 50 a2, .int 114 a3, .int 202 a4, .int 311 a5]) :: (D1, oD1) :: (D, oD) :: [(L + 1, og)] : FP) := .tail _ (.tail _ (.tail _ (.tail _ (.head _))))
  generalize ((N, oN) :: (R, lstO [.int 165 a1, .int 50 a2, .int 114 a3, .int 202 a4, .int 311 a5]) :: (D1, oD1) :: (D, oD) :: [(L + 1, og)] : FP) = fp0 at *
  generalize (ys ++ [.int 165 a1, .int 50 a2, .int 114 a3, .int 202 a4, .int 311 a5] : List Value) = wsN at *
  have hlen := numsOf_len ns
  generalize numsOf' ns = nums at *
  have hx0 : nums[0]? = some nums[0] := List.getElem?_eq_getElem (by omega)
  obtain ⟨tx, hv0⟩ := intsAre_get hiN hx0
  generalize nums[0] = x0 at *
  refine o_cons (o_assign (o_binop (o_subscript (o_loc rfl (o_int fun _ => o_lstItem (k := 0) hNm hN hv0 (by decide) (o_int fun _ => o_mod (by decide) fun tr => o_store ?_))))))
  refine o_cons (o_assign (o_compare (o_binop (o_binop (o_subscript (o_loc rfl (o_int fun _ => o_lstItem (k := 0) hNm hN hv0 (by decide) (o_int fun _ => o_floordiv (by decide) (by decide) fun _ => o_int fun _ => o_mod (by decide) fun _ => o_int fun _ => o_eqI (o_store ?_)))))))))
  have hr0 : 0 ≤ x0 % 6 := by omega
  generalize x0 % 6 = room at *
  generalize (x0 / 6 % 2 == 1) = sized at *
  refine o_uniq fun fp1 hnd hs1 hs2 => ?_
  -- what follows the cache
  have after : ∀ (st : St) (rt : Nd) (m1 : Loc), m1 "numbers" = some (.ref N) → m1 "room" = some (.int room tr) → m1 "sized" = some (.bool sized) → m1 "cache" = some (.ref st.c) → WF st fp1 → CI prog w st ⟨sized, room, [], []⟩ 0 rt [] → IsD prog w rt.oK [] →
      Op prog w A g L E (execs [nth f989.1.2.1 4, nth f989.1.2.1 5, nth f989.1.2.1 6, nth f989.1.2.1 7, nth f989.1.2.1 8] (env989 L fa cd)) Q m1 (objs st ++ fp1) := by
    intro st rt m1 h1 h2 h3 h4 hw ci hrt
    refine o_cons (o_assign (o_list (o_argsNil ⟨by simp, fun R1 lR1 => o_store ?_⟩)))
    refine o_cons (o_assign (o_list (o_argsNil ⟨by simp, fun R2 lR2 => o_store ?_⟩)))
    refine o_regroup (st := prune st rt []) hw.prune (fun p hp => .tail _ (.tail _ (List.mem_append_left _ (prune_sub p hp)))) fun rest hw2 k1 k2 => ?_
    have hb := ci.bare (IsD.bare hrt)
    have hst : LawSt prog w (L + 1) nums tr (fun y => if y = "uses" then some (.ref R2) else if y = "pairs" then some (.ref R1) else m1 y) (prune st rt []) rest rt [] ⟨sized, room, [], []⟩ [] [] 1 := by
      refine ⟨hw2, ci.prune, hb, IsD.bare hrt, co2_nil hr0, hr0, ⟨_, h1, IntsAt.off hb ⟨N, oN, wsN, rfl, .tail _ (.tail _ (List.mem_append_right _ (hs1 _ hNm))), hN, hiN⟩ k1⟩, ⟨_, rfl, PairsAt.off hb ⟨R1, _, [], rfl, .tail _ (.head _), ⟨0, rfl⟩, .nil⟩ k1⟩, ⟨_, rfl, UsesAt.off hb ⟨R2, _, [], rfl, .head _, ⟨0, rfl⟩, .nil⟩ k1⟩, h4, h2, h3, ⟨og, x, (k1 _ (.tail _ (.tail _ (List.mem_append_right _ (hs1 _ hgm))))).resolve_left fun q => (hb _ q).notCell hog, hog⟩⟩
    exact law_loop cx hst (by omega) hQ
  refine o_cons (o_assign (o_ifExp (o_isTrue (o_loc rfl (o_truthyBool ?_)))))
  cases sized with
  | true =>
    rw [if_pos rfl]
    refine o_nameCall (o_glob cx (kn_LFU _) (o_callK cx (kp_929 _) (o_argsCons (o_loc rfl (o_argsCons (o_glob cx (kn_size _) (o_argsNil ?_)))))))
    exact make_spec (n := n + 7) (sized := true) cx hr0 hnd rfl fun st rt hw ci hrt => o_store (after st rt _ rfl rfl rfl rfl hw ci hrt)
  | false =>
    rw [if_neg (by simp)]
    refine o_nameCall (o_glob cx (kn_LFU _) (o_callK cx (kp_929 _) (o_argsCons (o_loc rfl (o_argsNil ?_)))))
    exact make_spec (n := n + 7) (sized := false) cx hr0 hnd rfl fun st rt hw ci hrt => o_store (after st rt _ rfl rfl rfl rfl hw ci hrt)
end
end Mine
end
section
open PySem PySem.W PySem.Calls PyProof.Rows
set_option maxRecDepth 100000
namespace Mine
theorem main.tw13962693860625380366 : True := trivial
theorem main.tw2852251193174398662 : True := trivial
theorem main.tw16304157974115477746 : True := trivial
theorem main.tw16501172079758305675 : True := trivial
theorem main.tw17227442419121036007 : True := trivial
theorem main.tw4036238207498611232 : True := trivial
theorem main.tw4917070330192852093 : True := trivial
theorem main.tw15589955886551607785 : True := trivial
theorem main.tw8260724100714396741 : True := trivial
theorem main.tw11273777480241942364 : True := trivial
theorem main.tw13807522157400373393 : True := trivial
theorem main.tw16790050636404226231 : True := trivial
theorem main.tw9071729483887776986 : True := trivial
theorem main.tw5638201095994319732 : True := trivial
theorem main.tw10225356144477167704 : True := trivial
theorem main.tw14080665800827857628 : True := trivial
theorem main.tw14864641218109852296 : True := trivial
theorem main.tw14646587721710459877 : True := trivial
theorem main.tw14689642411216604063 : True := trivial
theorem main.tw14027650596787315314 : True := trivial
theorem main.tw8090509862211737132 : True := trivial
theorem main.tw16798622893749714585 : True := trivial
theorem main.tw13626721169425172152 : True := trivial
theorem main.tw3048990324235766663 : True := trivial
theorem main.tw15803610866087392283 : True := trivial
theorem main.tw13447304073604360266 : True := trivial
theorem main.tw8344989883159853150 : True := trivial
theorem main.tw17035731627637430848 : True := trivial
theorem main.tw15491723280356408159 : True := trivial
theorem main.tw11689664321512496715 : True := trivial
theorem main.tw15446329576048744955 : True := trivial
theorem main.tw4909700646600248447 : True := trivial
theorem main.tw12298629886278197574 : True := trivial
theorem main.tw16901679771719207805 : True := trivial
theorem main.tw10896356407431480244 : True := trivial
theorem main.tw13476453092275279800 : True := trivial
theorem main.tw6801380410627298636 : True := trivial
theorem main.tw9716624006974247489 : True := trivial
theorem main.tw18431692314602308842 : True := trivial
theorem main.tw9321267617633783869 : True := trivial
theorem main.tw10242657825688863476 : True := trivial
theorem main.tw7668756792840097458 : True := trivial
theorem main.tw15461212566085484399 : True := trivial
theorem main.tw10876375607700338302 : True := trivial
theorem main.tw2704602940660078815 : True := trivial
theorem main.tw2518857965603918243 : True := trivial
theorem main.tw9324701786144819629 : True := trivial
theorem main.tw796168687070700412 : True := trivial
theorem main.tw4026956272090484662 : True := trivial
theorem main.tw11735423636902730196 : True := trivial
theorem main.tw613567027398061577 : True := trivial
theorem main.tw5418533224930618480 : True := trivial
theorem main.tw4719957520787936630 : True := trivial
theorem main.tw6897311013810396976 : True := trivial
theorem main.tw7563215957194029611 : True := trivial
theorem main.tw7142256002058171272 : True := trivial
theorem main.tw3710551649720532701 : True := trivial
theorem main.tw6640438233256266117 : True := trivial
theorem main.tw17292155258170135553 : True := trivial
theorem main.tw4544244032028310869 : True := trivial
theorem main.tw1390771862084280389 : True := trivial
theorem main.tw8905464785575363620 : True := trivial
theorem main.tw8528285597010949478 : True := trivial
theorem main.tw2564707057010578714 : True := trivial
theorem main.tw5181119749688162637 : True := trivial
theorem main.tw11676816360460091147 : True := trivial
theorem main.tw15237998210293483671 : True := trivial
theorem main.tw1336659820572712380 : True := trivial
theorem main.tw15365013842991253249 : True := trivial
theorem main.tw16832360635688203351 : True := trivial
theorem main.tw4573282807186111410 : True := trivial
theorem main.tw11670399090076514202 : True := trivial
theorem main.tw16989488325979979065 : True := trivial
theorem main.tw471287901995484742 : True := trivial
theorem main.tw16962576782160293788 : True := trivial
theorem main.tw17413806152003534235 : True := trivial
theorem main.tw3033833032746330586 : True := trivial
theorem main.tw12872379398031375081 : True := trivial
theorem main.tw15616401959046598769 : True := trivial
theorem main.tw8930851030842425676 : True := trivial
theorem main.tw4370652028205933106 : True := trivial
theorem main.tw16026485685270457870 : True := trivial
theorem main.tw2442105787152858967 : True := trivial
theorem main.tw2744014450722944760 : True := trivial
theorem main.tw5665406974723832613 : True := trivial
theorem main.tw16008457594558532635 : True := trivial
theorem main.tw8440099810896429113 : True := trivial
theorem main.tw14136325212780177784 : True := trivial
theorem main.tw17861207000360874421 : True := trivial
theorem main.tw3958507339218470045 : True := trivial
theorem main.tw14216407083858561409 : True := trivial
theorem main.tw6117098260805541702 : True := trivial
theorem main.tw11614346279706655073 : True := trivial
theorem main.tw4650958065196391918 : True := trivial
theorem main.tw31828345220925962 : True := trivial
theorem main.tw10992214633131536827 : True := trivial
theorem main.tw4193505271845495863 : True := trivial
theorem main.tw17647351573629430322 : True := trivial
theorem main.tw1302378480544318763 : True := trivial
theorem main.tw14849204138880929251 : True := trivial
theorem main.tw365850788961202214 : True := trivial
theorem main.tw5240779543111244032 : True := trivial
theorem main.tw6516198228755648517 : True := trivial
theorem main.tw15565075772751903193 : True := trivial
theorem main.tw14161465996007527954 : True := trivial
theorem main.tw15734200111481486640 : True := trivial
theorem main.tw16035907590883218939 : True := trivial
theorem main.tw11608591588782457225 : True := trivial
theorem main.tw14539993770535171780 : True := trivial
theorem main.tw1099256609624015869 : True := trivial
theorem main.tw10733517942209094403 : True := trivial
theorem main.tw2442773178527959075 : True := trivial
theorem main.tw14489535830319231195 : True := trivial
theorem main.tw7113585516715319716 : True := trivial
theorem main.tw2699853397520045233 : True := trivial
theorem main.tw8546124895413445307 : True := trivial
theorem main.tw5842977544298395883 : True := trivial
theorem main.tw17708487481403421675 : True := trivial
theorem main.tw17457438065683690204 : True := trivial
theorem main.tw6361450105264607166 : True := trivial
theorem main.tw10818105183875986371 : True := trivial
theorem main.tw9563168847844234846 : True := trivial
theorem main.tw5632948755005780175 : True := trivial
theorem main.tw1289389943133740499 : True := trivial
theorem main.tw3864431920445960829 : True := trivial
theorem main.tw1429040668314091153 : True := trivial
theorem main.tw17146568849442343683 : True := trivial
theorem main.tw5004366561265856203 : True := trivial
theorem main.tw15624239662980076321 : True := trivial
theorem main.tw11239335112260394413 : True := trivial
theorem main.tw917386388269078853 : True := trivial
theorem main.tw8905992674379837232 : True := trivial
theorem main.tw12093647306153771053 : True := trivial
theorem main.tw14713023043418418522 : True := trivial
theorem main.tw1259162542039736189 : True := trivial
theorem main.tw7299474751278700455 : True := trivial
theorem main.tw14722489848711283861 : True := trivial
theorem main.tw8128210607045975953 : True := trivial
theorem main.tw9394770849952503311 : True := trivial
theorem main.tw896017019891655293 : True := trivial
theorem main.tw9377165991980808004 : True := trivial
theorem main.tw17185042187573640451 : True := trivial
theorem main.tw13180746182150919023 : True := trivial
theorem main.tw4637267157515435788 : True := trivial
theorem main.tw495442525896006271 : True := trivial
theorem main.tw5532463470591059822 : True := trivial
theorem main.tw17817656438006933710 : True := trivial
theorem main.tw3045742163950154196 : True := trivial
theorem main.tw12677648124622752472 : True := trivial
theorem main.tw3384924299092398102 : True := trivial
theorem main.tw6697339332421208802 : True := trivial
theorem main.tw17028514697001254897 : True := trivial
theorem main.tw16142765227538719955 : True := trivial
theorem main.tw10450603732522932521 : True := trivial
theorem main.tw11399646045708457374 : True := trivial
theorem main.tw9994787619460420439 : True := trivial
theorem main.tw12987577155417789579 : True := trivial
theorem main.tw7380652910202371479 : True := trivial
theorem main.tw9483120023164983764 : True := trivial
theorem main.tw4034048572721927537 : True := trivial
theorem main.tw1678875084529416142 : True := trivial
theorem main.tw1545906260438175962 : True := trivial
theorem main.tw244467455267321384 : True := trivial
theorem main.tw983542388872702638 : True := trivial
theorem main.tw1552421926411342777 : True := trivial
theorem main.tw379899607457092286 : True := trivial
theorem main.tw2094324518931649090 : True := trivial
theorem main.tw15737690656516749961 : True := trivial
theorem main.tw957831766286570088 : True := trivial
theorem main.tw9011639564254621642 : True := trivial
theorem main.tw14377536511252160716 : True := trivial
theorem main.tw13255245976751338989 : True := trivial
theorem main.tw11020365191643786025 : True := trivial
theorem main.tw12623159325031504133 : True := trivial
theorem main.tw4630824681090250767 : True := trivial
theorem main.tw54841869916938688 : True := trivial
theorem main.tw10140136200207757160 : True := trivial
theorem main.tw9787082251989533984 : True := trivial
theorem main.tw14106445559736802775 : True := trivial
theorem main.tw17958375852430007124 : True := trivial
theorem main.tw8844999433837080629 : True := trivial
theorem main.tw3332543467307319023 : True := trivial
theorem main.tw1677766988990989824 : True := trivial
theorem main.tw15876364053854556245 : True := trivial
theorem main.tw1199522599840049251 : True := trivial
theorem main.tw11135027115929721415 : True := trivial
theorem main.tw6056095068991171605 : True := trivial
theorem main.tw2629084897520917108 : True := trivial
theorem main.tw6741292078354696603 : True := trivial
theorem main.tw9054027147675381713 : True := trivial
theorem main.tw4413345314126155841 : True := trivial
theorem main.tw3748114642381145586 : True := trivial
theorem main.tw1716616197605632409 : True := trivial
theorem main.tw6557543464795787104 : True := trivial
theorem main.tw830812954180087092 : True := trivial
theorem main.tw17563168436475441343 : True := trivial
theorem main.tw10737556833816505880 : True := trivial
theorem main.tw4886955015573163100 : True := trivial
theorem main.tw12388926470269857702 : True := trivial
theorem main.tw18162592725011693541 : True := trivial
theorem main.tw13803360072150633466 : True := trivial
theorem main.tw765107192605250810 : True := trivial
theorem main.tw11461230924637031220 : True := trivial
theorem main.tw16721930046160240684 : True := trivial
theorem main.tw12273490649430754879 : True := trivial
theorem main.tw6569515737239586001 : True := trivial
theorem main.tw11685015443652150514 : True := trivial
theorem main.tw10056485391180722925 : True := trivial
theorem main.tw4651154628705390771 : True := trivial
theorem main.tw14699326698120687454 : True := trivial
theorem main.tw10877679251791092727 : True := trivial
theorem main.tw1211270941048087907 : True := trivial
theorem main.tw4587069139193485165 : True := trivial
theorem main.tw5865035375444044283 : True := trivial
theorem main.tw6690441779611380620 : True := trivial
theorem main.tw7273056430967151046 : True := trivial
theorem main.tw6449824600675878752 : True := trivial
theorem main.tw1519992759497675636 : True := trivial
theorem main.tw5995161000843957690 : True := trivial
theorem main.tw8283060676807011144 : True := trivial
theorem main.tw13711685867348743795 : True := trivial
theorem main.tw15950006927108054178 : True := trivial
theorem main.tw8458936906695911651 : True := trivial
theorem main.tw3033261876257692807 : True := trivial
theorem main.tw7647378279178456250 : True := trivial
theorem main.tw15649996292582860464 : True := trivial
theorem main.tw17025424565251489684 : True := trivial
theorem main.tw13429379312604010019 : True := trivial
theorem main.tw12006131722545458140 : True := trivial
theorem main.tw1253437644075932092 : True := trivial
theorem main.tw6898400011967081535 : True := trivial
theorem main.tw10094358506670053839 : True := trivial
theorem main.tw6124416833075167902 : True := trivial
theorem main.tw12850528765047580607 : True := trivial
theorem main.tw6298394922185409918 : True := trivial
theorem main.tw16757190730947197508 : True := trivial
theorem main.tw1046443281632482020 : True := trivial
theorem main.tw14492832472218066102 : True := trivial
theorem main.tw11752208632293872130 : True := trivial
theorem main.tw9155575984036265788 : True := trivial
theorem main.tw8118072479153026202 : True := trivial
theorem main.tw4216741518440994707 : True := trivial
theorem main.tw16356685582667847594 : True := trivial
theorem main.tw14666387041718499266 : True := trivial
theorem main.tw15975542379867263092 : True := trivial
theorem main.tw9939699701984659387 : True := trivial
theorem main.tw918671981122897330 : True := trivial
theorem main.tw5671064798259553346 : True := trivial
theorem main.tw2402762420636078793 : True := trivial
theorem main.tw6334894449686545209 : True := trivial
theorem main.tw16235428439501865183 : True := trivial
theorem main.tw2672093188730551128 : True := trivial
theorem main.tw16784772322866675431 : True := trivial
theorem main.tw2538046985915079169 : True := trivial
theorem main.tw4324958949535026087 : True := trivial
theorem main.tw6161133996638707016 : True := trivial
theorem main.tw7860819179221955721 : True := trivial
theorem main.tw6570437773673931950 : True := trivial
theorem main.tw5623159541915647742 : True := trivial
theorem main.tw13995172100960836882 : True := trivial
theorem main.tw3240935880901042570 : True := trivial
theorem main.tw8281396171620568247 : True := trivial
theorem main.tw9458421452666605423 : True := trivial
theorem main.tw14368271195830560734 : True := trivial
theorem main.tw15556330048392946422 : True := trivial
theorem main.tw12596693381112413025 : True := trivial
theorem main.tw11332626419695707122 : True := trivial
theorem main.tw5289026146741335887 : True := trivial
theorem main.tw16064943525067874072 : True := trivial
theorem main.tw440032029612755421 : True := trivial
theorem main.tw5106512470501171327 : True := trivial
theorem main.tw11101190512080308003 : True := trivial
theorem main.tw9942282790977331292 : True := trivial
theorem main.tw10298723112805639129 : True := trivial
theorem main.tw13313126695403321540 : True := trivial
theorem main.tw18396262490452839712 : True := trivial
theorem main.tw14747868875625980864 : True := trivial
theorem main.tw11716418206903941319 : True := trivial
theorem main.tw12429675835336498981 : True := trivial
theorem main.tw567168373054797020 : True := trivial
theorem main.tw14992222465124788362 : True := trivial
theorem main.tw9626384672669237482 : True := trivial
theorem main.tw15558288988949320067 : True := trivial
theorem main.tw11904941031934877020 : True := trivial
theorem main.tw13838900630717943254 : True := trivial
theorem main.tw16972566868458125486 : True := trivial
theorem main.tw4409510580461579534 : True := trivial
theorem main.tw1084220662915027778 : True := trivial
theorem main.tw2337230598321646361 : True := trivial
theorem main.tw15350898050860989542 : True := trivial
theorem main.tw2709746457059553413 : True := trivial
theorem main.tw14721343552236136636 : True := trivial
theorem main.tw5921134243170700561 : True := trivial
theorem main.tw13157206579259725088 : True := trivial
theorem main.tw2406621943657119228 : True := trivial
theorem main.tw9156686268802561153 : True := trivial
theorem main.tw13132915859168520264 : True := trivial
theorem main.tw161903638078081290 : True := trivial
theorem main.tw1615956725737779560 : True := trivial
theorem main.tw17236958762192778904 : True := trivial
theorem main.tw5748653593725889352 : True := trivial
theorem main.tw9561784451562097942 : True := trivial
theorem main.tw6768520987592691376 : True := trivial
theorem main.tw8934699018898702947 : True := trivial
theorem main.tw962032349192862916 : True := trivial
theorem main.tw16975186286363125341 : True := trivial
theorem main.tw4775608329324902142 : True := trivial
theorem main.tw7374449385936029500 : True := trivial
theorem main.tw11725999154989108132 : True := trivial
theorem main.tw12361340156312767134 : True := trivial
theorem main.tw7308723440029596264 : True := trivial
theorem main.tw5517759331935216279 : True := trivial
theorem main.tw14485764384710986 : True := trivial
theorem main.tw5518243967957118194 : True := trivial
theorem main.tw14771111431291430275 : True := trivial
theorem main.tw10201359505653846880 : True := trivial
theorem main.tw12247406853277913960 : True := trivial
theorem main.tw8748973510418095054 : True := trivial
theorem main.tw13148611719377898607 : True := trivial
theorem main.tw4812270449578504274 : True := trivial
theorem main.tw13077236301305049449 : True := trivial
theorem main.tw13689083923384677848 : True := trivial
theorem main.tw13547569757486424058 : True := trivial
theorem main.tw10047389527955405517 : True := trivial
theorem main.tw1496695287857109588 : True := trivial
theorem main.tw11643815928222810078 : True := trivial
theorem main.tw11531331273489700057 : True := trivial
theorem main.tw14020873708864708748 : True := trivial
theorem main.tw5534937755968359062 : True := trivial
theorem main.tw14623576949289902444 : True := trivial
theorem main.tw11814867827210800679 : True := trivial
theorem main.tw9848185148710128376 : True := trivial
theorem main.tw10939538800803721631 : True := trivial
theorem main.tw12855038569804585853 : True := trivial
theorem main.tw14540907926641238338 : True := trivial
theorem main.tw7651912239045463671 : True := trivial
theorem main.tw12646911602827044314 : True := trivial
theorem main.tw7332552209862256014 : True := trivial
theorem main.tw10453263994017694363 : True := trivial
theorem main.tw15688281317961992914 : True := trivial
theorem main.tw10498732276585296291 : True := trivial
theorem main.tw15608450976537380609 : True := trivial
theorem main.tw4882109666999030741 : True := trivial
theorem main.tw16355746345580011080 : True := trivial
theorem main.tw14286279103370969706 : True := trivial
theorem main.tw10642606787283503386 : True := trivial
theorem main.tw2343935838158425641 : True := trivial
theorem main.tw16819838333489098493 : True := trivial
theorem main.tw746619569347964165 : True := trivial
theorem main.tw13381974486344185354 : True := trivial
theorem main.tw18342001204779339714 : True := trivial
theorem main.tw2033968301974640842 : True := trivial
theorem main.tw11967333016625521393 : True := trivial
theorem main.tw11774690029378154688 : True := trivial
theorem main.tw13934608090901567409 : True := trivial
theorem main.tw10813080517026676716 : True := trivial
theorem main.tw5491092008493831813 : True := trivial
theorem main.tw6164561884633627433 : True := trivial
theorem main.tw13738235750113832370 : True := trivial
theorem main.tw12431561837914552411 : True := trivial
theorem main.tw6784281429047641461 : True := trivial
theorem main.tw6264281720289328834 : True := trivial
theorem main.tw12594366453804578888 : True := trivial
theorem main.tw4492577900981701499 : True := trivial
theorem main.tw13194694976546938235 : True := trivial
theorem main.tw15788135083398108852 : True := trivial
theorem main.tw10567084921333377638 : True := trivial
theorem main.tw9361300454564663673 : True := trivial
theorem main.tw12608185968620612914 : True := trivial
theorem main.tw7237411587787531456 : True := trivial
theorem main.tw1141667927807361340 : True := trivial
theorem main.tw17585224947871030625 : True := trivial
theorem main.tw1590763530083325563 : True := trivial
theorem main.tw12564604832814323664 : True := trivial
theorem main.tw13611986716879344365 : True := trivial
theorem main.tw2215267417292685860 : True := trivial
theorem main.tw452746233719593009 : True := trivial
theorem main.tw4585930131862741453 : True := trivial
theorem main.tw1482514558327805235 : True := trivial
theorem main.tw16292202817602668162 : True := trivial
theorem main.tw17920292393507637884 : True := trivial
theorem main.tw3298483428156984901 : True := trivial
theorem main.tw12582173479537470380 : True := trivial
theorem main.tw3078062877239007290 : True := trivial
theorem main.tw10819019510126429635 : True := trivial
theorem main.tw6385024630547198690 : True := trivial
theorem main.tw16965079339398995527 : True := trivial
theorem main.tw9303439499767911484 : True := trivial
theorem main.tw14798791472264738832 : True := trivial
theorem main.tw13465503431842376007 : True := trivial
theorem main.tw10609540516017602915 : True := trivial
theorem main.tw6886502059237256666 : True := trivial
theorem main.tw4924694640843408985 : True := trivial
theorem main.tw9555603470751421739 : True := trivial
theorem main.tw5688439262020109068 : True := trivial
theorem main.tw1027651156746619712 : True := trivial
theorem main.tw10868597352034487664 : True := trivial
theorem main.tw14500621930108132270 : True := trivial
theorem main.tw4072190877284726289 : True := trivial
theorem main.tw12324921354453157484 : True := trivial
theorem main.tw11923525502935528744 : True := trivial
theorem main.tw5481437975921331730 : True := trivial
theorem main.tw1454224541498743561 : True := trivial
theorem main.tw13693970394777133609 : True := trivial
theorem main.tw6785432497481299714 : True := trivial
theorem main.tw10564528347858357063 : True := trivial
theorem main.tw4420394385881154636 : True := trivial
theorem main.tw1632041292262086317 : True := trivial
theorem main.tw10474107093616326617 : True := trivial
theorem main.tw6137908229700043457 : True := trivial
theorem main.tw2729793432009153956 : True := trivial
theorem main.tw14235155234550121937 : True := trivial
theorem main.tw15062679425460387418 : True := trivial
theorem main.tw12486707755183070473 : True := trivial
theorem main.tw11614107205274993552 : True := trivial
theorem main.tw997282325285248744 : True := trivial
theorem main.tw12252054271945606052 : True := trivial
theorem main.tw16451033083921036709 : True := trivial
theorem main.tw9121559901702372667 : True := trivial
theorem main.tw10435530978670571659 : True := trivial
theorem main.tw1707505545463187130 : True := trivial
theorem main.tw656089360051881306 : True := trivial
theorem main.tw18218335207050127959 : True := trivial
theorem main.tw10985888656933367436 : True := trivial
theorem main.tw16578545616960683006 : True := trivial
theorem main.tw8207831470162742035 : True := trivial
theorem main.tw9161159452563919750 : True := trivial
theorem main.tw18406820200293129166 : True := trivial
theorem main.tw15225127925928830808 : True := trivial
theorem main.tw17336282652733537790 : True := trivial
theorem main.tw1980160206288974728 : True := trivial
theorem main.tw453184122279072053 : True := trivial
theorem main.tw6855474311058116810 : True := trivial
theorem main.tw3056878081241006185 : True := trivial
theorem main.tw10199874654664476236 : True := trivial
theorem main.tw2456247091588846565 : True := trivial
theorem main.tw8466321980469482115 : True := trivial
theorem main.tw2855982326401850692 : True := trivial
theorem main.tw270496394426124508 : True := trivial
theorem main.tw5401703158475992631 : True := trivial
theorem main.tw5104194264097766351 : True := trivial
theorem main.tw15575723056732996420 : True := trivial
theorem main.tw6394338452064613244 : True := trivial
theorem main.tw11646826074482590764 : True := trivial
theorem main.tw3491332818749588091 : True := trivial
theorem main.tw12106859168716417752 : True := trivial
theorem main.tw49674306023711395 : True := trivial
theorem main.tw750237026923860459 : True := trivial
theorem main.tw15312394840280087653 : True := trivial
theorem main.tw16707527281638135014 : True := trivial
theorem main.tw11775208976360778532 : True := trivial
theorem main.tw17453503289922162039 : True := trivial
theorem main.tw12800608258095302798 : True := trivial
theorem main.tw5507402815253087181 : True := trivial
theorem main.tw12958428809211121842 : True := trivial
theorem main.tw4359638763739663684 : True := trivial
theorem main.tw1630245386807275959 : True := trivial
theorem main.tw1270039299266317192 : True := trivial
theorem main.tw8947760058931562597 : True := trivial
theorem main.tw14793117695081215449 : True := trivial
theorem main.tw12463224122652932544 : True := trivial
theorem main.tw18421580907717582127 : True := trivial
theorem main.tw18425317256667529438 : True := trivial
theorem main.tw12343854547171428336 : True := trivial
theorem main.tw14027531716089632829 : True := trivial
theorem main.tw17398713541454457963 : True := trivial
theorem main.tw6418202794160714309 : True := trivial
theorem main.tw9957550378297406723 : True := trivial
theorem main.tw10123989817122485451 : True := trivial
theorem main.tw16320215318167395912 : True := trivial
theorem main.tw8231103150381890471 : True := trivial
theorem main.tw7698036289167662538 : True := trivial
theorem main.tw1142173933681417890 : True := trivial
theorem main.tw341453280667917650 : True := trivial
theorem main.tw13632517456078841581 : True := trivial
theorem main.tw12139096438432415106 : True := trivial
theorem main.tw16798207577519904205 : True := trivial
theorem main.tw14672674291997333471 : True := trivial
theorem main.tw4452170602077327944 : True := trivial
theorem main.tw4685254768650574667 : True := trivial
theorem main.tw7010351842590255796 : True := trivial
theorem main.tw7943094425149488825 : True := trivial
theorem main.tw4766233809647381661 : True := trivial
theorem main.tw4388993273346631982 : True := trivial
theorem main.tw18190005008629794160 : True := trivial
theorem main.tw799486724532869496 : True := trivial
theorem main.tw5499918767896811753 : True := trivial
theorem main.tw1121519763818294206 : True := trivial
theorem main.tw12118360930388700471 : True := trivial
theorem main.tw8153860185051352139 : True := trivial
theorem main.tw14513571923725367585 : True := trivial
theorem main.tw18234761425742761375 : True := trivial
theorem main.tw12769609668448893641 : True := trivial
theorem main.tw10169072693733980587 : True := trivial
theorem main.tw6981815665589151136 : True := trivial
theorem main.tw11251407683458634364 : True := trivial
theorem main.tw15326346284793698685 : True := trivial
theorem main.tw14060465935940456498 : True := trivial
theorem main.tw10669944970481658594 : True := trivial
theorem main.tw16480584520131690045 : True := trivial
theorem main.tw12708527379921502667 : True := trivial
theorem main.tw9897820754763898449 : True := trivial
theorem main.tw6909042917933305093 : True := trivial
theorem main.tw308427716283879934 : True := trivial
theorem main.tw13597483153833180358 : True := trivial
theorem main.tw3464709057266567092 : True := trivial
theorem main.tw6483966928607899096 : True := trivial
theorem main.tw8074507844701363242 : True := trivial
theorem main.tw9515011664573035354 : True := trivial
theorem main.tw15579395750891953841 : True := trivial
theorem main.tw14864636224205547913 : True := trivial
theorem main.tw4258463428174104133 : True := trivial
theorem main.tw11349898740250378076 : True := trivial
theorem main.tw8567518541235275850 : True := trivial
theorem main.tw6663778134991626487 : True := trivial
theorem main.tw17280665378484479262 : True := trivial
theorem main.tw15438212644395081984 : True := trivial
theorem main.tw33614349342159083 : True := trivial
theorem main.tw11125538497796368324 : True := trivial
theorem main.tw18046886581883190830 : True := trivial
theorem main.tw17705503467451336006 : True := trivial
theorem main.tw11962923498438245051 : True := trivial
theorem main.tw17128476026691140212 : True := trivial
theorem main.tw11229075413691439314 : True := trivial
theorem main.tw174131880313736182 : True := trivial
theorem main.tw2022962002417519128 : True := trivial
theorem main.tw8548823596671561066 : True := trivial
theorem main.tw15097543051748444868 : True := trivial
theorem main.tw7623511443260959870 : True := trivial
theorem main.tw17016820405989369747 : True := trivial
theorem main.tw436875483806001466 : True := trivial
theorem main.tw13667920496262714385 : True := trivial
theorem main.tw6981580820607432535 : True := trivial
theorem main.tw8732486101406053781 : True := trivial
theorem main.tw4491334807805099456 : True := trivial
theorem main.tw15432235134303409840 : True := trivial
theorem main.tw11218778669853930896 : True := trivial
theorem main.tw7165207203227711834 : True := trivial
theorem main.tw9392487213469676918 : True := trivial
theorem main.tw7929128423345735474 : True := trivial
theorem main.tw12751799325998411230 : True := trivial
theorem main.tw7972779244933481256 : True := trivial
theorem main.tw10483362588635715401 : True := trivial
theorem main.tw18005423509665057918 : True := trivial
theorem main.tw17906638245316424091 : True := trivial
theorem main.tw10876229203375891673 : True := trivial
theorem main.tw15672986146971166658 : True := trivial
theorem main.tw9287587430799945685 : True := trivial
theorem main.tw11261727412033496967 : True := trivial
theorem main.tw5436791530062809996 : True := trivial
theorem main.tw15015129292197451723 : True := trivial
theorem main.tw15660686498588105780 : True := trivial
theorem main.tw12885673836220544336 : True := trivial
theorem main.tw9268297945177815525 : True := trivial
theorem main.tw5890889631881817875 : True := trivial
theorem main.tw18165044119631177899 : True := trivial
theorem main.tw14535484193269619989 : True := trivial
theorem main.tw14805756002866571830 : True := trivial
theorem main.tw18031918436515192882 : True := trivial
theorem main.tw5473700226181020891 : True := trivial
theorem main.tw16274502184877008141 : True := trivial
theorem main.tw16922381011570985944 : True := trivial
theorem main.tw3609762217373132089 : True := trivial
theorem main.tw7884331609784382070 : True := trivial
theorem main.tw9302470337196694018 : True := trivial
theorem main.tw11388154006635350966 : True := trivial
theorem main.tw13980345723018547825 : True := trivial
theorem main.tw9069182735580402390 : True := trivial
theorem main.tw2354262462317623899 : True := trivial
theorem main.tw12909650291622432550 : True := trivial
theorem main.tw8681388529863501421 : True := trivial
theorem main.tw17268439761433841065 : True := trivial
theorem main.tw8729708805864041840 : True := trivial
theorem main.tw2583023086579268501 : True := trivial
theorem main.tw1091023725331581683 : True := trivial
theorem main.tw657867468410044558 : True := trivial
theorem main.tw5871769198996169552 : True := trivial
theorem main.tw7214478077546791972 : True := trivial
theorem main.tw15955573374722617477 : True := trivial
theorem main.tw10255180020182114038 : True := trivial
theorem main.tw9265829497004654079 : True := trivial
theorem main.tw11476092923266045095 : True := trivial
theorem main.tw15387884906608193903 : True := trivial
theorem main.tw1098248734344127483 : True := trivial
theorem main.tw8421283082012440161 : True := trivial
theorem main.tw7186131708394509389 : True := trivial
theorem main.tw17734603463515337306 : True := trivial
theorem main.tw6075091234017535682 : True := trivial
theorem main.tw3136416535801588117 : True := trivial
theorem main.tw7268301785047649679 : True := trivial
theorem main.tw16932134980577923087 : True := trivial
theorem main.tw5234446048077146213 : True := trivial
theorem main.tw16877947373546393871 : True := trivial
theorem main.tw1606137496264982490 : True := trivial
theorem main.tw11707585526205722907 : True := trivial
theorem main.tw11387536720948717409 : True := trivial
theorem main.tw545269030811804461 : True := trivial
theorem main.tw2110754180369666209 : True := trivial
theorem main.tw11490900464029743698 : True := trivial
theorem main.tw8265370782698574782 : True := trivial
theorem main.tw17809569316528986123 : True := trivial
theorem main.tw14925635105145352654 : True := trivial
theorem main.tw12681957500809781501 : True := trivial
theorem main.tw1486339892855113045 : True := trivial
theorem main.tw9389665374557996460 : True := trivial
theorem main.tw2007339730380871907 : True := trivial
theorem main.tw11903146300924635186 : True := trivial
theorem main.tw11073057312100509488 : True := trivial
theorem main.tw15810667371194948217 : True := trivial
theorem main.tw14562738103837258888 : True := trivial
theorem main.tw7303788730961420846 : True := trivial
theorem main.tw8634654232796393261 : True := trivial
theorem main.tw8565580760176719406 : True := trivial
theorem main.tw14406990849044604362 : True := trivial
theorem main.tw11092141859048813250 : True := trivial
theorem main.tw3557749057250611081 : True := trivial
theorem main.tw10750994468655217958 : True := trivial
theorem main.tw7755989106900416354 : True := trivial
theorem main.tw11548542833958708988 : True := trivial
theorem main.tw979501456738626862 : True := trivial
theorem main.tw17431719831054627609 : True := trivial
theorem main.tw17715262827843222689 : True := trivial
theorem main.tw4385281892830598654 : True := trivial
theorem main.tw6584820252761975732 : True := trivial
theorem main.tw13943995914846970329 : True := trivial
theorem main.tw1645717771770832407 : True := trivial
theorem main.tw5400957986263281647 : True := trivial
theorem main.tw16424990018577422225 : True := trivial
theorem main.tw834873547066669988 : True := trivial
theorem main.tw14439473939278146460 : True := trivial
theorem main.tw960986543115211030 : True := trivial
theorem main.tw11712081513822626495 : True := trivial
theorem main.tw3867218068155391060 : True := trivial
theorem main.tw9483696857397876608 : True := trivial
theorem main.tw7394006948641179287 : True := trivial
theorem main.tw3502538907535333668 : True := trivial
theorem main.tw2750411421705246143 : True := trivial
theorem main.tw9355243762808164322 : True := trivial
theorem main.tw1628013610222277130 : True := trivial
theorem main.tw14574029869970696880 : True := trivial
theorem main.tw3147848556776432810 : True := trivial
theorem main.tw5837888446457221635 : True := trivial
theorem main.tw3796207824708393856 : True := trivial
theorem main.tw17864028415675338326 : True := trivial
theorem main.tw7701450462656399998 : True := trivial
theorem main.tw9512817274939609580 : True := trivial
theorem main.tw12922898485456448571 : True := trivial
theorem main.tw17474269916031935128 : True := trivial
theorem main.tw11463369355524808266 : True := trivial
theorem main.tw16306752039592474060 : True := trivial
theorem main.tw6785657489111691699 : True := trivial
theorem main.tw14443092014599818573 : True := trivial
theorem main.tw3137596982192898869 : True := trivial
theorem main.tw13590572293223372214 : True := trivial
theorem main.tw800281523700244446 : True := trivial
theorem main.tw11012492570468723375 : True := trivial
theorem main.tw1130211791997205004 : True := trivial
theorem main.tw16778611742570070204 : True := trivial
theorem main.tw17493723678399337961 : True := trivial
theorem main.tw17450470499104002142 : True := trivial
theorem main.tw10204856939554784155 : True := trivial
theorem main.tw12667108692942931566 : True := trivial
theorem main.tw451873465583785326 : True := trivial
theorem main.tw8181977626019955066 : True := trivial
theorem main.tw18332899500509843999 : True := trivial
theorem main.tw11001617756164336837 : True := trivial
theorem main.tw2136821422063795447 : True := trivial
theorem main.tw11119146913839337285 : True := trivial
theorem main.tw4156893749530806270 : True := trivial
theorem main.tw1409966394225722968 : True := trivial
theorem main.tw17943756269633507525 : True := trivial
theorem main.tw13116522157475607773 : True := trivial
theorem main.tw5243159528196176124 : True := trivial
theorem main.tw4638281056170512193 : True := trivial
theorem main.tw2965820268544440810 : True := trivial
theorem main.tw8404659333953806752 : True := trivial
theorem main.tw6140287776057189764 : True := trivial
theorem main.tw2179619686303460721 : True := trivial
theorem main.tw3370190323706015969 : True := trivial
theorem main.tw13503263706703578961 : True := trivial
theorem main.tw16136984950599521427 : True := trivial
theorem main.tw12483276189755474720 : True := trivial
theorem main.tw1587290215689348708 : True := trivial
theorem main.tw833945537157984683 : True := trivial
theorem main.tw14336716466608126219 : True := trivial
theorem main.tw18344032359734412310 : True := trivial
theorem main.tw5870225077901225703 : True := trivial
theorem main.tw5240536507193477226 : True := trivial
theorem main.tw4297412468100583042 : True := trivial
theorem main.tw3160845607165458772 : True := trivial
theorem main.tw5309058905264134205 : True := trivial
theorem main.tw17784085234867301975 : True := trivial
theorem main.tw3829396358689915599 : True := trivial
theorem main.tw18120430973489738927 : True := trivial
theorem main.tw13876859957761632879 : True := trivial
theorem main.tw5477019107358212144 : True := trivial
theorem main.tw8627561154394265716 : True := trivial
theorem main.tw2259866600804224517 : True := trivial
theorem main.tw6613752742083519222 : True := trivial
theorem main.tw9557352009045844224 : True := trivial
theorem main.tw4871624949866520906 : True := trivial
theorem main.tw16459181004822140265 : True := trivial
theorem main.tw17262041522474090127 : True := trivial
theorem main.tw17110241357884498264 : True := trivial
theorem main.tw3583811862363856187 : True := trivial
theorem main.tw14064073609400967072 : True := trivial
theorem main.tw9067231828042526015 : True := trivial
theorem main.tw12518504611687188807 : True := trivial
theorem main.tw14247123612743402574 : True := trivial
theorem main.tw8478376212529829071 : True := trivial
theorem main.tw11544348965984651327 : True := trivial
theorem main.tw16135426469972691074 : True := trivial
theorem main.tw17525948733911132925 : True := trivial
theorem main.tw13348322127785295214 : True := trivial
theorem main.tw6126307067910672491 : True := trivial
theorem main.tw15059693217772790739 : True := trivial
theorem main.tw1041082287264499562 : True := trivial
theorem main.tw5567732340971880690 : True := trivial
theorem main.tw1627914004837282890 : True := trivial
theorem main.tw16806246253224384389 : True := trivial
theorem main.tw6914184659022975773 : True := trivial
theorem main.tw10363585996791799541 : True := trivial
theorem main.tw14510055921401542917 : True := trivial
theorem main.tw11501822485730972192 : True := trivial
theorem main.tw13972245371655741198 : True := trivial
theorem main.tw11311155076762098589 : True := trivial
theorem main.tw9406782406253462049 : True := trivial
theorem main.tw17465928265306105389 : True := trivial
theorem main.tw3062356812957192748 : True := trivial
theorem main.tw1610520696219057239 : True := trivial
theorem main.tw1075715825243056693 : True := trivial
theorem main.tw3466206800631347469 : True := trivial
theorem main.tw5010051100324977839 : True := trivial
theorem main.tw18238007617527299592 : True := trivial
theorem main.tw3422715526262721465 : True := trivial
theorem main.tw4884833596989118616 : True := trivial
theorem main.tw16338599768312175441 : True := trivial
theorem main.tw11120327062377616369 : True := trivial
theorem main.tw18302796317244248524 : True := trivial
theorem main.tw12543713266681445118 : True := trivial
theorem main.tw14962632401376961426 : True := trivial
theorem main.tw6425626318312657004 : True := trivial
theorem main.tw9658885295015712986 : True := trivial
theorem main.tw2363833142923657126 : True := trivial
theorem main.tw3706830351922483016 : True := trivial
theorem main.tw13306352142949925410 : True := trivial
theorem main.tw13350764725976880583 : True := trivial
theorem main.tw12023146180999706270 : True := trivial
theorem main.tw6642858168728409138 : True := trivial
theorem main.tw15425874342098770709 : True := trivial
theorem main.tw3554760562371715034 : True := trivial
theorem main.tw15772080087578916929 : True := trivial
theorem main.tw5739359538556088036 : True := trivial
theorem main.tw9417822746687237092 : True := trivial
theorem main.tw14377180257169084997 : True := trivial
theorem main.tw9640653529227460316 : True := trivial
theorem main.tw16102231251864390963 : True := trivial
theorem main.tw7788533954027902341 : True := trivial
theorem main.tw4139100593308808776 : True := trivial
theorem main.tw15853742577940245110 : True := trivial
theorem main.tw4500915450034043215 : True := trivial
theorem main.tw2706565263282018355 : True := trivial
theorem main.tw10953687544409504101 : True := trivial
theorem main.tw1156462466702112376 : True := trivial
theorem main.tw16098250325252768472 : True := trivial
theorem main.tw17159216914136082949 : True := trivial
theorem main.tw4526832465735077838 : True := trivial
theorem main.tw3562595001068472590 : True := trivial
theorem main.tw15928290008803537013 : True := trivial
theorem main.tw5464139401052260700 : True := trivial
theorem main.tw4800332088761170393 : True := trivial
theorem main.tw9986019674649008433 : True := trivial
theorem main.tw3101618767437608674 : True := trivial
theorem main.tw14168887731352723522 : True := trivial
theorem main.tw15856253410473290099 : True := trivial
theorem main.tw4828321002762670280 : True := trivial
theorem main.tw16022572192331126682 : True := trivial
theorem main.tw13402765919934010277 : True := trivial
theorem main.tw2261811237465622523 : True := trivial
theorem main.tw10987386120367425466 : True := trivial
theorem main.tw4310270188432123100 : True := trivial
theorem main.tw17904854198161793398 : True := trivial
theorem main.tw10234815189450012239 : True := trivial
theorem main.tw17560382547099542434 : True := trivial
theorem main.tw2724176850512262202 : True := trivial
theorem main.tw14755733875199540201 : True := trivial
theorem main.tw17477492558424962760 : True := trivial
theorem main.tw12170992721606120685 : True := trivial
theorem main.tw17128291446047057950 : True := trivial
theorem main.tw17679725944135375923 : True := trivial
theorem main.tw12653679108036650311 : True := trivial
theorem main.tw3254435362815857194 : True := trivial
theorem main.tw6519269512792494810 : True := trivial
theorem main.tw3197156666308221516 : True := trivial
theorem main.tw8475525182357872103 : True := trivial
theorem main.tw5435614590818080486 : True := trivial
theorem main.tw8542003632685431615 : True := trivial
theorem main.tw14274022001184321148 : True := trivial
theorem main.tw6508729118710982530 : True := trivial
theorem main.tw2702614204127132176 : True := trivial
theorem main.tw4948327476702027199 : True := trivial
theorem main.tw3905226178654972811 : True := trivial
theorem main.tw14907226015203709474 : True := trivial
theorem main.tw6868236387235032019 : True := trivial
theorem main.tw4967792270526972898 : True := trivial
theorem main.tw7780446386730421317 : True := trivial
theorem main.tw13796163658531065512 : True := trivial
theorem main.tw1886080085820668685 : True := trivial
theorem main.tw4490594533142400296 : True := trivial
theorem main.tw104360540948158410 : True := trivial
theorem main.tw11405101455947879731 : True := trivial
theorem main.tw17403364634526059139 : True := trivial
theorem main.tw7293298908176781663 : True := trivial
theorem main.tw15022946984557111684 : True := trivial
theorem main.tw11554813239044494598 : True := trivial
theorem main.tw12130321265151566525 : True := trivial
theorem main.tw15734660467963936456 : True := trivial
theorem main.tw5102693214775723256 : True := trivial
theorem main.tw14635473669698735251 : True := trivial
theorem main.tw3960113756560652017 : True := trivial
theorem main.tw7297187181890747607 : True := trivial
theorem main.tw5186916860251794821 : True := trivial
theorem main.tw6674893403203295414 : True := trivial
theorem main.tw1084114956928915155 : True := trivial
theorem main.tw16689149305811164139 : True := trivial
theorem main.tw15282798724139172088 : True := trivial
theorem main.tw11028137302277699333 : True := trivial
theorem main.tw8651587035891514320 : True := trivial
theorem main.tw734625210370093676 : True := trivial
theorem main.tw12590340796369385619 : True := trivial
theorem main.tw503776379904844713 : True := trivial
theorem main.tw4644634924443464280 : True := trivial
theorem main.tw9131807755668617818 : True := trivial
theorem main.tw3514860599065459168 : True := trivial
theorem main.tw12338497608069007261 : True := trivial
theorem main.tw6702130215012162313 : True := trivial
theorem main.tw8046773169563483271 : True := trivial
theorem main.tw26151593507588753 : True := trivial
theorem main.tw12785325919471990445 : True := trivial
theorem main.tw11982392923317675503 : True := trivial
theorem main.tw3370842686811476594 : True := trivial
theorem main.tw13154001654789283132 : True := trivial
theorem main.tw9247501659233101145 : True := trivial
theorem main.tw9482835179454861754 : True := trivial
theorem main.tw7875838824674609581 : True := trivial
theorem main.tw854977524454699277 : True := trivial
theorem main.tw16923884221124529275 : True := trivial
theorem main.tw6590341273101898363 : True := trivial
theorem main.tw8652556701797213591 : True := trivial
theorem main.tw9703084557020090508 : True := trivial
theorem main.tw3485684062173492111 : True := trivial
theorem main.tw12455012482086183272 : True := trivial
theorem main.tw12870486517592710932 : True := trivial
theorem main.tw6655696309031964122 : True := trivial
theorem main.tw1800746815547063501 : True := trivial
theorem main.tw7623509227018997848 : True := trivial
theorem main.tw12839114828313443825 : True := trivial
theorem main.tw3651295723282942808 : True := trivial
theorem main.tw8125125469695226666 : True := trivial
theorem main.tw15684375888932747349 : True := trivial
theorem main.tw13676971244355772609 : True := trivial
theorem main.tw11303903049781669535 : True := trivial
theorem main.tw18325589031809861271 : True := trivial
theorem main.tw1242282695825638017 : True := trivial
theorem main.tw16950194794029067938 : True := trivial
theorem main.tw7751025194823839400 : True := trivial
theorem main.tw7624293977416268664 : True := trivial
theorem main.tw7483713754202142201 : True := trivial
theorem main.tw2544328076492683441 : True := trivial
theorem main.tw9756827057097773860 : True := trivial
theorem main.tw9889869242142760280 : True := trivial
theorem main.tw9374922184474081937 : True := trivial
theorem main.tw8021561364319875612 : True := trivial
theorem main.tw12134908399292295839 : True := trivial
theorem main.tw2484414159333256978 : True := trivial
theorem main.tw4587724036053657169 : True := trivial
theorem main.tw8903568455446660058 : True := trivial
theorem main.tw2019394398466159022 : True := trivial
theorem main.tw6106196091520820027 : True := trivial
theorem main.tw52199770228462824 : True := trivial
theorem main.tw12770256342625107919 : True := trivial
theorem main.tw73751810991705359 : True := trivial
theorem main.tw7276690615722977934 : True := trivial
theorem main.tw17871620999419790863 : True := trivial
theorem main.tw6535589618603614281 : True := trivial
theorem main.tw9184045479044318644 : True := trivial
theorem main.tw9976160756891316704 : True := trivial
theorem main.tw3314904115985164895 : True := trivial
theorem main.tw15716136233813703712 : True := trivial
theorem main.tw4330594992337426955 : True := trivial
theorem main.tw4044139247061151142 : True := trivial
theorem main.tw961187720498965250 : True := trivial
theorem main.tw6907636171062424033 : True := trivial
theorem main.tw1269329923203890863 : True := trivial
theorem main.tw17675563975411571412 : True := trivial
theorem main.tw4046449949787424452 : True := trivial
theorem main.tw6862492499505807319 : True := trivial
theorem main.tw16551855485269240956 : True := trivial
theorem main.tw2127038452521536779 : True := trivial
theorem main.tw14640416626631428029 : True := trivial
theorem main.tw7675930258259734528 : True := trivial
theorem main.tw12059326537678458872 : True := trivial
theorem main.tw7019240024125815769 : True := trivial
theorem main.tw10418042200766032776 : True := trivial
theorem main.tw17941078945044682546 : True := trivial
theorem main.tw223528310411579522 : True := trivial
theorem main.tw13219505800766818778 : True := trivial
theorem main.tw17353955331779342651 : True := trivial
theorem main.tw8492455212021363390 : True := trivial
theorem main.tw6252391252262179987 : True := trivial
theorem main.tw16218864148678617972 : True := trivial
theorem main.tw9293455121233016472 : True := trivial
theorem main.tw14814594519894181452 : True := trivial
theorem main.tw12974819211118642341 : True := trivial
theorem main.tw14504180641510445567 : True := trivial
theorem main.tw18288009448212308685 : True := trivial
theorem main.tw1544020853599562407 : True := trivial
theorem main.tw15140838672463199983 : True := trivial
theorem main.tw15098031235356848795 : True := trivial
theorem main.tw11987853993630220354 : True := trivial
theorem main.tw1802694337368751817 : True := trivial
theorem main.tw15595112118272840620 : True := trivial
theorem main.tw9360745474812902239 : True := trivial
theorem main.tw7411558596216406370 : True := trivial
theorem main.tw7188284251151334629 : True := trivial
theorem main.tw5768018617931124328 : True := trivial
theorem main.tw4106331969535476075 : True := trivial
theorem main.tw10707853282979444102 : True := trivial
theorem main.tw7093617532817203218 : True := trivial
theorem main.tw18309516606911836034 : True := trivial
theorem main.tw12670839924663504800 : True := trivial
theorem main.tw8553149196640511200 : True := trivial
theorem main.tw12075919899556687040 : True := trivial
theorem main.tw16676564476587882173 : True := trivial
theorem main.tw7884273913378172499 : True := trivial
theorem main.tw6418098437765475518 : True := trivial
theorem main.tw4039676971129161736 : True := trivial
theorem main.tw13187166440333854079 : True := trivial
theorem main.tw11183452524601008856 : True := trivial
theorem main.tw11710404883906591787 : True := trivial
theorem main.tw861011362418597151 : True := trivial
theorem main.tw15514936471743626214 : True := trivial
theorem main.tw2599750674813586877 : True := trivial
theorem main.tw16153351446899991344 : True := trivial
theorem main.tw3985830497718990404 : True := trivial
theorem main.tw3750506576032048294 : True := trivial
theorem main.tw2225892363528398861 : True := trivial
theorem main.tw33456957511925785 : True := trivial
theorem main.tw6237627108579964202 : True := trivial
theorem main.tw16332121612629036173 : True := trivial
theorem main.tw5527929279227188259 : True := trivial
theorem main.tw14698241182937546978 : True := trivial
theorem main.tw9747897558166968733 : True := trivial
theorem main.tw17659147809683748901 : True := trivial
theorem main.tw3288582142898991060 : True := trivial
theorem main.tw2566753976717531306 : True := trivial
theorem main.tw3222223853247747169 : True := trivial
theorem main.tw5613160597433933154 : True := trivial
theorem main.tw14909365282108701170 : True := trivial
theorem main.tw4839478117068044826 : True := trivial
theorem main.tw9730157408454304684 : True := trivial
theorem main.tw17052023290607921161 : True := trivial
theorem main.tw7439787175107056256 : True := trivial
theorem main.tw12969983923199422630 : True := trivial
theorem main.tw17413556829735388813 : True := trivial
theorem main.tw15606653302220566414 : True := trivial
theorem main.tw13713940216889387898 : True := trivial
theorem main.tw4946776927847147119 : True := trivial
theorem main.tw8984930932524396370 : True := trivial
theorem main.tw65644731488775911 : True := trivial
theorem main.tw11978589735037897956 : True := trivial
theorem main.tw16461994057933719463 : True := trivial
theorem main.tw2675658811408624930 : True := trivial
theorem main.tw11003572833241299968 : True := trivial
theorem main.tw3626430660855392483 : True := trivial
theorem main.tw12522145199190819592 : True := trivial
theorem main.tw4156125974679941130 : True := trivial
theorem main.tw14112269089397522482 : True := trivial
theorem main.tw12027323910402764344 : True := trivial
theorem main.tw4038928485795849711 : True := trivial
theorem main.tw12927740378394474205 : True := trivial
theorem main.tw6788530277367551627 : True := trivial
theorem main.tw16305672181175384284 : True := trivial
theorem main.tw6605025701479795990 : True := trivial
theorem main.tw11785714552879321826 : True := trivial
theorem main.tw12245857906982125569 : True := trivial
theorem main.tw18063282731904131703 : True := trivial
theorem main.tw12702744160499308131 : True := trivial
theorem main.tw11728771520666845194 : True := trivial
theorem main.tw17275675667316583603 : True := trivial
theorem main.tw16251939892948500945 : True := trivial
theorem main.tw358491910552652209 : True := trivial
theorem main.tw16008252555379753968 : True := trivial
theorem main.tw12142246244290616864 : True := trivial
theorem main.tw4535713693919183956 : True := trivial
theorem main.tw7742616358663508648 : True := trivial
theorem main.tw15136431859952498927 : True := trivial
theorem main.tw1092785777240315536 : True := trivial
theorem main.tw13724616953566380437 : True := trivial
theorem main.tw3404965551341049163 : True := trivial
theorem main.tw588950844065142505 : True := trivial
theorem main.tw10665089971535097683 : True := trivial
theorem main.tw8996212591421123362 : True := trivial
theorem main.tw7554534293552944094 : True := trivial
theorem main.tw12574995316784493246 : True := trivial
theorem main.tw12675357926760492328 : True := trivial
theorem main.tw8828626079734051433 : True := trivial
theorem main.tw7682646441695089857 : True := trivial
theorem main.tw4900431672193113347 : True := trivial
theorem main.tw1531012537173254328 : True := trivial
theorem main.tw5502569546826302122 : True := trivial
theorem main.tw2923326968966308885 : True := trivial
theorem main.tw3623273976976474896 : True := trivial
theorem main.tw4026173324967665524 : True := trivial
theorem main.tw11403970630465759474 : True := trivial
theorem main.tw18438843042052247593 : True := trivial
theorem main.tw4741876487499883015 : True := trivial
theorem main.tw7521444476212097132 : True := trivial
theorem main.tw11735365812421460867 : True := trivial
theorem main.tw17317908413340880955 : True := trivial
theorem main.tw3532412968194664532 : True := trivial
theorem main.tw13591255225166038476 : True := trivial
theorem main.tw7000664437366286474 : True := trivial
theorem main.tw6657087868060814 : True := trivial
theorem main.tw11571600101251958140 : True := trivial
theorem main.tw8467378866343419333 : True := trivial
theorem main.tw3464005467892915075 : True := trivial
theorem main.tw3724484323120607773 : True := trivial
theorem main.tw9470667924834194258 : True := trivial
theorem main.tw9432497158254318119 : True := trivial
theorem main.tw15079240505294077160 : True := trivial
theorem main.tw4502447428920916452 : True := trivial
theorem main.tw4189750870438640210 : True := trivial
theorem main.tw13777938177461255882 : True := trivial
theorem main.tw4926259647451002352 : True := trivial
theorem main.tw11019096307435631222 : True := trivial
theorem main.tw7686379347491079107 : True := trivial
theorem main.tw14636892021812066514 : True := trivial
theorem main.tw6021853773325730911 : True := trivial
theorem main.tw16563369274607658579 : True := trivial
theorem main.tw8952462522180670554 : True := trivial
theorem main.tw5363903885879670357 : True := trivial
theorem main.tw16049902774474827687 : True := trivial
theorem main.tw18284262389922463811 : True := trivial
theorem main.tw302440914744352476 : True := trivial
theorem main.tw9903775340124721222 : True := trivial
theorem main.tw1415428593365352553 : True := trivial
theorem main.tw12346658559823942425 : True := trivial
theorem main.tw10177057350305019805 : True := trivial
theorem main.tw1318968915056948652 : True := trivial
theorem main.tw6674386428176565332 : True := trivial
theorem main.tw14390754486103292620 : True := trivial
theorem main.tw18418235949754561950 : True := trivial
theorem main.tw13227784636351994527 : True := trivial
theorem main.tw7639352225515584698 : True := trivial
theorem main.tw8484041278411425421 : True := trivial
theorem main.tw8491447545884216425 : True := trivial
theorem main.tw169701792822576828 : True := trivial
theorem main.tw1453356044741674121 : True := trivial
theorem main.tw3343439749351644125 : True := trivial
theorem main.tw6696893160125735727 : True := trivial
theorem main.tw9376575566392132001 : True := trivial
theorem main.tw2195194259037543316 : True := trivial
theorem main.tw17201416709059790184 : True := trivial
theorem main.tw10159738436595150677 : True := trivial
theorem main.tw16193401482309157537 : True := trivial
theorem main.tw2524017781993486291 : True := trivial
theorem main.tw12748397558918655664 : True := trivial
theorem main.tw15087427406127887449 : True := trivial
theorem main.tw10625486282989778954 : True := trivial
theorem main.tw13293747886898857621 : True := trivial
theorem main.tw6880717277089553138 : True := trivial
theorem main.tw13270728482189477470 : True := trivial
theorem main.tw5456330333991267789 : True := trivial
theorem main.tw8343601364905591985 : True := trivial
theorem main.tw962193829226610041 : True := trivial
theorem main.tw6246033870358800893 : True := trivial
theorem main.tw9508770018378322450 : True := trivial
theorem main.tw14752455103156370868 : True := trivial
theorem main.tw10283388844273144081 : True := trivial
theorem main.tw9811667543942387436 : True := trivial
theorem main.tw7139307881021679148 : True := trivial
theorem main.tw9190990891756207365 : True := trivial
theorem main.tw6921685317656363116 : True := trivial
theorem main.tw3011317523530652173 : True := trivial
theorem main.tw6341409668436394099 : True := trivial
theorem main.tw8394416109485655870 : True := trivial
theorem main.tw5571399437266216444 : True := trivial
theorem main.tw6072795283324543088 : True := trivial
theorem main.tw14327529596952217943 : True := trivial
theorem main.tw4044813752607125481 : True := trivial
theorem main.tw12057704586751987240 : True := trivial
theorem main.tw10463206416058312583 : True := trivial
theorem main.tw12755441557018050348 : True := trivial
theorem main.tw15060185592220127646 : True := trivial
theorem main.tw9805168224760091760 : True := trivial
theorem main.tw5378808338967829844 : True := trivial
theorem main.tw15109750227778091905 : True := trivial
theorem main.tw1118068078248606362 : True := trivial
theorem main.tw10698853842336122943 : True := trivial
theorem main.tw11086099901593105684 : True := trivial
theorem main.tw16723884430069596700 : True := trivial
theorem main.tw17737603089517620647 : True := trivial
theorem main.tw7591743695986301205 : True := trivial
theorem main.tw6234934611588079204 : True := trivial
theorem main.tw4219356904048308301 : True := trivial
theorem main.tw6969975859711568873 : True := trivial
theorem main.tw10864377008497418100 : True := trivial
theorem main.tw11185601284095360573 : True := trivial
theorem main.tw9381277316556691805 : True := trivial
theorem main.tw11390293659975261258 : True := trivial
theorem main.tw6437645805973890128 : True := trivial
theorem main.tw4210618832060959676 : True := trivial
theorem main.tw11410963132546700228 : True := trivial
theorem main.tw11181722664286889309 : True := trivial
theorem main.tw3203809635103463919 : True := trivial
theorem main.tw6788695710022549768 : True := trivial
theorem main.tw8312829660672013939 : True := trivial
theorem main.tw13532707612510029741 : True := trivial
theorem main.tw8344883900605922461 : True := trivial
theorem main.tw11403851563620829512 : True := trivial
theorem main.tw15017983477296125989 : True := trivial
theorem main.tw16959884160788844718 : True := trivial
theorem main.tw12332102779922042578 : True := trivial
theorem main.tw2341703837736514645 : True := trivial
theorem main.tw645136716886899192 : True := trivial
theorem main.tw14338414707916329796 : True := trivial
theorem main.tw7846812961960373227 : True := trivial
theorem main.tw4237967493491133255 : True := trivial
theorem main.tw17749094844149355310 : True := trivial
theorem main.tw3635900802997115186 : True := trivial
theorem main.tw18302614123550932261 : True := trivial
theorem main.tw18315214858253571532 : True := trivial
theorem main.tw4838787530573997063 : True := trivial
theorem main.tw1355085073191494161 : True := trivial
theorem main.tw3731879374237491455 : True := trivial
theorem main.tw11487549891475536569 : True := trivial
theorem main.tw3262662943086543052 : True := trivial
theorem main.tw8557395850702784662 : True := trivial
theorem main.tw5038764109367625727 : True := trivial
theorem main.tw6542085627976250192 : True := trivial
theorem main.tw2278972029675796859 : True := trivial
theorem main.tw10739967774149034379 : True := trivial
theorem main.tw11729630521733628537 : True := trivial
theorem main.tw6541472054586571296 : True := trivial
theorem main.tw7436448052282571913 : True := trivial
theorem main.tw7238065321881607702 : True := trivial
theorem main.tw6632538468102435922 : True := trivial
theorem main.tw18385570937342765463 : True := trivial
theorem main.tw432790634136133436 : True := trivial
theorem main.tw15244097889725654702 : True := trivial
theorem main.tw3546150205236023746 : True := trivial
theorem main.tw6544430855012709152 : True := trivial
theorem main.tw15580989882048331800 : True := trivial
theorem main.tw1241764111160808401 : True := trivial
theorem main.tw13227692790652741651 : True := trivial
theorem main.tw6639522245352263942 : True := trivial
theorem main.tw8220997788571121255 : True := trivial
theorem main.tw12255313618399501761 : True := trivial
theorem main.tw5630581657593164606 : True := trivial
theorem main.tw4038153913678941442 : True := trivial
theorem main.tw207771821327280017 : True := trivial
theorem main.tw17232878180008095221 : True := trivial
theorem main.tw5160751907100791332 : True := trivial
theorem main.tw10821422270917381399 : True := trivial
theorem main.tw10452441009100146310 : True := trivial
theorem main.tw6203846247750671552 : True := trivial
theorem main.tw8989776476301544223 : True := trivial
theorem main.tw7293704977770490947 : True := trivial
theorem main.tw4244067443239231564 : True := trivial
theorem main.tw4977165927707633593 : True := trivial
theorem main.tw12077450504624328385 : True := trivial
theorem main.tw2433702464844828792 : True := trivial
theorem main.tw8006537069960932158 : True := trivial
theorem main.tw6862268138105152660 : True := trivial
theorem main.tw9608646114965807792 : True := trivial
theorem main.tw10665469846841522134 : True := trivial
theorem main.tw2542808073141276813 : True := trivial
theorem main.tw16320729459185622934 : True := trivial
theorem main.tw3814186520784112166 : True := trivial
theorem main.tw3459380146013217038 : True := trivial
theorem main.tw8809968196449919288 : True := trivial
theorem main.tw480701840831765632 : True := trivial
theorem main.tw6582852498587848125 : True := trivial
theorem main.tw1150287232629052791 : True := trivial
theorem main.tw2428412748925179849 : True := trivial
theorem main.tw8060562821785662972 : True := trivial
theorem main.tw16765925921980633802 : True := trivial
theorem main.tw8079908401900000222 : True := trivial
theorem main.tw12942913107403878096 : True := trivial
theorem main.tw18349286408798932565 : True := trivial
theorem main.tw7070123817558143148 : True := trivial
theorem main.tw14218914174604095658 : True := trivial
theorem main.tw5797031442667253490 : True := trivial
theorem main.tw8883465813499100731 : True := trivial
theorem main.tw14893090268090260817 : True := trivial
theorem main.tw11104520224017661738 : True := trivial
theorem main.tw14806125269305119590 : True := trivial
theorem main.tw17974016328880235120 : True := trivial
theorem main.tw18317609476662902477 : True := trivial
theorem main.tw11213863890663495067 : True := trivial
theorem main.tw16153842264607907944 : True := trivial
theorem main.tw6087835443962453003 : True := trivial
theorem main.tw5622414494828026348 : True := trivial
theorem main.tw14554314840745968623 : True := trivial
theorem main.tw1615045767204293396 : True := trivial
theorem main.tw11488200684768131711 : True := trivial
theorem main.tw1548279923187021627 : True := trivial
theorem main.tw3342365933539840098 : True := trivial
theorem main.tw4682653417627717812 : True := trivial
theorem main.tw3394367416137920725 : True := trivial
theorem main.tw7761410557224570781 : True := trivial
theorem main.tw15643365686152983790 : True := trivial
theorem main.tw10825838108423173272 : True := trivial
theorem main.tw1519927702969063271 : True := trivial
theorem main.tw11194412462434418553 : True := trivial
theorem main.tw6564366825971848878 : True := trivial
theorem main.tw7153082081811710619 : True := trivial
theorem main.tw2921958311620399285 : True := trivial
theorem main.tw2287757881348798766 : True := trivial
theorem main.tw3234112476842188716 : True := trivial
theorem main.tw12014785543569010823 : True := trivial
theorem main.tw4403422008829781079 : True := trivial
theorem main.tw2190695567426971638 : True := trivial
theorem main.tw3476555943912930036 : True := trivial
theorem main.tw8624498521744291746 : True := trivial
theorem main.tw7358942708152152329 : True := trivial
theorem main.tw10367043833027533253 : True := trivial
theorem main.tw18134284020713443437 : True := trivial
theorem main.tw18442785490491869365 : True := trivial
theorem main.tw9668287257029764190 : True := trivial
theorem main.tw1714950047550659301 : True := trivial
theorem main.tw7691172733374981047 : True := trivial
theorem main.tw372505627349444580 : True := trivial
theorem main.tw7697325545964645800 : True := trivial
theorem main.tw17290568124846718506 : True := trivial
theorem main.tw12205347405646519318 : True := trivial
theorem main.tw8834365191522931223 : True := trivial
theorem main.tw12665294780044627973 : True := trivial
theorem main.tw10391951854915411234 : True := trivial
theorem main.tw6183352029847204284 : True := trivial
theorem main.tw14788915703135433725 : True := trivial
theorem main.tw3627144658338631552 : True := trivial
theorem main.tw8707812797481193996 : True := trivial
theorem main.tw17402982504261768225 : True := trivial
theorem main.tw1157997071576566072 : True := trivial
theorem main.tw14639212616227390028 : True := trivial
theorem main.tw14009396871252706886 : True := trivial
theorem main.tw6162249291895867263 : True := trivial
theorem main.tw4957201559515094939 : True := trivial
theorem main.tw14061640607465278742 : True := trivial
theorem main.tw2821470743931037460 : True := trivial
theorem main.tw3881243767933311072 : True := trivial
theorem main.tw18314829044154829275 : True := trivial
theorem main.tw6935676897619631941 : True := trivial
theorem main.tw15768048840197415361 : True := trivial
theorem main.tw6053611964639427726 : True := trivial
theorem main.tw17091655785135471103 : True := trivial
theorem main.tw12222963475772708484 : True := trivial
theorem main.tw14364048958407549093 : True := trivial
theorem main.tw12530995576970511020 : True := trivial
theorem main.tw7514964652732493775 : True := trivial
theorem main.tw12692632004510240207 : True := trivial
theorem main.tw785246043732427063 : True := trivial
theorem main.tw17445186720391901401 : True := trivial
theorem main.tw16868477917899988195 : True := trivial
theorem main.tw45874523831157525 : True := trivial
theorem main.tw6545385358150927430 : True := trivial
theorem main.tw10554957952762445534 : True := trivial
theorem main.tw2921621734765799159 : True := trivial
theorem main.tw2225956059507018244 : True := trivial
theorem main.tw16396084126727719574 : True := trivial
theorem main.tw3299218664060906527 : True := trivial
theorem main.tw14637806741061077295 : True := trivial
theorem main.tw8136110150932099621 : True := trivial
theorem main.tw10843882697959080548 : True := trivial
theorem main.tw15642941266545998023 : True := trivial
theorem main.tw12304082900475741265 : True := trivial
theorem main.tw16411370214107742406 : True := trivial
theorem main.tw10543740743216835930 : True := trivial
theorem main.tw8663697691656813868 : True := trivial
theorem main.tw6511744376749373798 : True := trivial
theorem main.tw17725498274588495791 : True := trivial
theorem main.tw474381771622712015 : True := trivial
theorem main.tw10063615490667107986 : True := trivial
theorem main.tw5303952258864922383 : True := trivial
theorem main.tw15467891735981029475 : True := trivial
theorem main.tw5460091804258272057 : True := trivial
theorem main.tw9253799994812790149 : True := trivial
theorem main.tw1512716992041575436 : True := trivial
theorem main.tw4370134204219402791 : True := trivial
theorem main.tw1570785757846642287 : True := trivial
theorem main.tw10210597933619972095 : True := trivial
theorem main.tw7487416344156704005 : True := trivial
theorem main.tw13299719707990932498 : True := trivial
theorem main.tw5942767615974559732 : True := trivial
theorem main.tw15957597259013190341 : True := trivial
theorem main.tw2906824675625879941 : True := trivial
theorem main.tw832900586485598795 : True := trivial
theorem main.tw8708525158762292434 : True := trivial
theorem main.tw12915833801598196605 : True := trivial
theorem main.tw2287093442842179507 : True := trivial
theorem main.tw12867379429370454646 : True := trivial
theorem main.tw17699438841360665129 : True := trivial
theorem main.tw2058021452347087232 : True := trivial
theorem main.tw2815835355862285053 : True := trivial
theorem main.tw18392154025008590481 : True := trivial
theorem main.tw1050151122526681168 : True := trivial
theorem main.tw3994622017586750766 : True := trivial
theorem main.tw17118054049896295152 : True := trivial
theorem main.tw15131278010643852716 : True := trivial
theorem main.tw7173623326730630234 : True := trivial
theorem main.tw15342904991969174519 : True := trivial
theorem main.tw15984706205718930553 : True := trivial
theorem main.tw13642826006792871662 : True := trivial
theorem main.tw10487773566786069416 : True := trivial
theorem main.tw2900998541784483753 : True := trivial
theorem main.tw4681395471914393968 : True := trivial
theorem main.tw2399826469436781019 : True := trivial
theorem main.tw9240610997974623812 : True := trivial
theorem main.tw4088224383575840552 : True := trivial
theorem main.tw12900284412222446716 : True := trivial
theorem main.tw9808303207383738048 : True := trivial
theorem main.tw6596593509180878263 : True := trivial
theorem main.tw2689587448523674677 : True := trivial
theorem main.tw10092017014551392330 : True := trivial
theorem main.tw14161005256144132680 : True := trivial
theorem main.tw9682133043923132273 : True := trivial
theorem main.tw7883848961242879871 : True := trivial
theorem main.tw4990475226369331113 : True := trivial
theorem main.tw8068379698969174043 : True := trivial
theorem main.tw3746060679510389192 : True := trivial
theorem main.tw4047586217144654443 : True := trivial
theorem main.tw470481871638761223 : True := trivial
theorem main.tw5781596087445459943 : True := trivial
theorem main.tw17051649370788187498 : True := trivial
theorem main.tw8496349624203035976 : True := trivial
theorem main.tw9305260289983281074 : True := trivial
theorem main.tw8402242094647718915 : True := trivial
theorem main.tw17298271098590275757 : True := trivial
theorem main.tw11041858737867550897 : True := trivial
theorem main.tw16755849432154420019 : True := trivial
theorem main.tw66260789543402106 : True := trivial
theorem main.tw10663580350406149668 : True := trivial
theorem main.tw14662554035588321541 : True := trivial
theorem main.tw11933201153402537488 : True := trivial
theorem main.tw10825349956297869744 : True := trivial
theorem main.tw1179421589518002546 : True := trivial
theorem main.tw10101900104965146230 : True := trivial
theorem main.tw10044588960856096794 : True := trivial
theorem main.tw5649967823195072380 : True := trivial
theorem main.tw16033097090804400913 : True := trivial
theorem main.tw18446094637698972617 : True := trivial
theorem main.tw15485851114877660061 : True := trivial
theorem main.tw892681787802806017 : True := trivial
theorem main.tw8249873531624179374 : True := trivial
theorem main.tw15686988457579986713 : True := trivial
theorem main.tw6283666216762299864 : True := trivial
theorem main.tw5758621741635225592 : True := trivial
theorem main.tw14097447854668400296 : True := trivial
theorem main.tw2238316416991798583 : True := trivial
theorem main.tw15554039934745177238 : True := trivial
theorem main.tw4126091431370883743 : True := trivial
theorem main.tw4744351261201773133 : True := trivial
theorem main.tw2012372014189735793 : True := trivial
theorem main.tw17767330081159143506 : True := trivial
theorem main.tw8427638858588021438 : True := trivial
theorem main.tw4458048076830672230 : True := trivial
theorem main.tw2279047495162143687 : True := trivial
theorem main.tw9291868230625655718 : True := trivial
theorem main.tw7108953243070827183 : True := trivial
theorem main.tw10548918766592180815 : True := trivial
theorem main.tw5831584030425509755 : True := trivial
theorem main.tw5396361742852586263 : True := trivial
theorem main.tw2190394874255019008 : True := trivial
theorem main.tw2232896842113620000 : True := trivial
theorem main.tw6719682386910338176 : True := trivial
theorem main.tw8582968915767443712 : True := trivial
theorem main.tw903710072131421504 : True := trivial
theorem main.tw17899584213746228640 : True := trivial
theorem main.tw14385737353155494336 : True := trivial
theorem main.tw2747705583929438688 : True := trivial
theorem main.tw15830854579171509824 : True := trivial
theorem main.tw11324835942237010656 : True := trivial
theorem main.tw14005654212667902688 : True := trivial
theorem main.tw7055846236352636832 : True := trivial
theorem main.tw3345246211188809632 : True := trivial
theorem main.tw302691153249300577 : True := trivial
theorem main.tw3662838308386620609 : True := trivial
theorem main.tw14460151311770585377 : True := trivial
theorem main.tw1857051183310196033 : True := trivial
theorem main.tw4553915642725781889 : True := trivial
theorem main.tw5105964889138650625 : True := trivial
theorem main.tw14997399820851412737 : True := trivial
theorem main.tw3516258698461353921 : True := trivial
theorem main.tw18408310097172967682 : True := trivial
theorem main.tw16660203087216935202 : True := trivial
theorem main.tw9483010483732582722 : True := trivial
theorem main.tw18230941144520250786 : True := trivial
theorem main.tw6349755290172993282 : True := trivial
theorem main.tw7567333890833837986 : True := trivial
theorem main.tw3681521410627334114 : True := trivial
theorem main.tw3777955811712406563 : True := trivial
theorem main.tw11422771146885862435 : True := trivial
theorem main.tw14580166062960383011 : True := trivial
theorem main.tw13022849110594722947 : True := trivial
theorem main.tw11712753394631736515 : True := trivial
theorem main.tw10261103255916454339 : True := trivial
theorem main.tw3245756102848063107 : True := trivial
theorem main.tw8441154110995344131 : True := trivial
theorem main.tw12655278490936585284 : True := trivial
theorem main.tw17761276522451878788 : True := trivial
theorem main.tw9890969818722798468 : True := trivial
theorem main.tw17612956153755097157 : True := trivial
theorem main.tw8254744260784149733 : True := trivial
theorem main.tw15494502956327253381 : True := trivial
theorem main.tw17975995719377724133 : True := trivial
theorem main.tw15234656611634831205 : True := trivial
theorem main.tw4111317327965557701 : True := trivial
theorem main.tw12689497607718718534 : True := trivial
theorem main.tw17184964938291130022 : True := trivial
theorem main.tw11628411952876325606 : True := trivial
theorem main.tw10157978127129494342 : True := trivial
theorem main.tw11341400865133290406 : True := trivial
theorem main.tw11110041952072484935 : True := trivial
theorem main.tw11836995389068667431 : True := trivial
theorem main.tw4388368935277552231 : True := trivial
theorem main.tw6891455093770959495 : True := trivial
theorem main.tw13410067442275077767 : True := trivial
theorem main.tw9586095176572763015 : True := trivial
theorem main.tw4928691722163596040 : True := trivial
theorem main.tw3597208934670938632 : True := trivial
theorem main.tw6255494312295923913 : True := trivial
theorem main.tw6512678878950619465 : True := trivial
theorem main.tw15230911620902099305 : True := trivial
theorem main.tw3908222138426219049 : True := trivial
theorem main.tw14979169884303000105 : True := trivial
theorem main.tw5385220038225531657 : True := trivial
theorem main.tw4144839024962420521 : True := trivial
theorem main.tw14586086717489907497 : True := trivial
theorem main.tw1016647600950801802 : True := trivial
theorem main.tw18202811656410308298 : True := trivial
theorem main.tw16576732681931436778 : True := trivial
theorem main.tw11556547117343562602 : True := trivial
theorem main.tw12562957459026159498 : True := trivial
theorem main.tw13249799822031933386 : True := trivial
theorem main.tw13185793444283821067 : True := trivial
theorem main.tw7970033980059667563 : True := trivial
theorem main.tw4737574153381178571 : True := trivial
theorem main.tw7716350667743974667 : True := trivial
theorem main.tw408157747494915499 : True := trivial
theorem main.tw6622867661748816395 : True := trivial
theorem main.tw3168289689859669547 : True := trivial
theorem main.tw5388137304119354987 : True := trivial
theorem main.tw1179642782283542155 : True := trivial
theorem main.tw11331002440881316523 : True := trivial
theorem main.tw11414141160425211659 : True := trivial
theorem main.tw14103746445429436203 : True := trivial
theorem main.tw4238509073279090539 : True := trivial
theorem main.tw8532320990607473644 : True := trivial
theorem main.tw17767106353777129996 : True := trivial
theorem main.tw14208222897734879116 : True := trivial
theorem main.tw17249987701179418093 : True := trivial
theorem main.tw1827446089164909325 : True := trivial
theorem main.tw3342467977924493197 : True := trivial
theorem main.tw5370114635483105165 : True := trivial
theorem main.tw17373603118509489101 : True := trivial
theorem main.tw11850850453456415886 : True := trivial
theorem main.tw11868850466148848814 : True := trivial
theorem main.tw13635129878441299406 : True := trivial
theorem main.tw6199023002209673038 : True := trivial
theorem main.tw1361775442938080142 : True := trivial
theorem main.tw6030877020844510158 : True := trivial
theorem main.tw3424802007827366862 : True := trivial
theorem main.tw298751712110144591 : True := trivial
theorem main.tw6480687809232563279 : True := trivial
theorem main.tw17157053052730298639 : True := trivial
theorem main.tw11444202928732768047 : True := trivial
theorem main.tw2466917415961867119 : True := trivial
theorem main.tw8068496957233503087 : True := trivial
theorem main.tw5943860239356026831 : True := trivial
theorem main.tw15139090344661735728 : True := trivial
theorem main.tw15536900936745235856 : True := trivial
theorem main.tw18050138297448551856 : True := trivial
theorem main.tw8490177021903193680 : True := trivial
theorem main.tw3401733333342883664 : True := trivial
theorem main.tw9967662845319148625 : True := trivial
theorem main.tw15952473413880798385 : True := trivial
theorem main.tw3320560703410174321 : True := trivial
theorem main.tw1367144153088436689 : True := trivial
theorem main.tw10864969795450727057 : True := trivial
theorem main.tw11679654878074982642 : True := trivial
theorem main.tw5714995530573490418 : True := trivial
theorem main.tw16263083333793671666 : True := trivial
theorem main.tw446418682317919762 : True := trivial
theorem main.tw17068694925457312338 : True := trivial
theorem main.tw11379386553615706259 : True := trivial
theorem main.tw5217968004623879635 : True := trivial
theorem main.tw15424222561506256403 : True := trivial
theorem main.tw10878088491252053587 : True := trivial
theorem main.tw10407045893662828179 : True := trivial
theorem main.tw10371516956632566515 : True := trivial
theorem main.tw6556608954545778515 : True := trivial
theorem main.tw17034031166644452307 : True := trivial
theorem main.tw14171535433141937940 : True := trivial
theorem main.tw15312169890965638356 : True := trivial
theorem main.tw2852516320013860820 : True := trivial
theorem main.tw756716276803613909 : True := trivial
theorem main.tw7185830615580890517 : True := trivial
theorem main.tw1157768839227840917 : True := trivial
theorem main.tw800437593372696694 : True := trivial
theorem main.tw7821361960523482326 : True := trivial
theorem main.tw14851670869834829238 : True := trivial
theorem main.tw14733273896666730230 : True := trivial
theorem main.tw17908022969578328854 : True := trivial
theorem main.tw15915186452378013654 : True := trivial
theorem main.tw10787066837457580471 : True := trivial
theorem main.tw15524705166548879127 : True := trivial
theorem main.tw2349099708211130167 : True := trivial
theorem main.tw8511156055842809655 : True := trivial
theorem main.tw5292762824988223479 : True := trivial
theorem main.tw8879469971044859000 : True := trivial
theorem main.tw16957565912214101304 : True := trivial
theorem main.tw10945299631177505112 : True := trivial
theorem main.tw12415649528226297784 : True := trivial
theorem main.tw14490903536902023096 : True := trivial
theorem main.tw13056921716564961401 : True := trivial
theorem main.tw5405157115260775737 : True := trivial
theorem main.tw4090285283062529433 : True := trivial
theorem main.tw4311388006073623961 : True := trivial
theorem main.tw1026719569747031513 : True := trivial
theorem main.tw9589560782858054329 : True := trivial
theorem main.tw2947961480518987769 : True := trivial
theorem main.tw4906139425530541146 : True := trivial
theorem main.tw12563093612128723482 : True := trivial
theorem main.tw132779237624697114 : True := trivial
theorem main.tw5383078146927465499 : True := trivial
theorem main.tw12592865619883635771 : True := trivial
theorem main.tw9969309209821462875 : True := trivial
theorem main.tw12912277302858178171 : True := trivial
theorem main.tw13162026239767708764 : True := trivial
theorem main.tw5474747267850147452 : True := trivial
theorem main.tw4294745464693386972 : True := trivial
theorem main.tw7261369059470093244 : True := trivial
theorem main.tw13709105130853382173 : True := trivial
theorem main.tw4339315259032615325 : True := trivial
theorem main.tw6029383398821697949 : True := trivial
theorem main.tw11402904334715068861 : True := trivial
theorem main.tw11646968256301830589 : True := trivial
theorem main.tw15578701113608046077 : True := trivial
theorem main.tw3680011622973772445 : True := trivial
theorem main.tw12564512737889076957 : True := trivial
theorem main.tw16224350459392578525 : True := trivial
theorem main.tw8851035615930858782 : True := trivial
theorem main.tw14716159918065188382 : True := trivial
theorem main.tw9569526985056726686 : True := trivial
theorem main.tw9126803496052415262 : True := trivial
theorem main.tw13209396127517332254 : True := trivial
theorem main.tw11688021927459214367 : True := trivial
theorem main.tw18066371867194534079 : True := trivial
theorem main.tw14498801324458109215 : True := trivial
theorem main.tw16980346899746456191 : True := trivial
theorem main.tw13704449622233289471 : True := trivial
theorem main.tw15969247831028003615 : True := trivial
theorem main.tw17014259036343071647 : True := trivial
set_option maxHeartbeats 0 in
theorem main : PySem.Challenge.rw_ki0004_01.Holds := by
  w_on
  o_law
  o_head (kHook K addrs (fun _ => by kernel_rfl))
  (case hw => w_witness2)
  intro w s₀ s₁ mg mb G Y fa o pm cd doc dV kV ho hd hcd hD hmg hg args vals as hpre hlay hrd hwl hlo
  have KX := kIn_of Y
  k_behind G ho hd hcd hD hmg hpre hlay hrd hwl hlo cd
  rename Top _ _ _ _ _ _ => hTop
  rename Below _ _ _ _ => hB
  rename IntsAre _ _ => hI
  rename Heap.IsList _ _ _ => hL
  rename Fr _ _ _ _ => hF
  rename News _ _ _ _ => hN
  rename _ = Data.cell _ => hcell
  rename ¬ _ < _ => hlen
  have hlen' : _ ≤ 63 := Nat.le_of_not_lt (fun q => hlen (Int.ofNat_lt.mpr q))
  refine wpAny_mono ((law_spec (n := 0) (fa := fa) (Q := fun fl _ _ => fl = .ret (.bool true)) (E := fun _ _ => False) ⟨KX, ⟨_, _, _, _, topRead_of hTop⟩, ⟨_, hB⟩, rfl, rfl, rfl, ?_, ?_, rfl, KX, ⟨_, _, _, _, topRead_of hTop⟩⟩ hL hI hlen' rfl hcell fun _ _ => rfl).run _ hF hN) (fun fl s' q => ?_) fun e s' q => ?_
  · exact Nat.le_of_ble_eq_true rfl
  · exact Nat.le_of_ble_eq_true rfl
  · obtain ⟨h', t', m', fp', rfl, F', N', rfl⟩ := q
    refine goodW_bool F' hg (fun _ => rfl) ?_
    wrow_post
  · obtain ⟨_, _, _, q⟩ := q
    exact q.elim
end Mine
end
theorem PySem.Challenge.cw_ki0004_01_holds : PySem.Challenge.rw_ki0004_01.Holds :=
  Mine.main
