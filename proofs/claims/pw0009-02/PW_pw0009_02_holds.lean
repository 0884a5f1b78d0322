import PyProof.Rows.All
import KE.KNestM
import Wide.All
import OpenK.AllK
import Wide.FinOn
import KE.KSliceW
import KE.KRevSl
import KE.KDictOf
import KE.KDictLaws
import KE.KDictAnyGet
import KE.KIntText
import PyProof.Rows.MinMaxN
import PyProof.Rows.RuleB_small
import PyProof.Rows.RuleB_floordiv
import PyProof.Rows.IntRules
import PyProof.CallStr
import PyProof.RangeFor
import PyProof.ListMulRoad
import KE.KSortTup
import KE.KEqDat
import KE.KItemsList
import PyProof.ReprRoads
import PyProof.ReprBulk
import PyProof.Rows.StrCountLaw
import PyProof.Draws
import PyProof.ZipIter
import Lean
import PySem.Challenge.RW_pw0009_02
open PySem PySem.W PyProof.Rows PySem.Challenge
set_option Elab.async false
set_option maxRecDepth 100000
set_option linter.all false
set_option maxHeartbeats 4000000
set_option compiler.extract_closed false
set_option tactic.hygienic false
namespace Mine
abbrev VP := Value → Heap → Prop

noncomputable def topAt (p : Program) (i : Nat) : Stmt := p.main.body.getD i (.Pass default)
noncomputable def nthOf (b : List Stmt) (i : Nat) : Stmt := b.getD i (.Pass default)
noncomputable def funD {α : Type} (d : α) (k : Arguments → List Stmt → Scope → Pos → α) (s : Stmt) : α := if h : s.ctorIdx = 0 then Stmt.FunctionDef.elim (motive_2 := fun u_ => α) s h fun u_ a b u_ u_ u_ c u_ u_ p => k a b c p else d
noncomputable def bodyD (s : Stmt) : List Stmt := funD (if h : s.ctorIdx = 2 then Stmt.ClassDef.elim (motive_2 := fun u_ => List Stmt) s h fun u_ u_ u_ b u_ u_ u_ u_ u_ u_ u_ => b else []) (fun u_ b u_ u_ => b) s
noncomputable def paramsD (s : Stmt) : Arguments := funD default (fun a u_ u_ u_ => a) s
noncomputable def scopeD (s : Stmt) : Scope := funD default (fun u_ u_ c u_ => c) s
noncomputable def hd.o2 (P : Params) : Obj := .mk .none none (.dict #[] 0) #[]
noncomputable def hd.o3 (P : Params) : Obj := .mk (.type "dict") none (.dict #[(.mk (PyData.keyHash P "__name__") (.str "__name__" 165) (.str "law_pw0009_02" 354)),(.mk (PyData.keyHash P "__doc__") (.str "__doc__" 166) .none),(.mk (PyData.keyHash P "__package__") (.str "__package__" 167) .none),(.mk (PyData.keyHash P "__loader__") (.str "__loader__" 168) (.builtin "__main__.__loader__#opaque")),(.mk (PyData.keyHash P "__spec__") (.str "__spec__" 169) .none),(.mk (PyData.keyHash P "__annotations__") (.str "__annotations__" 170) (.ref 6)),(.mk (PyData.keyHash P "__builtins__") (.str "__builtins__" 171) (.ref 4)),(.mk (PyData.keyHash P "__file__") (.str "__file__" 173) (.str "/claim/cut.py" 172)),(.mk (PyData.keyHash P "__cached__") (.str "__cached__" 174) .none),(.mk (PyData.keyHash P "_wall") (.str "_wall" 193) (.ref 21)),(.mk (PyData.keyHash P "_netrclex") (.str "_netrclex" 253) (.ref 59)),(.mk (PyData.keyHash P "sep") (.str "sep" 255) (.str "/" 254)),(.mk (PyData.keyHash P "_kind") (.str "_kind" 266) (.ref 70)),(.mk (PyData.keyHash P "_c_path") (.str "_c_path" 279) (.ref 77)),(.mk (PyData.keyHash P "_splitroot") (.str "_splitroot" 288) (.ref 84)),(.mk (PyData.keyHash P "_normpath") (.str "_normpath" 303) (.ref 91)),(.mk (PyData.keyHash P "normpath") (.str "normpath" 311) (.ref 98)),(.mk (PyData.keyHash P "_Ignore") (.str "_Ignore" 353) (.ref 121)),(.mk (PyData.keyHash P "_law_lexer") (.str "_law_lexer" 365) (.ref 132)),(.mk (PyData.keyHash P "_law_piece") (.str "_law_piece" 371) (.ref 137)),(.mk (PyData.keyHash P "_law_name") (.str "_law_name" 377) (.ref 142)),(.mk (PyData.keyHash P "_law_reader") (.str "_law_reader" 383) (.ref 147)),(.mk (PyData.keyHash P "_law_out") (.str "_law_out" 391) (.ref 154)),(.mk (PyData.keyHash P "_law_behind") (.str "_law_behind" 397) (.ref 159)),(.mk (PyData.keyHash P "_law_kept") (.str "_law_kept" 411) (.ref 166)),(.mk (PyData.keyHash P "_law_read_by") (.str "_law_read_by" 417) (.ref 171)),(.mk (PyData.keyHash P "_law_first") (.str "_law_first" 431) (.ref 178)),(.mk (PyData.keyHash P "_law_rules") (.str "_law_rules" 437) (.ref 183)),(.mk (PyData.keyHash P "law") (.str "law" 443) (.ref 188))] 29) #[]
noncomputable def hd.o15 (P : Params) : Obj := .mk (.type "tuple") none (.seq #[] 0) #[]
noncomputable def hd.o17 (P : Params) : Obj := .mk (.type "tuple") none (.seq #[(.str "k" 190)] 0) #[]
noncomputable def hd.o18 (P : Params) : Obj := .mk (.type "tuple") none (.seq #[] 0) #[]
noncomputable def hd.o20 (P : Params) : Obj := .mk (.type "code") none (.fields #[(.str "_wall" 187),(.str "_wall" 188),(.str "/claim/cut.py" 189),(.int 1 0),(.int 1 0),(.int 0 0),(.int 0 0),(.int 3 0),(.ref 15),(.bool true),(.int 181 0),(.ref 16),.none,(.ref 17),(.ref 18),(.ref 19),(.int 191 0),(.int 1 0),(.str "/claim/cut.py" 192)]) #[]
noncomputable def hd.o21 (P : Params) : Obj := .mk (.type "function") none (.func (.mk "_wall" "_wall" (paramsD (topAt pw_pw0009_02 0)) (.stmts (bodyD (topAt pw_pw0009_02 0))) (scopeD (topAt pw_pw0009_02 0)) 3 [] .none .none .none (.str "__main__" 164) none (.ref 20) .none 0)) #[]
noncomputable def hd.o29 (P : Params) : Obj := .mk (.type "tuple") none (.seq #[] 0) #[]
noncomputable def hd.o31 (P : Params) : Obj := .mk (.type "tuple") none (.seq #[(.str "self" 211),(.str "fp" 212)] 0) #[]
noncomputable def hd.o32 (P : Params) : Obj := .mk (.type "tuple") none (.seq #[] 0) #[]
noncomputable def hd.o34 (P : Params) : Obj := .mk (.type "code") none (.fields #[(.str "__init__" 208),(.str "_netrclex.__init__" 209),(.str "/claim/cut.py" 210),(.int 7 0),(.int 2 0),(.int 0 0),(.int 0 0),(.int 3 0),(.ref 29),(.bool true),(.int 181 0),(.ref 30),.none,(.ref 31),(.ref 32),(.ref 33),(.int 213 0),(.int 7 0),(.str "/claim/cut.py" 214)]) #[]
noncomputable def hd.o35 (P : Params) : Obj := .mk (.type "function") none (.func (.mk "__init__" "_netrclex.__init__" (paramsD (nthOf (bodyD (topAt pw_pw0009_02 2)) 0)) (.stmts (bodyD (nthOf (bodyD (topAt pw_pw0009_02 2)) 0))) (scopeD (nthOf (bodyD (topAt pw_pw0009_02 2)) 0)) 3 [] .none .none .none (.str "cpy313.netrc" 194) none (.ref 34) .none 0)) #[]
noncomputable def hd.o36 (P : Params) : Obj := .mk (.type "tuple") none (.seq #[] 0) #[]
noncomputable def hd.o38 (P : Params) : Obj := .mk (.type "tuple") none (.seq #[(.str "self" 219),(.str "ch" 220)] 0) #[]
noncomputable def hd.o39 (P : Params) : Obj := .mk (.type "tuple") none (.seq #[] 0) #[]
noncomputable def hd.o41 (P : Params) : Obj := .mk (.type "code") none (.fields #[(.str "_read_char" 216),(.str "_netrclex._read_char" 217),(.str "/claim/cut.py" 218),(.int 13 0),(.int 1 0),(.int 0 0),(.int 0 0),(.int 3 0),(.ref 36),(.bool true),(.int 181 0),(.ref 37),.none,(.ref 38),(.ref 39),(.ref 40),(.int 221 0),(.int 13 0),(.str "/claim/cut.py" 222)]) #[]
noncomputable def hd.o42 (P : Params) : Obj := .mk (.type "function") none (.func (.mk "_read_char" "_netrclex._read_char" (paramsD (nthOf (bodyD (topAt pw_pw0009_02 2)) 1)) (.stmts (bodyD (nthOf (bodyD (topAt pw_pw0009_02 2)) 1))) (scopeD (nthOf (bodyD (topAt pw_pw0009_02 2)) 1)) 3 [] .none .none .none (.str "cpy313.netrc" 194) none (.ref 41) .none 0)) #[]
noncomputable def hd.o43 (P : Params) : Obj := .mk (.type "tuple") none (.seq #[] 0) #[]
noncomputable def hd.o45 (P : Params) : Obj := .mk (.type "tuple") none (.seq #[(.str "self" 227),(.str "token" 228),(.str "fiter" 229),(.str "ch" 230)] 0) #[]
noncomputable def hd.o46 (P : Params) : Obj := .mk (.type "tuple") none (.seq #[] 0) #[]
noncomputable def hd.o48 (P : Params) : Obj := .mk (.type "code") none (.fields #[(.str "get_token" 224),(.str "_netrclex.get_token" 225),(.str "/claim/cut.py" 226),(.int 19 0),(.int 1 0),(.int 0 0),(.int 0 0),(.int 3 0),(.ref 43),(.bool true),(.int 181 0),(.ref 44),.none,(.ref 45),(.ref 46),(.ref 47),(.int 231 0),(.int 19 0),(.str "/claim/cut.py" 232)]) #[]
noncomputable def hd.o49 (P : Params) : Obj := .mk (.type "function") none (.func (.mk "get_token" "_netrclex.get_token" (paramsD (nthOf (bodyD (topAt pw_pw0009_02 2)) 2)) (.stmts (bodyD (nthOf (bodyD (topAt pw_pw0009_02 2)) 2))) (scopeD (nthOf (bodyD (topAt pw_pw0009_02 2)) 2)) 3 [] .none .none .none (.str "cpy313.netrc" 194) none (.ref 48) .none 0)) #[]
noncomputable def hd.o50 (P : Params) : Obj := .mk (.type "tuple") none (.seq #[] 0) #[]
noncomputable def hd.o52 (P : Params) : Obj := .mk (.type "tuple") none (.seq #[(.str "self" 237),(.str "token" 238)] 0) #[]
noncomputable def hd.o53 (P : Params) : Obj := .mk (.type "tuple") none (.seq #[] 0) #[]
noncomputable def hd.o55 (P : Params) : Obj := .mk (.type "code") none (.fields #[(.str "push_token" 234),(.str "_netrclex.push_token" 235),(.str "/claim/cut.py" 236),(.int 46 0),(.int 2 0),(.int 0 0),(.int 0 0),(.int 3 0),(.ref 50),(.bool true),(.int 181 0),(.ref 51),.none,(.ref 52),(.ref 53),(.ref 54),(.int 239 0),(.int 46 0),(.str "/claim/cut.py" 240)]) #[]
noncomputable def hd.o56 (P : Params) : Obj := .mk (.type "function") none (.func (.mk "push_token" "_netrclex.push_token" (paramsD (nthOf (bodyD (topAt pw_pw0009_02 2)) 3)) (.stmts (bodyD (nthOf (bodyD (topAt pw_pw0009_02 2)) 3))) (scopeD (nthOf (bodyD (topAt pw_pw0009_02 2)) 3)) 3 [] .none .none .none (.str "cpy313.netrc" 194) none (.ref 55) .none 0)) #[]
noncomputable def hd.o57 (P : Params) : Obj := .mk (.type "tuple") none (.seq #[(.str "instream" 242),(.str "lineno" 243),(.str "pushback" 244),(.str "whitespace" 245)] 0) #[]
noncomputable def hd.o58 (P : Params) : Obj := .mk (.type "dict") none (.dict #[(.mk (PyData.keyHash P "__module__") (.str "__module__" 203) (.str "cpy313.netrc" 194)),(.mk (PyData.keyHash P "__firstlineno__") (.str "__firstlineno__" 207) (.int 5 206)),(.mk (PyData.keyHash P "__init__") (.str "__init__" 215) (.ref 35)),(.mk (PyData.keyHash P "_read_char") (.str "_read_char" 223) (.ref 42)),(.mk (PyData.keyHash P "get_token") (.str "get_token" 233) (.ref 49)),(.mk (PyData.keyHash P "push_token") (.str "push_token" 241) (.ref 56)),(.mk (PyData.keyHash P "__static_attributes__") (.str "__static_attributes__" 246) (.ref 57)),(.mk (PyData.keyHash P "__dict__") (.str "__dict__" 248) (.ref 60)),(.mk (PyData.keyHash P "__weakref__") (.str "__weakref__" 250) (.ref 61)),(.mk (PyData.keyHash P "__doc__") (.str "__doc__" 251) .none)] 4) #[]
noncomputable def hd.o59 (P : Params) : Obj := .mk (.type "type") none (.cls (.mk "_netrclex" [(.type "object")] [(.ref 59),(.type "object")] 58 "_netrclex" true [] [] false none false)) #[none,none,(some (.str "_netrclex" 196)),(some (.str "_netrclex" 204)),(some (.builtin "object.__new__")),(some (.bool true))]
noncomputable def hd.o60 (P : Params) : Obj := .mk (.type "getset_descriptor") none (.fields #[(.str "__dict__" 247),(.ref 59),(.builtin "function.__dict__"),(.builtin "function.__dict__#set")]) #[]
noncomputable def hd.o61 (P : Params) : Obj := .mk (.type "getset_descriptor") none (.fields #[(.str "__weakref__" 249),(.ref 59),(.builtin "ExceptionGroup.__weakref__"),.none]) #[]
noncomputable def hd.o64 (P : Params) : Obj := .mk (.type "tuple") none (.seq #[] 0) #[]
noncomputable def hd.o66 (P : Params) : Obj := .mk (.type "tuple") none (.seq #[(.str "name" 261),(.str "x" 262),(.str "t" 263)] 0) #[]
noncomputable def hd.o67 (P : Params) : Obj := .mk (.type "tuple") none (.seq #[] 0) #[]
noncomputable def hd.o69 (P : Params) : Obj := .mk (.type "code") none (.fields #[(.str "_kind" 258),(.str "_kind" 259),(.str "/claim/cut.py" 260),(.int 50 0),(.int 2 0),(.int 0 0),(.int 0 0),(.int 3 0),(.ref 64),(.bool true),(.int 181 0),(.ref 65),.none,(.ref 66),(.ref 67),(.ref 68),(.int 264 0),(.int 50 0),(.str "/claim/cut.py" 265)]) #[]
noncomputable def hd.o70 (P : Params) : Obj := .mk (.type "function") none (.func (.mk "_kind" "_kind" (paramsD (topAt pw_pw0009_02 5)) (.stmts (bodyD (topAt pw_pw0009_02 5))) (scopeD (topAt pw_pw0009_02 5)) 3 [] .none .none .none (.str "os.path" 256) none (.ref 69) .none 0)) #[]
noncomputable def hd.o71 (P : Params) : Obj := .mk (.type "tuple") none (.seq #[] 0) #[]
noncomputable def hd.o73 (P : Params) : Obj := .mk (.type "tuple") none (.seq #[(.str "name" 270),(.str "cname" 271),(.str "argname" 272),(.str "args" 273),(.str "kwargs" 274),(.str "x" 275),(.str "k" 276)] 0) #[]
noncomputable def hd.o74 (P : Params) : Obj := .mk (.type "tuple") none (.seq #[] 0) #[]
noncomputable def hd.o76 (P : Params) : Obj := .mk (.type "code") none (.fields #[(.str "_c_path" 267),(.str "_c_path" 268),(.str "/claim/cut.py" 269),(.int 71 0),(.int 5 0),(.int 0 0),(.int 0 0),(.int 3 0),(.ref 71),(.bool true),(.int 181 0),(.ref 72),.none,(.ref 73),(.ref 74),(.ref 75),(.int 277 0),(.int 71 0),(.str "/claim/cut.py" 278)]) #[]
noncomputable def hd.o77 (P : Params) : Obj := .mk (.type "function") none (.func (.mk "_c_path" "_c_path" (paramsD (topAt pw_pw0009_02 6)) (.stmts (bodyD (topAt pw_pw0009_02 6))) (scopeD (topAt pw_pw0009_02 6)) 3 [] .none .none .none (.str "os.path" 256) none (.ref 76) .none 0)) #[]
noncomputable def hd.o78 (P : Params) : Obj := .mk (.type "tuple") none (.seq #[] 0) #[]
noncomputable def hd.o80 (P : Params) : Obj := .mk (.type "tuple") none (.seq #[(.str "p" 283),(.str "sep" 284),(.str "empty" 285)] 0) #[]
noncomputable def hd.o81 (P : Params) : Obj := .mk (.type "tuple") none (.seq #[] 0) #[]
noncomputable def hd.o83 (P : Params) : Obj := .mk (.type "code") none (.fields #[(.str "_splitroot" 280),(.str "_splitroot" 281),(.str "/claim/cut.py" 282),(.int 82 0),(.int 1 0),(.int 0 0),(.int 0 0),(.int 3 0),(.ref 78),(.bool true),(.int 181 0),(.ref 79),.none,(.ref 80),(.ref 81),(.ref 82),(.int 286 0),(.int 82 0),(.str "/claim/cut.py" 287)]) #[]
noncomputable def hd.o84 (P : Params) : Obj := .mk (.type "function") none (.func (.mk "_splitroot" "_splitroot" (paramsD (topAt pw_pw0009_02 7)) (.stmts (bodyD (topAt pw_pw0009_02 7))) (scopeD (topAt pw_pw0009_02 7)) 3 [] .none .none .none (.str "os.path" 256) none (.ref 83) .none 0)) #[]
noncomputable def hd.o85 (P : Params) : Obj := .mk (.type "tuple") none (.seq #[] 0) #[]
noncomputable def hd.o87 (P : Params) : Obj := .mk (.type "tuple") none (.seq #[(.str "path" 292),(.str "sep" 293),(.str "dot" 294),(.str "dotdot" 295),(.str "_" 296),(.str "initial_slashes" 297),(.str "comps" 298),(.str "new_comps" 299),(.str "comp" 300)] 0) #[]
noncomputable def hd.o88 (P : Params) : Obj := .mk (.type "tuple") none (.seq #[] 0) #[]
noncomputable def hd.o90 (P : Params) : Obj := .mk (.type "code") none (.fields #[(.str "_normpath" 289),(.str "_normpath" 290),(.str "/claim/cut.py" 291),(.int 91 0),(.int 1 0),(.int 0 0),(.int 0 0),(.int 3 0),(.ref 85),(.bool true),(.int 181 0),(.ref 86),.none,(.ref 87),(.ref 88),(.ref 89),(.int 301 0),(.int 91 0),(.str "/claim/cut.py" 302)]) #[]
noncomputable def hd.o91 (P : Params) : Obj := .mk (.type "function") none (.func (.mk "_normpath" "_normpath" (paramsD (topAt pw_pw0009_02 8)) (.stmts (bodyD (topAt pw_pw0009_02 8))) (scopeD (topAt pw_pw0009_02 8)) 3 [] .none .none .none (.str "os.path" 256) none (.ref 90) .none 0)) #[]
noncomputable def hd.o92 (P : Params) : Obj := .mk (.type "tuple") none (.seq #[] 0) #[]
noncomputable def hd.o94 (P : Params) : Obj := .mk (.type "tuple") none (.seq #[(.str "args" 307),(.str "kwargs" 308)] 0) #[]
noncomputable def hd.o95 (P : Params) : Obj := .mk (.type "tuple") none (.seq #[] 0) #[]
noncomputable def hd.o97 (P : Params) : Obj := .mk (.type "code") none (.fields #[(.str "normpath" 304),(.str "normpath" 305),(.str "/claim/cut.py" 306),(.int 110 0),(.int 0 0),(.int 0 0),(.int 0 0),(.int 15 0),(.ref 92),(.bool true),(.int 181 0),(.ref 93),.none,(.ref 94),(.ref 95),(.ref 96),(.int 309 0),(.int 110 0),(.str "/claim/cut.py" 310)]) #[]
noncomputable def hd.o98 (P : Params) : Obj := .mk (.type "function") none (.func (.mk "normpath" "normpath" (paramsD (topAt pw_pw0009_02 9)) (.stmts (bodyD (topAt pw_pw0009_02 9))) (scopeD (topAt pw_pw0009_02 9)) 3 [] .none .none .none (.str "os.path" 256) none (.ref 97) .none 0)) #[]
noncomputable def hd.o106 (P : Params) : Obj := .mk (.type "tuple") none (.seq #[.none,.none] 0) #[]
noncomputable def hd.o107 (P : Params) : Obj := .mk (.type "tuple") none (.seq #[] 0) #[]
noncomputable def hd.o110 (P : Params) : Obj := .mk (.type "code") none (.fields #[(.str "__init__" 326),(.str "_Ignore.__init__" 327),(.str "/claim/cut.py" 328),(.int 115 0),(.int 3 0),(.int 0 0),(.int 0 0),(.int 3 0),(.ref 107),(.bool true),(.int 181 0),(.ref 108),.none,.none,.none,(.ref 109),(.int 329 0),(.int 115 0),(.str "/claim/cut.py" 330)]) #[]
noncomputable def hd.o111 (P : Params) : Obj := .mk (.type "function") none (.func (.mk "__init__" "_Ignore.__init__" (paramsD (nthOf (bodyD (topAt pw_pw0009_02 11)) 0)) (.stmts (bodyD (nthOf (bodyD (topAt pw_pw0009_02 11)) 0))) (scopeD (nthOf (bodyD (topAt pw_pw0009_02 11)) 0)) 3 [] (.ref 106) .none .none (.str "cpy313.trace" 312) none (.ref 110) .none 0)) #[]
noncomputable def hd.o112 (P : Params) : Obj := .mk (.type "tuple") none (.seq #[] 0) #[]
noncomputable def hd.o114 (P : Params) : Obj := .mk (.type "tuple") none (.seq #[(.str "self" 335),(.str "filename" 336),(.str "modulename" 337),(.str "mod" 338),(.str "d" 339)] 0) #[]
noncomputable def hd.o115 (P : Params) : Obj := .mk (.type "tuple") none (.seq #[] 0) #[]
noncomputable def hd.o117 (P : Params) : Obj := .mk (.type "code") none (.fields #[(.str "names" 332),(.str "_Ignore.names" 333),(.str "/claim/cut.py" 334),(.int 120 0),(.int 3 0),(.int 0 0),(.int 0 0),(.int 3 0),(.ref 112),(.bool true),(.int 181 0),(.ref 113),.none,(.ref 114),(.ref 115),(.ref 116),(.int 340 0),(.int 120 0),(.str "/claim/cut.py" 341)]) #[]
noncomputable def hd.o118 (P : Params) : Obj := .mk (.type "function") none (.func (.mk "names" "_Ignore.names" (paramsD (nthOf (bodyD (topAt pw_pw0009_02 11)) 1)) (.stmts (bodyD (nthOf (bodyD (topAt pw_pw0009_02 11)) 1))) (scopeD (nthOf (bodyD (topAt pw_pw0009_02 11)) 1)) 3 [] .none .none .none (.str "cpy313.trace" 312) none (.ref 117) .none 0)) #[]
noncomputable def hd.o119 (P : Params) : Obj := .mk (.type "tuple") none (.seq #[(.str "_dirs" 343),(.str "_ignore" 344),(.str "_mods" 345)] 0) #[]
noncomputable def hd.o120 (P : Params) : Obj := .mk (.type "dict") none (.dict #[(.mk (PyData.keyHash P "__module__") (.str "__module__" 321) (.str "cpy313.trace" 312)),(.mk (PyData.keyHash P "__firstlineno__") (.str "__firstlineno__" 325) (.int 113 324)),(.mk (PyData.keyHash P "__init__") (.str "__init__" 331) (.ref 111)),(.mk (PyData.keyHash P "names") (.str "names" 342) (.ref 118)),(.mk (PyData.keyHash P "__static_attributes__") (.str "__static_attributes__" 346) (.ref 119)),(.mk (PyData.keyHash P "__dict__") (.str "__dict__" 348) (.ref 122)),(.mk (PyData.keyHash P "__weakref__") (.str "__weakref__" 350) (.ref 123)),(.mk (PyData.keyHash P "__doc__") (.str "__doc__" 351) .none)] 4) #[]
noncomputable def hd.o121 (P : Params) : Obj := .mk (.type "type") none (.cls (.mk "_Ignore" [(.type "object")] [(.ref 121),(.type "object")] 120 "_Ignore" true [] [] false none false)) #[none,none,(some (.str "_Ignore" 314)),(some (.str "_Ignore" 322)),(some (.builtin "object.__new__")),(some (.bool true))]
noncomputable def hd.o122 (P : Params) : Obj := .mk (.type "getset_descriptor") none (.fields #[(.str "__dict__" 347),(.ref 121),(.builtin "function.__dict__"),(.builtin "function.__dict__#set")]) #[]
noncomputable def hd.o123 (P : Params) : Obj := .mk (.type "getset_descriptor") none (.fields #[(.str "__weakref__" 349),(.ref 121),(.builtin "ExceptionGroup.__weakref__"),.none]) #[]
noncomputable def hd.o126 (P : Params) : Obj := .mk (.type "tuple") none (.seq #[] 0) #[]
noncomputable def hd.o128 (P : Params) : Obj := .mk (.type "tuple") none (.seq #[(.str "text" 359),(.str "_law_read" 360),(.str "stream" 361)] 0) #[]
noncomputable def hd.o129 (P : Params) : Obj := .mk (.type "tuple") none (.seq #[(.str "signs" 362)] 0) #[]
noncomputable def hd.o131 (P : Params) : Obj := .mk (.type "code") none (.fields #[(.str "_law_lexer" 356),(.str "_law_lexer" 357),(.str "/claim/cut.py" 358),(.int 140 0),(.int 1 0),(.int 0 0),(.int 0 0),(.int 3 0),(.ref 126),(.bool true),(.int 181 0),(.ref 127),.none,(.ref 128),(.ref 129),(.ref 130),(.int 363 0),(.int 140 0),(.str "/claim/cut.py" 364)]) #[]
noncomputable def hd.o132 (P : Params) : Obj := .mk (.type "function") none (.func (.mk "_law_lexer" "_law_lexer" (paramsD (topAt pw_pw0009_02 13)) (.stmts (bodyD (topAt pw_pw0009_02 13))) (scopeD (topAt pw_pw0009_02 13)) 3 [] .none .none .none (.str "law_pw0009_02" 354) none (.ref 131) .none 0)) #[]
noncomputable def hd.o133 (P : Params) : Obj := .mk (.type "tuple") none (.seq #[] 0) #[]
noncomputable def hd.o136 (P : Params) : Obj := .mk (.type "code") none (.fields #[(.str "_law_piece" 366),(.str "_law_piece" 367),(.str "/claim/cut.py" 368),(.int 148 0),(.int 3 0),(.int 0 0),(.int 0 0),(.int 3 0),(.ref 133),(.bool true),(.int 181 0),(.ref 134),.none,.none,.none,(.ref 135),(.int 369 0),(.int 148 0),(.str "/claim/cut.py" 370)]) #[]
noncomputable def hd.o137 (P : Params) : Obj := .mk (.type "function") none (.func (.mk "_law_piece" "_law_piece" (paramsD (topAt pw_pw0009_02 14)) (.stmts (bodyD (topAt pw_pw0009_02 14))) (scopeD (topAt pw_pw0009_02 14)) 3 [] .none .none .none (.str "law_pw0009_02" 354) none (.ref 136) .none 0)) #[]
noncomputable def hd.o138 (P : Params) : Obj := .mk (.type "tuple") none (.seq #[] 0) #[]
noncomputable def hd.o141 (P : Params) : Obj := .mk (.type "code") none (.fields #[(.str "_law_name" 372),(.str "_law_name" 373),(.str "/claim/cut.py" 374),(.int 152 0),(.int 2 0),(.int 0 0),(.int 0 0),(.int 3 0),(.ref 138),(.bool true),(.int 181 0),(.ref 139),.none,.none,.none,(.ref 140),(.int 375 0),(.int 152 0),(.str "/claim/cut.py" 376)]) #[]
noncomputable def hd.o142 (P : Params) : Obj := .mk (.type "function") none (.func (.mk "_law_name" "_law_name" (paramsD (topAt pw_pw0009_02 15)) (.stmts (bodyD (topAt pw_pw0009_02 15))) (scopeD (topAt pw_pw0009_02 15)) 3 [] .none .none .none (.str "law_pw0009_02" 354) none (.ref 141) .none 0)) #[]
noncomputable def hd.o143 (P : Params) : Obj := .mk (.type "tuple") none (.seq #[] 0) #[]
noncomputable def hd.o146 (P : Params) : Obj := .mk (.type "code") none (.fields #[(.str "_law_reader" 378),(.str "_law_reader" 379),(.str "/claim/cut.py" 380),(.int 154 0),(.int 1 0),(.int 0 0),(.int 0 0),(.int 3 0),(.ref 143),(.bool true),(.int 181 0),(.ref 144),.none,.none,.none,(.ref 145),(.int 381 0),(.int 154 0),(.str "/claim/cut.py" 382)]) #[]
noncomputable def hd.o147 (P : Params) : Obj := .mk (.type "function") none (.func (.mk "_law_reader" "_law_reader" (paramsD (topAt pw_pw0009_02 16)) (.stmts (bodyD (topAt pw_pw0009_02 16))) (scopeD (topAt pw_pw0009_02 16)) 3 [] .none .none .none (.str "law_pw0009_02" 354) none (.ref 146) .none 0)) #[]
noncomputable def hd.o148 (P : Params) : Obj := .mk (.type "tuple") none (.seq #[] 0) #[]
noncomputable def hd.o150 (P : Params) : Obj := .mk (.type "tuple") none (.seq #[(.str "reader" 387),(.str "word" 388)] 0) #[]
noncomputable def hd.o151 (P : Params) : Obj := .mk (.type "tuple") none (.seq #[] 0) #[]
noncomputable def hd.o153 (P : Params) : Obj := .mk (.type "code") none (.fields #[(.str "_law_out" 384),(.str "_law_out" 385),(.str "/claim/cut.py" 386),(.int 158 0),(.int 2 0),(.int 0 0),(.int 0 0),(.int 3 0),(.ref 148),(.bool true),(.int 181 0),(.ref 149),.none,(.ref 150),(.ref 151),(.ref 152),(.int 389 0),(.int 158 0),(.str "/claim/cut.py" 390)]) #[]
noncomputable def hd.o154 (P : Params) : Obj := .mk (.type "function") none (.func (.mk "_law_out" "_law_out" (paramsD (topAt pw_pw0009_02 17)) (.stmts (bodyD (topAt pw_pw0009_02 17))) (scopeD (topAt pw_pw0009_02 17)) 3 [] .none .none .none (.str "law_pw0009_02" 354) none (.ref 153) .none 0)) #[]
noncomputable def hd.o155 (P : Params) : Obj := .mk (.type "tuple") none (.seq #[] 0) #[]
noncomputable def hd.o158 (P : Params) : Obj := .mk (.type "code") none (.fields #[(.str "_law_behind" 392),(.str "_law_behind" 393),(.str "/claim/cut.py" 394),(.int 160 0),(.int 2 0),(.int 0 0),(.int 0 0),(.int 3 0),(.ref 155),(.bool true),(.int 181 0),(.ref 156),.none,.none,.none,(.ref 157),(.int 395 0),(.int 160 0),(.str "/claim/cut.py" 396)]) #[]
noncomputable def hd.o159 (P : Params) : Obj := .mk (.type "function") none (.func (.mk "_law_behind" "_law_behind" (paramsD (topAt pw_pw0009_02 18)) (.stmts (bodyD (topAt pw_pw0009_02 18))) (scopeD (topAt pw_pw0009_02 18)) 3 [] .none .none .none (.str "law_pw0009_02" 354) none (.ref 158) .none 0)) #[]
noncomputable def hd.o160 (P : Params) : Obj := .mk (.type "tuple") none (.seq #[] 0) #[]
noncomputable def hd.o162 (P : Params) : Obj := .mk (.type "tuple") none (.seq #[(.str "maps" 401),(.str "line" 402),(.str "sign" 403),(.str "rules" 404),(.str "kept" 405),(.str "made" 406),(.str "reader" 407),(.str "word" 408)] 0) #[]
noncomputable def hd.o163 (P : Params) : Obj := .mk (.type "tuple") none (.seq #[] 0) #[]
noncomputable def hd.o165 (P : Params) : Obj := .mk (.type "code") none (.fields #[(.str "_law_kept" 398),(.str "_law_kept" 399),(.str "/claim/cut.py" 400),(.int 162 0),(.int 1 0),(.int 0 0),(.int 0 0),(.int 3 0),(.ref 160),(.bool true),(.int 181 0),(.ref 161),.none,(.ref 162),(.ref 163),(.ref 164),(.int 409 0),(.int 162 0),(.str "/claim/cut.py" 410)]) #[]
noncomputable def hd.o166 (P : Params) : Obj := .mk (.type "function") none (.func (.mk "_law_kept" "_law_kept" (paramsD (topAt pw_pw0009_02 19)) (.stmts (bodyD (topAt pw_pw0009_02 19))) (scopeD (topAt pw_pw0009_02 19)) 3 [] .none .none .none (.str "law_pw0009_02" 354) none (.ref 165) .none 0)) #[]
noncomputable def hd.o167 (P : Params) : Obj := .mk (.type "tuple") none (.seq #[] 0) #[]
noncomputable def hd.o170 (P : Params) : Obj := .mk (.type "code") none (.fields #[(.str "_law_read_by" 412),(.str "_law_read_by" 413),(.str "/claim/cut.py" 414),(.int 181 0),(.int 3 0),(.int 0 0),(.int 0 0),(.int 3 0),(.ref 167),(.bool true),(.int 181 0),(.ref 168),.none,.none,.none,(.ref 169),(.int 415 0),(.int 181 0),(.str "/claim/cut.py" 416)]) #[]
noncomputable def hd.o171 (P : Params) : Obj := .mk (.type "function") none (.func (.mk "_law_read_by" "_law_read_by" (paramsD (topAt pw_pw0009_02 20)) (.stmts (bodyD (topAt pw_pw0009_02 20))) (scopeD (topAt pw_pw0009_02 20)) 3 [] .none .none .none (.str "law_pw0009_02" 354) none (.ref 170) .none 0)) #[]
noncomputable def hd.o172 (P : Params) : Obj := .mk (.type "tuple") none (.seq #[] 0) #[]
noncomputable def hd.o174 (P : Params) : Obj := .mk (.type "tuple") none (.seq #[(.str "maps" 421),(.str "first" 422),(.str "level" 423),(.str "longer" 424),(.str "sign" 425),(.str "text" 426),(.str "end" 427),(.str "whole" 428)] 0) #[]
noncomputable def hd.o175 (P : Params) : Obj := .mk (.type "tuple") none (.seq #[] 0) #[]
noncomputable def hd.o177 (P : Params) : Obj := .mk (.type "code") none (.fields #[(.str "_law_first" 418),(.str "_law_first" 419),(.str "/claim/cut.py" 420),(.int 199 0),(.int 1 0),(.int 0 0),(.int 0 0),(.int 3 0),(.ref 172),(.bool true),(.int 181 0),(.ref 173),.none,(.ref 174),(.ref 175),(.ref 176),(.int 429 0),(.int 199 0),(.str "/claim/cut.py" 430)]) #[]
noncomputable def hd.o178 (P : Params) : Obj := .mk (.type "function") none (.func (.mk "_law_first" "_law_first" (paramsD (topAt pw_pw0009_02 21)) (.stmts (bodyD (topAt pw_pw0009_02 21))) (scopeD (topAt pw_pw0009_02 21)) 3 [] .none .none .none (.str "law_pw0009_02" 354) none (.ref 177) .none 0)) #[]
noncomputable def hd.o179 (P : Params) : Obj := .mk (.type "tuple") none (.seq #[] 0) #[]
noncomputable def hd.o182 (P : Params) : Obj := .mk (.type "code") none (.fields #[(.str "_law_rules" 432),(.str "_law_rules" 433),(.str "/claim/cut.py" 434),(.int 211 0),(.int 2 0),(.int 0 0),(.int 0 0),(.int 3 0),(.ref 179),(.bool true),(.int 181 0),(.ref 180),.none,.none,.none,(.ref 181),(.int 435 0),(.int 211 0),(.str "/claim/cut.py" 436)]) #[]
noncomputable def hd.o183 (P : Params) : Obj := .mk (.type "function") none (.func (.mk "_law_rules" "_law_rules" (paramsD (topAt pw_pw0009_02 22)) (.stmts (bodyD (topAt pw_pw0009_02 22))) (scopeD (topAt pw_pw0009_02 22)) 3 [] .none .none .none (.str "law_pw0009_02" 354) none (.ref 182) .none 0)) #[]
noncomputable def hd.o184 (P : Params) : Obj := .mk (.type "tuple") none (.seq #[] 0) #[]
noncomputable def hd.o187 (P : Params) : Obj := .mk (.type "code") none (.fields #[(.str "law" 438),(.str "law" 439),(.str "/claim/cut.py" 440),(.int 219 0),(.int 1 0),(.int 0 0),(.int 0 0),(.int 3 0),(.ref 184),(.bool true),(.int 181 0),(.ref 185),.none,.none,.none,(.ref 186),(.int 441 0),(.int 219 0),(.str "/claim/cut.py" 442)]) #[]
noncomputable def hd.o188 (P : Params) : Obj := .mk (.type "function") none (.func (.mk "law" "law" (paramsD (topAt pw_pw0009_02 23)) (.stmts (bodyD (topAt pw_pw0009_02 23))) (scopeD (topAt pw_pw0009_02 23)) 3 [] .none .none .none (.str "law_pw0009_02" 354) none (.ref 187) .none 0)) #[]
noncomputable def hd.heap_39 (P : Params) : Frag := [(2,hd.o2 P),(3,hd.o3 P),(15,hd.o15 P),(17,hd.o17 P),(18,hd.o18 P),(20,hd.o20 P),(21,hd.o21 P),(29,hd.o29 P),(31,hd.o31 P),(32,hd.o32 P),(34,hd.o34 P),(35,hd.o35 P),(36,hd.o36 P),(38,hd.o38 P),(39,hd.o39 P),(41,hd.o41 P),(42,hd.o42 P),(43,hd.o43 P),(45,hd.o45 P),(46,hd.o46 P),(48,hd.o48 P),(49,hd.o49 P),(50,hd.o50 P),(52,hd.o52 P),(53,hd.o53 P),(55,hd.o55 P),(56,hd.o56 P),(57,hd.o57 P),(58,hd.o58 P),(59,hd.o59 P),(60,hd.o60 P),(61,hd.o61 P),(64,hd.o64 P),(66,hd.o66 P),(67,hd.o67 P),(69,hd.o69 P),(70,hd.o70 P),(71,hd.o71 P),(73,hd.o73 P),(74,hd.o74 P),(76,hd.o76 P),(77,hd.o77 P),(78,hd.o78 P),(80,hd.o80 P),(81,hd.o81 P),(83,hd.o83 P),(84,hd.o84 P),(85,hd.o85 P),(87,hd.o87 P),(88,hd.o88 P),(90,hd.o90 P),(91,hd.o91 P),(92,hd.o92 P),(94,hd.o94 P),(95,hd.o95 P),(97,hd.o97 P),(98,hd.o98 P),(106,hd.o106 P),(107,hd.o107 P),(110,hd.o110 P),(111,hd.o111 P),(112,hd.o112 P),(114,hd.o114 P),(115,hd.o115 P),(117,hd.o117 P),(118,hd.o118 P),(119,hd.o119 P),(120,hd.o120 P),(121,hd.o121 P),(122,hd.o122 P),(123,hd.o123 P),(126,hd.o126 P),(128,hd.o128 P),(129,hd.o129 P),(131,hd.o131 P),(132,hd.o132 P),(133,hd.o133 P),(136,hd.o136 P),(137,hd.o137 P),(138,hd.o138 P),(141,hd.o141 P),(142,hd.o142 P),(143,hd.o143 P),(146,hd.o146 P),(147,hd.o147 P),(148,hd.o148 P),(150,hd.o150 P),(151,hd.o151 P),(153,hd.o153 P),(154,hd.o154 P),(155,hd.o155 P),(158,hd.o158 P),(159,hd.o159 P),(160,hd.o160 P),(162,hd.o162 P),(163,hd.o163 P),(165,hd.o165 P),(166,hd.o166 P),(167,hd.o167 P),(170,hd.o170 P),(171,hd.o171 P),(172,hd.o172 P),(174,hd.o174 P),(175,hd.o175 P),(177,hd.o177 P),(178,hd.o178 P),(179,hd.o179 P),(182,hd.o182 P),(183,hd.o183 P),(184,hd.o184 P),(187,hd.o187 P),(188,hd.o188 P)]
noncomputable def hd.view_39 : Program := { pw_pw0009_02 with main := { pw_pw0009_02.main with body := [topAt pw_pw0009_02 0, topAt pw_pw0009_02 2, topAt pw_pw0009_02 3, topAt pw_pw0009_02 5, topAt pw_pw0009_02 6, topAt pw_pw0009_02 7, topAt pw_pw0009_02 8, topAt pw_pw0009_02 9, topAt pw_pw0009_02 11, topAt pw_pw0009_02 13, topAt pw_pw0009_02 14, topAt pw_pw0009_02 15, topAt pw_pw0009_02 16, topAt pw_pw0009_02 17, topAt pw_pw0009_02 18, topAt pw_pw0009_02 19, topAt pw_pw0009_02 20, topAt pw_pw0009_02 21, topAt pw_pw0009_02 22, topAt pw_pw0009_02 23] } }
section
open PySem PySem.W PySem.Challenge
noncomputable def zf : Obj := (.mk .none none (.fields #[]) #[])
noncomputable def zt : Obj := (.mk (.type "tuple") none (.seq #[] 0) #[])
noncomputable def zr (a b : String) (s : Stmt) : Obj := Obj.mk .none none (.func (FuncData.mk (Str.ofString a) (Str.ofString b) (paramsD s) (.stmts (bodyD s)) (scopeD s) 0 [] .none .none .none .none none .none .none 0)) (List.toArray [])
noncomputable def ze (P : Params) (a : String) (n : Nat) (v : Value) : DictEntry := .mk (PyData.keyHash P (Str.ofString a)) (.str (Str.ofString a) n) v
noncomputable def zo (P : Params) : List Obj := [(.mk (.type "code") none (.fields #[(.str "<module>" 182),(.str "<module>" 183),(.str "/claim/cut.py" 184),(.int 1 0),(.int 0 0),(.int 0 0),(.int 0 0),(.int 0 0),(.ref 11),(.bool false),(.int 181 0),(.ref 12),.none,.none,.none,.none,(.int 185 0),(.int 1 0),(.str "/claim/cut.py" 186)]) #[]),(.mk (.type "frame") none .plain #[(some (.ref 13)),(some (.ref 3)),(some (.ref 3)),none,(some (.str "__main__" 164)),none,(some (.ref 0))]),hd.o15 P,zf,hd.o17 P,hd.o18 P,zr "_wall" "_wall" (topAt pw_pw0009_02 0),hd.o20 P,hd.o21 P,zt,(.mk (.type "builtin_function_or_method") none (.fields #[(.builtin "type.__prepare__"),(.type "type")]) #[]),(.mk (.type "dict") none (.dict #[(.mk (PyData.keyHash P "__module__") (.str "__module__" 203) (.str "cpy313.netrc" 194)),(.mk (PyData.keyHash P "__qualname__") (.str "__qualname__" 205) (.str "_netrclex" 204)),(.mk (PyData.keyHash P "__firstlineno__") (.str "__firstlineno__" 207) (.int 5 206)),(.mk (PyData.keyHash P "__init__") (.str "__init__" 215) (.ref 35)),(.mk (PyData.keyHash P "_read_char") (.str "_read_char" 223) (.ref 42)),(.mk (PyData.keyHash P "get_token") (.str "get_token" 233) (.ref 49)),(.mk (PyData.keyHash P "push_token") (.str "push_token" 241) (.ref 56)),(.mk (PyData.keyHash P "__static_attributes__") (.str "__static_attributes__" 246) (.ref 57))] 8) #[]),zt,(.mk .none none (.fields #[(.int 7 0),(.int 4 0),(.ref 34),(.int 13 0),(.int 4 0),(.ref 41),(.int 19 0),(.int 4 0),(.ref 48),(.int 46 0),(.int 4 0),(.ref 55)]) #[]),(.mk (.type "code") none (.fields #[(.str "_netrclex" 198),(.str "_netrclex" 199),(.str "/claim/cut.py" 200),(.int 5 0),(.int 0 0),(.int 0 0),(.int 0 0),(.int 0 0),(.ref 25),(.bool false),(.int 181 0),(.ref 26),.none,.none,.none,.none,(.int 201 0),(.int 5 0),(.str "/claim/cut.py" 202)]) #[]),(.mk (.type "frame") none .plain #[(some (.ref 27)),(some (.ref 3)),(some (.ref 24)),none,(some (.str "cpy313.netrc" 194)),none,(some (.ref 0))]),hd.o29 P,zf,hd.o31 P,hd.o32 P,zr "__init__" "_netrclex.__init__" (nthOf (bodyD (topAt pw_pw0009_02 2)) 0),hd.o34 P,hd.o35 P,hd.o36 P,zf,hd.o38 P,hd.o39 P,zr "_read_char" "_netrclex._read_char" (nthOf (bodyD (topAt pw_pw0009_02 2)) 1),hd.o41 P,hd.o42 P,hd.o43 P,zf,hd.o45 P,hd.o46 P,zr "get_token" "_netrclex.get_token" (nthOf (bodyD (topAt pw_pw0009_02 2)) 2),hd.o48 P,hd.o49 P,hd.o50 P,zf,hd.o52 P,hd.o53 P,zr "push_token" "_netrclex.push_token" (nthOf (bodyD (topAt pw_pw0009_02 2)) 3),hd.o55 P,hd.o56 P,hd.o57 P,hd.o58 P,hd.o59 P,hd.o60 P,hd.o61 P,(.mk (.type "super") none (.fields #[(.ref 59),(.ref 59),(.ref 59)]) #[]),(.mk (.type "builtin_function_or_method") none (.fields #[(.builtin "object.__init_subclass__"),(.ref 59)]) #[]),hd.o64 P,zf,hd.o66 P,hd.o67 P,zr "_kind" "_kind" (topAt pw_pw0009_02 5),hd.o69 P,hd.o70 P,hd.o71 P,zf,hd.o73 P,hd.o74 P,zr "_c_path" "_c_path" (topAt pw_pw0009_02 6),hd.o76 P,hd.o77 P,hd.o78 P,zf,hd.o80 P,hd.o81 P,zr "_splitroot" "_splitroot" (topAt pw_pw0009_02 7),hd.o83 P,hd.o84 P,hd.o85 P,zf,hd.o87 P,hd.o88 P,zr "_normpath" "_normpath" (topAt pw_pw0009_02 8),hd.o90 P,hd.o91 P,hd.o92 P,zf,hd.o94 P,hd.o95 P,zr "normpath" "normpath" (topAt pw_pw0009_02 9),hd.o97 P,hd.o98 P,zt,(.mk (.type "builtin_function_or_method") none (.fields #[(.builtin "type.__prepare__"),(.type "type")]) #[]),(.mk (.type "dict") none (.dict #[(.mk (PyData.keyHash P "__module__") (.str "__module__" 321) (.str "cpy313.trace" 312)),(.mk (PyData.keyHash P "__qualname__") (.str "__qualname__" 323) (.str "_Ignore" 322)),(.mk (PyData.keyHash P "__firstlineno__") (.str "__firstlineno__" 325) (.int 113 324)),(.mk (PyData.keyHash P "__init__") (.str "__init__" 331) (.ref 111)),(.mk (PyData.keyHash P "names") (.str "names" 342) (.ref 118)),(.mk (PyData.keyHash P "__static_attributes__") (.str "__static_attributes__" 346) (.ref 119))] 6) #[]),zt,(.mk .none none (.fields #[(.int 115 0),(.int 4 0),(.ref 110),(.int 120 0),(.int 4 0),(.ref 117)]) #[]),(.mk (.type "code") none (.fields #[(.str "_Ignore" 316),(.str "_Ignore" 317),(.str "/claim/cut.py" 318),(.int 113 0),(.int 0 0),(.int 0 0),(.int 0 0),(.int 0 0),(.ref 102),(.bool false),(.int 181 0),(.ref 103),.none,.none,.none,.none,(.int 319 0),(.int 113 0),(.str "/claim/cut.py" 320)]) #[]),(.mk (.type "frame") none .plain #[(some (.ref 104)),(some (.ref 3)),(some (.ref 101)),none,(some (.str "cpy313.trace" 312)),none,(some (.ref 0))]),hd.o106 P,hd.o107 P,zf,zr "__init__" "_Ignore.__init__" (nthOf (bodyD (topAt pw_pw0009_02 11)) 0),hd.o110 P,hd.o111 P,hd.o112 P,zf,hd.o114 P,hd.o115 P,zr "names" "_Ignore.names" (nthOf (bodyD (topAt pw_pw0009_02 11)) 1),hd.o117 P,hd.o118 P,hd.o119 P,hd.o120 P,hd.o121 P,hd.o122 P,hd.o123 P,(.mk (.type "super") none (.fields #[(.ref 121),(.ref 121),(.ref 121)]) #[]),(.mk (.type "builtin_function_or_method") none (.fields #[(.builtin "object.__init_subclass__"),(.ref 121)]) #[]),hd.o126 P,zf,hd.o128 P,hd.o129 P,zr "_law_lexer" "_law_lexer" (topAt pw_pw0009_02 13),hd.o131 P,hd.o132 P,hd.o133 P,zf,zr "_law_piece" "_law_piece" (topAt pw_pw0009_02 14),hd.o136 P,hd.o137 P,hd.o138 P,zf,zr "_law_name" "_law_name" (topAt pw_pw0009_02 15),hd.o141 P,hd.o142 P,hd.o143 P,zf,zr "_law_reader" "_law_reader" (topAt pw_pw0009_02 16),hd.o146 P,hd.o147 P,hd.o148 P,zf,hd.o150 P,hd.o151 P,zr "_law_out" "_law_out" (topAt pw_pw0009_02 17),hd.o153 P,hd.o154 P,hd.o155 P,zf,zr "_law_behind" "_law_behind" (topAt pw_pw0009_02 18),hd.o158 P,hd.o159 P,hd.o160 P,zf,hd.o162 P,hd.o163 P,zr "_law_kept" "_law_kept" (topAt pw_pw0009_02 19),hd.o165 P,hd.o166 P,hd.o167 P,zf,zr "_law_read_by" "_law_read_by" (topAt pw_pw0009_02 20),hd.o170 P,hd.o171 P,hd.o172 P,zf,hd.o174 P,hd.o175 P,zr "_law_first" "_law_first" (topAt pw_pw0009_02 21),hd.o177 P,hd.o178 P,hd.o179 P,zf,zr "_law_rules" "_law_rules" (topAt pw_pw0009_02 22),hd.o182 P,hd.o183 P,hd.o184 P,zf,zr "law" "law" (topAt pw_pw0009_02 23),hd.o187 P,hd.o188 P]
noncomputable def zg (P : Params) : List DictEntry := [ze P "__doc__" 166 .none,ze P "__package__" 167 .none,ze P "__loader__" 168 (.builtin "__main__.__loader__#opaque"),ze P "__spec__" 169 .none,ze P "__annotations__" 170 (.ref 6),ze P "__builtins__" 171 (.ref 4),ze P "__file__" 173 (.str "/claim/cut.py" 172),ze P "__cached__" 174 .none,ze P "_wall" 193 (.ref 21),ze P "_netrclex" 253 (.ref 59),ze P "sep" 255 (.str "/" 254),ze P "_kind" 266 (.ref 70),ze P "_c_path" 279 (.ref 77),ze P "_splitroot" 288 (.ref 84),ze P "_normpath" 303 (.ref 91),ze P "normpath" 311 (.ref 98),ze P "_Ignore" 353 (.ref 121),ze P "_law_lexer" 365 (.ref 132),ze P "_law_piece" 371 (.ref 137),ze P "_law_name" 377 (.ref 142),ze P "_law_reader" 383 (.ref 147),ze P "_law_out" 391 (.ref 154),ze P "_law_behind" 397 (.ref 159),ze P "_law_kept" 411 (.ref 166),ze P "_law_read_by" 417 (.ref 171),ze P "_law_first" 431 (.ref 178),ze P "_law_rules" 437 (.ref 183),ze P "law" 443 (.ref 188)]
noncomputable def zk : List Value := [.int 1 0,.int 0 0,.ref 20,.int 5 0,.int 0 0,.ref 27,.int 50 0,.int 0 0,.ref 69,.int 71 0,.int 0 0,.ref 76,.int 82 0,.int 0 0,.ref 83,.int 91 0,.int 0 0,.ref 90,.int 110 0,.int 0 0,.ref 97,.int 113 0,.int 0 0,.ref 104,.int 140 0,.int 0 0,.ref 131,.int 148 0,.int 0 0,.ref 136,.int 152 0,.int 0 0,.ref 141,.int 154 0,.int 0 0,.ref 146,.int 158 0,.int 0 0,.ref 153,.int 160 0,.int 0 0,.ref 158,.int 162 0,.int 0 0,.ref 165,.int 181 0,.int 0 0,.ref 170,.int 199 0,.int 0 0,.ref 177,.int 211 0,.int 0 0,.ref 182,.int 219 0,.int 0 0,.ref 187]
noncomputable def zh (n j m : Nat) (a : String) (k : Nat) (P : Params) : Heap := ⟨⟨boot_o_0 P :: boot_o_1 P :: boot_o_2 P :: Obj.mk (.type "dict") none (.dict ⟨ze P "__name__" 165 (.str (Str.ofString a) k) :: (zg P).take (j - 1)⟩ j) ⟨[]⟩ :: boot_o_4 P :: boot_o_5 P :: boot_o_6 P :: boot_o_7 P :: boot_o_8 P :: boot_o_9 P :: boot_o_10 P :: zt :: Obj.mk .none none (.fields ⟨zk.take m⟩) ⟨[]⟩ :: (zo P).take (n - 13)⟩, {}⟩
noncomputable def zv : Env := { scope := pw_pw0009_02.main.scope, locals := mainNs, globals := mainNs, cells := [], code := .ref 13, frame := some 14 }
noncomputable def zx : List Stmt := behindTheImports pw_pw0009_02
noncomputable def zw (n j m : Nat) (a : String) (k t : Nat) (w : World) (os : OsState) : Shared := ⟨zh n j m a k w.params, ⟨[]⟩, boot_drawn, t, os⟩
theorem zc {tb : String → Option Builtin} {p : Program} {w : World} {n₀ : Nat} {ann : Option Value} {env : Env} {q : Pos} (i : Nat) {n N : Nat} {s s' r : Shared} {l : List Stmt} {c : Code} {pos p' : Pos} (h : segRun tb p w n₀ ann 1 n s (piecesOf (l.take i) env c pos [topFrame q]) = some (.next, s', c, p')) (k : topRun tb p w n₀ ann N s' (restOf (l.drop i) env c p' [topFrame q]) = some r) : topRun tb p w n₀ ann (n + N) s (restOf l env c pos [topFrame q]) = some r := by
 have := piece_app h k
 rwa [List.take_append_drop] at this
theorem zr0 : ∀ w os, topGo treeTable pw_pw0009_02 w 11 (some (.ref 6)) 12 ⟨boot_heap w.params, ⟨[]⟩, boot_drawn, boot_toks, os⟩ (topStub pw_pw0009_02) = some (zw 15 9 0 "__main__" 164 187 w os, ⟨denote treeTable (.body zx zv), .body zx zv, ⟨0, 0, 0, 0⟩, [topFrame ⟨0, 0, 0, 0⟩]⟩) := fun w os => by kernel_rfl
theorem zr1 : ∀ w os, segRun treeTable pw_pw0009_02 w 11 (some (.ref 6)) 1 1 (zw 15 9 0 "__main__" 164 187 w os) (blockOf zx zv (.body zx zv) ⟨0, 0, 0, 0⟩ [topFrame ⟨0, 0, 0, 0⟩]) = some (.next, zw 15 9 0 "__main__" 164 187 w os, .body zx zv, ⟨0, 0, 0, 0⟩) := fun w os => by kernel_rfl
theorem zr2 : ∀ w os, segRun treeTable pw_pw0009_02 w 11 (some (.ref 6)) 1 362 (zw 15 9 0 "__main__" 164 187 w os) (piecesOf (zx.take 3) zv (.body zx zv) ⟨0, 0, 0, 0⟩ [topFrame ⟨0, 0, 0, 0⟩]) = some (.next, zw 64 11 6 "cpy313.netrc" 194 254 w os, .body zx zv, ⟨5, 0, 47, 35⟩) := fun w os => by kernel_rfl
theorem zr3 : ∀ w os, segRun treeTable pw_pw0009_02 w 11 (some (.ref 6)) 1 192 (zw 64 11 6 "cpy313.netrc" 194 254 w os) (piecesOf ((zx.drop 3).take 8) zv (.body zx zv) ⟨5, 0, 47, 35⟩ [topFrame ⟨0, 0, 0, 0⟩]) = some (.next, zw 99 17 21 "cpy313.trace" 312 314 w os, .body zx zv, ⟨112, 0, 112, 8⟩) := fun w os => by kernel_rfl
theorem zr4 : ∀ w os, segRun treeTable pw_pw0009_02 w 11 (some (.ref 6)) 1 266 (zw 99 17 21 "cpy313.trace" 312 314 w os) (piecesOf (((zx.drop 3).drop 8).take 2) zv (.body zx zv) ⟨112, 0, 112, 8⟩ [topFrame ⟨0, 0, 0, 0⟩]) = some (.next, zw 126 18 24 "law_pw0009_02" 354 356 w os, .body zx zv, ⟨139, 0, 139, 8⟩) := fun w os => by kernel_rfl
theorem zr5 : ∀ w os, segRun treeTable pw_pw0009_02 w 11 (some (.ref 6)) 1 317 (zw 126 18 24 "law_pw0009_02" 354 356 w os) (piecesOf ((((zx.drop 3).drop 8).drop 2).take 11) zv (.body zx zv) ⟨139, 0, 139, 8⟩ [topFrame ⟨0, 0, 0, 0⟩]) = some (.next, zw 189 29 57 "law_pw0009_02" 354 444 w os, .body zx zv, ⟨219, 0, 246, 68⟩) := fun w os => by kernel_rfl
theorem zr6 : ∀ w os, topRun treeTable pw_pw0009_02 w 11 (some (.ref 6)) 2 (zw 189 29 57 "law_pw0009_02" 354 444 w os) (restOf ((((zx.drop 3).drop 8).drop 2).drop 11) zv (.body zx zv) ⟨219, 0, 246, 68⟩ [topFrame ⟨0, 0, 0, 0⟩]) = some (zw 189 29 57 "law_pw0009_02" 354 444 w os) := fun w os => by kernel_rfl
theorem zrs (w : World) (os : OsState) : topRun treeTable pw_pw0009_02 w 11 (some (.ref 6)) (12 + (1 + (362 + (192 + (266 + (317 + (2))))))) ⟨boot_heap w.params, ⟨[]⟩, boot_drawn, boot_toks, os⟩ (topStub pw_pw0009_02) = some (zw 189 29 57 "law_pw0009_02" 354 444 w os) := go_top (zr0 w os) (piece_block (zr1 w os) (zc 3 (zr2 w os) (zc 8 (zr3 w os) (zc 2 (zr4 w os) (zc 11 (zr5 w os) (zr6 w os))))))
noncomputable def P0 : Params := { strHash := fun u_ => 0, shareClass := fun u_ => 0, mergeTok := id, idOf := fun u_ => 0, idOfShared := fun u_ u_ => 0, followText := fun u_ => true, idOfImm := fun u_ => 0 }
noncomputable def asH : List Addr := (hd.heap_39 P0).map (·.1)
noncomputable def HH : Hook := kmHook hd.heap_39 asH (fun u_ => by kernel_rfl) [180, 127]
theorem left : LeftO pw_pw0009_02 hd.view_39 [] (fun s => xlAt hd.view_39 [] s && recOk (RowW.records rw_pw0009_02.row.toRowW) s) (Hook.obs HH) (Hook.val HH) 2400 := .of_pieces (H₀ := boot_heap) (H₁ := zh 189 29 57 "law_pw0009_02" 354) (boot_open (by kernel_rfl) rfl (fun s => by kernel_rfl)) (fun w => by kernel_rfl) zrs rfl (fun w => by kernel_rfl)
end
section
open PySem PySem.W PySem.Challenge
noncomputable def posD (s : Stmt) : Pos := funD default (fun u_ u_ u_ p => p) s
noncomputable def lawRec : DefRec := ⟨Str.ofString "law", paramsD (topAt pw_pw0009_02 23), bodyD (topAt pw_pw0009_02 23), scopeD (topAt pw_pw0009_02 23), posD (topAt pw_pw0009_02 23)⟩
theorem said : OpenLaw.wellSaid rw_pw0009_02 = true := by
 unfold OpenLaw.wellSaid OpenRow.wellSaid OpenRow.partSaid looksOpen
 repeat' with_reducible apply look_both
 all_goals decide +kernel
theorem bareL : pw_pw0009_02.tablesWhole = true := by decide +kernel
theorem bare5 : pw_pw0009_02.given = { environ := some Program.claimEnviron } := rfl
theorem bareP : pw_pw0009_02.bare := ⟨rfl, rfl, rfl, rfl, bare5, bareL⟩
theorem bare2 : rw_pw0009_02.row.prog.bare := bareP
theorem looks2 : (chainsOk hd.view_39 && opensWell rw_pw0009_02.row.prog && (frees rw_pw0009_02.row.toRowW && rw_pw0009_02.row.within.isEmpty)) = true := by decide +kernel
theorem promised2 : rw_pw0009_02.row.toRowW.promised := by w_witness2
theorem hd (walk : WalkO hd.view_39 [] (XL hd.view_39 []) (Hook.says HH) rw_pw0009_02.row.toRowW lawRec [] fun f vs => PySem.call f vs) : rw_pw0009_02.Holds := by
 refine holds_law said fun said => ?_
 exact W.holds_open (q := hd.view_39) (loose := []) (XP := XL hd.view_39 []) (YP := Hook.says HH) (N := 2400) left (Hook.of _) (Hook.keeps _) (fun s e => xl_of s (Bool.and_eq_true_iff.mp e).1) XL.keeps (by kernel_rfl) (by kernel_rfl) (by kernel_rfl) (fun s e => recFacts_of (Bool.and_eq_true_iff.mp e).2) (by kernel_rfl) said looks2 bare2 promised2 walk
end
structure Cx where
 prog : Program
 w : World
 os : OsState
 K : Frag
noncomputable abbrev Cx.M (c : Cx) : Model := model c.prog c.w
noncomputable def Room (A : Around) (n : Nat) : Prop := A.depth + n < recursionLimit ∧ A.units + 40 * n < cLine ∧ A.handled = none ∧ A.guards = some []
theorem Room.mono {A : Around} {n m : Nat} (r : Room A n) (h : m ≤ n) : Room A m := ⟨by have := r.1; lia, by have := r.2.1; lia, r.2.2⟩
theorem Room.depth {A : Around} {n : Nat} (r : Room A n) : A.depth < recursionLimit := by have := r.1; lia
theorem Room.units {A : Around} {n : Nat} (r : Room A n) : A.units < cLine := by have := r.2.1; lia
theorem Room.hand {A : Around} {n : Nat} (r : Room A n) : A.handled = none := r.2.2.1
theorem Room.guard {A : Around} {n : Nat} (r : Room A n) : A.guards = some [] := r.2.2.2
theorem Room.deeper {A : Around} {n : Nat} {env : Env} (r : Room A (n + 1)) : Room (A.deeper env) n := ⟨by have := r.1; show A.depth + 1 + n < _; lia, by have := r.2.1; show A.units + 3 + 40 * n < _; lia, r.2.2⟩
theorem Room.in1 {A : Around} {n : Nat} (r : Room A (n + 1)) : Room A.in1 n := ⟨by have := r.1; show A.depth + n < _; lia, by have := r.2.1; show A.units + 1 + 40 * n < _; lia, r.2.2⟩
noncomputable abbrev Cx.at (c : Cx) (h : Heap) (d : Drawn) (tk : Nat) : Shared := ⟨h, #[], d, tk, c.os⟩
noncomputable abbrev Cx.Q (c : Cx) {α : Type} (P : α → Heap → Prop) : α → Shared → Prop := fun a s' => s'.gens = #[] ∧ s'.os = c.os ∧ P a s'.heap
noncomputable abbrev NoE : Value → Shared → Prop := fun u_ u_ => False
noncomputable def Ok (c : Cx) (n : Nat) {α : Type} (t : Sem α) (P : α → Heap → Prop) (h : Heap) : Prop :=
 ∀ A d tk, Room A n → wpAny c.M A t (c.Q P) NoE (c.at h d tk)
noncomputable abbrev Cx.R (c : Cx) (P : Flow → Heap → Prop) : Result → Shared → Prop := fun r s' => match r with
 | .ok f => s'.gens = #[] ∧ s'.os = c.os ∧ P f s'.heap
 | .error _ => False
noncomputable def OkC (c : Cx) (n : Nat) (cd : Code) (P : Flow → Heap → Prop) (h : Heap) : Prop :=
 ∀ A d tk, Room A n → codeAny c.M A cd (c.R P) (c.at h d tk)
section
variable {c : Cx} {n m : Nat} {α β : Type} {h : Heap}
theorem Ok.mono {t : Sem α} {P P' : α → Heap → Prop} (x : Ok c n t P h) (hp : ∀ a h', P a h' → P' a h') : Ok c n t P' h :=
 fun A d tk r => wpAny_mono (x A d tk r) (fun a s' q => ⟨q.1, q.2.1, hp _ _ q.2.2⟩) (fun u_ u_ e => e)
theorem Ok.room {t : Sem α} {P : α → Heap → Prop} (x : Ok c n t P h) (hn : n ≤ m) : Ok c m t P h := fun A d tk r => x A d tk (r.mono hn)
theorem OkC.mono {cd : Code} {P P' : Flow → Heap → Prop} (x : OkC c n cd P h) (hp : ∀ a h', P a h' → P' a h') : OkC c n cd P' h :=
 fun A d tk r => codeAny_mono (x A d tk r) (fun r s' q => match r with | .ok _ => ⟨q.1, q.2.1, hp _ _ q.2.2⟩ | .error _ => q)
theorem OkC.room {cd : Code} {P : Flow → Heap → Prop} (x : OkC c n cd P h) (hn : n ≤ m) : OkC c m cd P h := fun A d tk r => x A d tk (r.mono hn)
theorem Ok.use {A : Around} {t : Sem α} {P : α → Heap → Prop} {Q : α → Shared → Prop} {E : Value → Shared → Prop} {d tk} (x : Ok c n t P h) (r : Room A n)
  (q : ∀ a h' d' tk', P a h' → Q a (c.at h' d' tk')) : wpAny c.M A t Q E (c.at h d tk) :=
 wpAny_mono (x A d tk r) (fun a s' z => by obtain ⟨h1, g1, d1, t1, o1⟩ := s'; obtain ⟨rfl, rfl, z⟩ := z; exact q _ _ _ _ z) (fun u_ u_ e => e.elim)
theorem ok_pure {a : α} {P : α → Heap → Prop} (p : P a h) : Ok c n (pure a) P h := fun u_ u_ u_ u_ => wpAny_pure ⟨rfl, rfl, p⟩
theorem ok_bind {t : Sem α} {f : α → Sem β} {P : β → Heap → Prop} (x : Ok c n t (fun a h' => Ok c n (f a) P h') h) : Ok c n (t >>= f) P h :=
 fun u_ u_ u_ r => wpAny_bind (x.use r fun u_ u_ u_ u_ z => z _ _ _ r)
theorem ok_holding {vs : List Value} {t : Sem α} {P : α → Heap → Prop} (x : Ok c n t P h) : Ok c n (holding vs t) P h := fun A d tk r => wpAny_holding (x A d tk r)
theorem ok_rule {tag : String} {P : Unit → Heap → Prop} (p : P () h) : Ok c n (rule tag) P h := fun u_ u_ u_ u_ => wpAny_rule ⟨rfl, rfl, p⟩
theorem ok_standAt {pos : Pos} {P : Unit → Heap → Prop} (p : P () h) : Ok c n (standAt pos) P h := fun u_ u_ u_ u_ => wpAny_standAt ⟨rfl, rfl, p⟩
theorem ok_load {a : Addr} {o : Obj} {P : Obj → Heap → Prop} (e : h.get? a = some o) (p : P o h) : Ok c n (load a) P h := fun u_ u_ u_ u_ => wpAny_load e ⟨rfl, rfl, p⟩
theorem ok_call {f : Value} {pos : List Value} {kw : List (Str × Value)} {P : VP} (x : OkC c n (.call f ⟨pos, kw⟩) (fun fl h' => ∃ v, fl = .ret v ∧ P v h') h) : Ok c n (call f pos kw) P h :=
 fun A d tk r => wpAny_call (codeAny_mono (x A d tk r) (fun r s' q => by
  cases r with
  | error _ => exact q
  | ok fl => obtain ⟨h1, h2, v, rfl, p⟩ := q; exact ⟨h1, h2, p⟩))
end
section
variable {c : Cx} {n : Nat} {h : Heap} {env : Env}
theorem ok_execs_nil {P : Flow → Heap → Prop} (p : P .next h) : Ok c n (execs [] env) P h := ok_pure p
theorem ok_execs_cons {st : Stmt} {rest : List Stmt} {P : Flow → Heap → Prop} (x : Ok c n (exec st env) (fun f h' => match f with | .next => Ok c n (execs rest env) P h' | f => P f h') h) : Ok c n (execs (st :: rest) env) P h :=
 fun A d tk r => wpAny_execs_cons (x.use r fun f h' d' tk' z => by cases f <;> first | exact z _ _ _ r | exact ⟨rfl, rfl, z⟩)
theorem ok_If {test : PySem.Expr} {body orelse : List Stmt} {pos : Pos} {P : Flow → Heap → Prop}
  (x : Ok c n (isTrue test env (eval test env)) (fun b h' => (b = true → Ok c n (execs body env) P h') ∧ (b = false → Ok c n (execs orelse env) P h')) h) : Ok c n (exec (.If test body orelse pos) env) P h :=
 fun A d tk r => wpAny_If (x.use r fun b h' d' tk' z => by cases b <;> first | exact z.2 rfl _ _ _ r | exact z.1 rfl _ _ _ r)
theorem ok_Return {e : PySem.Expr} {pos : Pos} {P : Flow → Heap → Prop} (x : Ok c n (eval e env) (fun v h' => P (.ret v) h') h) : Ok c n (exec (.Return (some e) pos) env) P h :=
 fun A d tk r => wpAny_Return_some (x A d tk r)
theorem ok_Continue {pos : Pos} {P : Flow → Heap → Prop} (p : P .cont h) : Ok c n (exec (.Continue pos) env) P h := ok_bind (ok_standAt (ok_pure p))
theorem ok_Assign_Name {x : Str} {p' : Pos} {value : PySem.Expr} {pos : Pos} {P : Flow → Heap → Prop}
  (y : Ok c n (eval value env) (fun v h₁ => Ok c n (storeName env x v) (fun u_ => P .next) h₁) h)
  (hs : swapsWith value (some (.Name x p')) pos.line env = pure false) : Ok c n (exec (.Assign [.Name x p'] value pos) env) P h :=
 fun A d tk r => wpAny_Assign_Name (y.use r fun v h' d' tk' z => z _ _ _ r) hs
theorem ok_AugAssign_Name {x : Str} {p' : Pos} {op : Operator} {value : PySem.Expr} {pos : Pos} {P : Flow → Heap → Prop}
  (y : Ok c n (loadName env x) (fun old h₁ => Ok c n (eval value env) (fun v h₂ => Ok c n (inplaceOp op old v) (fun r h₃ => Ok c n (storeName env x r) (fun u_ => P .next) h₃) h₂) h₁) h) : Ok c n (exec (.AugAssign (.Name x p') op value pos) env) P h :=
 fun A d tk r => wpAny_AugAssign_Name (y.use r fun u_ u_ u_ u_ z => z.use r fun u_ u_ u_ u_ z => z.use r fun u_ u_ u_ u_ z => z _ _ _ r)
noncomputable abbrev kBin (op : Operator) (c : Cx) (n : Nat) (P : VP) (a : Value) : Value → Heap → Prop := fun b h => Ok c n (binaryOp op a b) P h
noncomputable abbrev kBin1 (r : PySem.Expr) (op : Operator) (env : Env) (c : Cx) (n : Nat) (P : VP) : Value → Heap → Prop := fun a h => Ok c n (eval r env) (kBin op c n P a) h
noncomputable abbrev kCmp (op : CmpOp) (c : Cx) (n : Nat) (P : VP) (a : Value) : Value → Heap → Prop := fun b h => Ok c n (compareOp op a b) P h
noncomputable abbrev kCmp1 (r : PySem.Expr) (op : CmpOp) (env : Env) (c : Cx) (n : Nat) (P : VP) : Value → Heap → Prop := fun a h => Ok c n (eval r env) (kCmp op c n P a) h
noncomputable abbrev kTru (c : Cx) (n : Nat) (P : Bool → Heap → Prop) : Value → Heap → Prop := fun v h => Ok c n (truthy v) P h
noncomputable abbrev kRest (rest : List Stmt) (env : Env) (c : Cx) (n : Nat) (P : Flow → Heap → Prop) {α : Type} : α → Heap → Prop := fun u_ h => Ok c n (execs rest env) P h
noncomputable abbrev kSet (x : Str) (rest : List Stmt) (env : Env) (c : Cx) (n : Nat) (P : Flow → Heap → Prop) : Value → Heap → Prop := fun v h => Ok c n (storeName env x v) (kRest rest env c n P) h
noncomputable abbrev kAug2 (op : Operator) (c : Cx) (n : Nat) (K : VP) (old : Value) : Value → Heap → Prop := fun v h => Ok c n (inplaceOp op old v) K h
noncomputable abbrev kAug1 (value : PySem.Expr) (op : Operator) (env : Env) (c : Cx) (n : Nat) (K : VP) : Value → Heap → Prop := fun old h => Ok c n (eval value env) (kAug2 op c n K old) h
noncomputable abbrev kIf (body orelse : List Stmt) (env : Env) (c : Cx) (n : Nat) (P : Flow → Heap → Prop) : Bool → Heap → Prop := fun b h => (b = true → Ok c n (execs body env) P h) ∧ (b = false → Ok c n (execs orelse env) P h)
noncomputable abbrev kIfE (body orelse : PySem.Expr) (env : Env) (c : Cx) (n : Nat) (P : VP) : Bool → Heap → Prop := fun b h => (b = true → Ok c n (eval body env) P h) ∧ (b = false → Ok c n (eval orelse env) P h)
noncomputable abbrev kAnd (es : List PySem.Expr) (pos : Pos) (env : Env) (c : Cx) (n : Nat) (P : Bool → Heap → Prop) : Bool → Heap → Prop := fun b h => (b = true → Ok c n (isTrue (.BoolOp .And es pos) env (eval (.BoolOp .And es pos) env)) P h) ∧ (b = false → P false h)
noncomputable abbrev kOr (es : List PySem.Expr) (pos : Pos) (env : Env) (c : Cx) (n : Nat) (P : Bool → Heap → Prop) : Bool → Heap → Prop := fun b h => (b = false → Ok c n (isTrue (.BoolOp .Or es pos) env (eval (.BoolOp .Or es pos) env)) P h) ∧ (b = true → P true h)
noncomputable abbrev kNot (P : Bool → Heap → Prop) : Bool → Heap → Prop := fun b h => P (!b) h
noncomputable abbrev kRet (P : Flow → Heap → Prop) : Value → Heap → Prop := fun v h => P (.ret v) h
noncomputable abbrev kList (c : Cx) (n : Nat) (P : VP) : List Value → Heap → Prop := fun vs h => Ok c n (newList vs) P h
noncomputable abbrev kFor2 (target : PySem.Expr) (body orelse : List Stmt) (env : Env) (c : Cx) (n : Nat) (P : Flow → Heap → Prop) : Value → Heap → Prop := fun it h => OkC c n (.forLoop target it body orelse env) P h
noncomputable abbrev kFor1 (target : PySem.Expr) (body orelse : List Stmt) (env : Env) (c : Cx) (n : Nat) (P : Flow → Heap → Prop) : Value → Heap → Prop := fun v h => Ok c n (pyIter v) (kFor2 target body orelse env c n P) h
noncomputable abbrev kAttr (attr : Str) (c : Cx) (n : Nat) (P : VP) : Value → Heap → Prop := fun o h => Ok c n (getAttr o attr true) P h
noncomputable abbrev kCons (P : List Value → Heap → Prop) (v : Value) : List Value → Heap → Prop := fun vs h => P (v :: vs) h
noncomputable abbrev kArg (pos : Pos) (es : List PySem.Expr) (env : Env) (c : Cx) (n : Nat) (P : List Value → Heap → Prop) : Value → Heap → Prop := fun v h => Ok c n (spliced (backTo pos (starEach es env))) (kCons P v) h
noncomputable abbrev kUn (op : UnaryOp) (c : Cx) (n : Nat) (P : VP) : Value → Heap → Prop := fun v h => Ok c n (unaryOp op v) P h
noncomputable abbrev kAsg (target : PySem.Expr) (rest : List Stmt) (env : Env) (c : Cx) (n : Nat) (P : Flow → Heap → Prop) : Value → Heap → Prop := fun v h => Ok c n (assign target env v) (kRest rest env c n P) h
noncomputable abbrev kAio (fs : List (Value → Sem Unit)) (us : List Value) (c : Cx) (n : Nat) (P : Unit → Heap → Prop) : Unit → Heap → Prop := fun u_ h => Ok c n (assignInOrder fs us) P h
noncomputable abbrev kFn (P : VP) : Flow → Heap → Prop := fun f h => P (match f with | .ret v => v | _ => .none) h
noncomputable abbrev kSA2 (attr : Str) (rest : List Stmt) (env : Env) (c : Cx) (n : Nat) (P : Flow → Heap → Prop) (v : Value) : Value → Heap → Prop := fun ov h => Ok c n (setAttr ov attr v) (kRest rest env c n P) h
noncomputable abbrev kSA1 (o : PySem.Expr) (attr : Str) (rest : List Stmt) (env : Env) (c : Cx) (n : Nat) (P : Flow → Heap → Prop) : Value → Heap → Prop := fun v h => Ok c n (eval o env) (kSA2 attr rest env c n P v) h
noncomputable abbrev kSI3 (rest : List Stmt) (env : Env) (c : Cx) (n : Nat) (P : Flow → Heap → Prop) (v ov : Value) : Value → Heap → Prop := fun iv h => Ok c n (setItem ov iv v) (kRest rest env c n P) h
noncomputable abbrev kSI2 (i : PySem.Expr) (rest : List Stmt) (env : Env) (c : Cx) (n : Nat) (P : Flow → Heap → Prop) (v : Value) : Value → Heap → Prop := fun ov h => Ok c n (eval i env) (kSI3 rest env c n P v ov) h
noncomputable abbrev kSI1 (o i : PySem.Expr) (rest : List Stmt) (env : Env) (c : Cx) (n : Nat) (P : Flow → Heap → Prop) : Value → Heap → Prop := fun v h => Ok c n (eval o env) (kSI2 i rest env c n P v) h
theorem ok_Name {x : Str} {pos : Pos} {P : VP} (hd : (x == ("__debug__" : Str)) = false) (y : Ok c n (loadName env x) P h) : Ok c n (eval (.Name x pos) env) P h :=
 fun A d tk r => wpAny_Name (y A d tk r) hd
theorem ok_str {x : Str} {k : Nat} {pos : Pos} {P : VP} (p : ∀ t, P (.str x t) h) : Ok c n (eval (.Constant (.str x) k pos) env) P h := fun u_ u_ u_ u_ => wpAny_mkText ⟨rfl, rfl, p _⟩
theorem ok_int {i : Int} {k : Nat} {pos : Pos} {P : VP} (p : ∀ t, P (.int i t) h) : Ok c n (eval (.Constant (.int i) k pos) env) P h := fun u_ u_ u_ u_ => wpAny_mkInt ⟨rfl, rfl, p _⟩
theorem ok_none {k : Nat} {pos : Pos} {P : VP} (p : P .none h) : Ok c n (eval (.Constant .none k pos) env) P h := ok_pure p
theorem ok_BinOp {l r : PySem.Expr} {op : Operator} {pos : Pos} {P : VP} (x : Ok c n (eval l env) (kBin1 r op env c n P) h) : Ok c n (eval (.BinOp l op r pos) env) P h :=
 fun A d tk r => wpAny_BinOp (x.use r fun u_ u_ u_ u_ z => z.use r fun u_ u_ u_ u_ z => z _ _ _ r)
theorem ok_Compare {l r : PySem.Expr} {op : CmpOp} {pos : Pos} {P : VP} (hm : behindInMarks op r = false) (x : Ok c n (eval l env) (kCmp1 r op env c n P) h) : Ok c n (eval (.Compare l [op] [r] pos) env) P h :=
 fun A d tk r => wpAny_Compare1 (x.use r fun u_ u_ u_ u_ z => z.use r fun u_ u_ u_ u_ z => z _ _ _ r) hm
theorem ok_isTrue_Compare {l r : PySem.Expr} {op : CmpOp} {pos : Pos} {whole : Sem Value} {P : Bool → Heap → Prop} (hm : behindInMarks op r = false)
  (x : Ok c n (eval l env) (kCmp1 r op env c n (kTru c n P)) h) : Ok c n (isTrue (.Compare l [op] [r] pos) env whole) P h :=
 fun A d tk r => wpAny_isTrue_Compare1 (x.use r fun u_ u_ u_ u_ z => z.use r fun u_ u_ u_ u_ z => z.use r fun u_ u_ u_ u_ z => z _ _ _ r) hm
theorem ok_truthy_bool {b : Bool} {P : Bool → Heap → Prop} (p : P b h) : Ok c n (truthy (.bool b)) P h := fun u_ u_ u_ u_ => wpAny_truthy_bool ⟨rfl, rfl, p⟩
end
structure TopR (c : Cx) (g : Heap) : Prop where
 k : c.K.In g
 b : ∃ mb, g.Ns builtinsNs mb ∧ ∀ x : Str, x ≠ "__name__" → mb x = bootBuiltins x
 gl : ∃ mg, g.Ns mainGlobals mg ∧ ∃ bm ob, mg "__builtins__" = some (.ref bm) ∧ bm ≠ builtinsNs ∧ g.get? bm = some ob ∧ ob.cls = .type "module" ∧ ob.dict = some builtinsNs ∧ ob.data = .plain
 nl : g.NoLimit
 ndg : ∃ mc, g.Ns cStatics mc ∧ mc "sys.int_max_str_digits" = none
theorem TopR.keeps {c : Cx} {g h : Heap} (T : TopR c g) (k : ∀ b o, g.get? b = some o → h.get? b = some o) : TopR c h :=
 ⟨fun a o e => k _ _ (T.k a o e), T.b.imp fun u_ x => ⟨x.1.keeps k, x.2⟩, T.gl.imp fun u_ x => ⟨x.1.keeps k, x.2.imp fun u_ y => y.imp fun u_ z => ⟨z.1, z.2.1, k _ _ z.2.2.1, z.2.2.2⟩⟩, T.nl.keeps k, T.ndg.imp fun u_ x => ⟨x.1.keeps k, x.2⟩⟩
noncomputable abbrev Led := List (Addr × (Obj → Prop))
structure St (c : Cx) (g h : Heap) (l : Led) : Prop where
 top : TopR c g
 keep : ∀ b o, g.get? b = some o → h.get? b = some o
 at_ : ∀ p ∈ l, ∃ o, h.get? p.1 = some o ∧ p.2 o
 nd : (l.map (·.1)).Nodup
 off : ∀ p ∈ l, g.get? p.1 = none
 low : ∀ p ∈ l, 2 < p.1
inductive At : Led → Addr → (Obj → Prop) → Prop
 | here {a : Addr} {P : Obj → Prop} {r : Led} : At ((a, P) :: r) a P
 | there {e : Addr × (Obj → Prop)} {a : Addr} {P : Obj → Prop} {r : Led} : At r a P → At (e :: r) a P
inductive Up : Led → Addr → (Obj → Prop) → (Obj → Prop) → Led → Prop
 | here {a : Addr} {P P' : Obj → Prop} {r : Led} : Up ((a, P) :: r) a P P' ((a, P') :: r)
 | there {e : Addr × (Obj → Prop)} {a : Addr} {P P' : Obj → Prop} {r r' : Led} : Up r a P P' r' → Up (e :: r) a P P' (e :: r')
section
variable {e0 e1 e2 e3 e4 e5 e6 e7 e8 e9 e10 e11 : Addr × (Obj → Prop)} {a : Addr} {P : Obj → Prop} {r : Led}
theorem At.i1 : At (e0 :: (a, P) :: r) a P := .there .here
theorem At.i2 : At (e0 :: e1 :: (a, P) :: r) a P := .there .i1
theorem At.i3 : At (e0 :: e1 :: e2 :: (a, P) :: r) a P := .there .i2
theorem At.i4 : At (e0 :: e1 :: e2 :: e3 :: (a, P) :: r) a P := .there .i3
theorem At.i5 : At (e0 :: e1 :: e2 :: e3 :: e4 :: (a, P) :: r) a P := .there .i4
theorem At.i6 : At (e0 :: e1 :: e2 :: e3 :: e4 :: e5 :: (a, P) :: r) a P := .there .i5
theorem At.i7 : At (e0 :: e1 :: e2 :: e3 :: e4 :: e5 :: e6 :: (a, P) :: r) a P := .there .i6
theorem At.i8 : At (e0 :: e1 :: e2 :: e3 :: e4 :: e5 :: e6 :: e7 :: (a, P) :: r) a P := .there .i7
theorem At.i9 : At (e0 :: e1 :: e2 :: e3 :: e4 :: e5 :: e6 :: e7 :: e8 :: (a, P) :: r) a P := .there .i8
theorem At.i10 : At (e0 :: e1 :: e2 :: e3 :: e4 :: e5 :: e6 :: e7 :: e8 :: e9 :: (a, P) :: r) a P := .there .i9
end
section
variable {e0 e1 e2 e3 e4 e5 e6 e7 e8 e9 e10 e11 : Addr × (Obj → Prop)} {a : Addr} {P P' : Obj → Prop} {r : Led}
theorem Up.i1 : Up (e0 :: (a, P) :: r) a P P' (e0 :: (a, P') :: r) := .there .here
theorem Up.i2 : Up (e0 :: e1 :: (a, P) :: r) a P P' (e0 :: e1 :: (a, P') :: r) := .there .i1
theorem Up.i3 : Up (e0 :: e1 :: e2 :: (a, P) :: r) a P P' (e0 :: e1 :: e2 :: (a, P') :: r) := .there .i2
theorem Up.i4 : Up (e0 :: e1 :: e2 :: e3 :: (a, P) :: r) a P P' (e0 :: e1 :: e2 :: e3 :: (a, P') :: r) := .there .i3
theorem Up.i5 : Up (e0 :: e1 :: e2 :: e3 :: e4 :: (a, P) :: r) a P P' (e0 :: e1 :: e2 :: e3 :: e4 :: (a, P') :: r) := .there .i4
theorem Up.i6 : Up (e0 :: e1 :: e2 :: e3 :: e4 :: e5 :: (a, P) :: r) a P P' (e0 :: e1 :: e2 :: e3 :: e4 :: e5 :: (a, P') :: r) := .there .i5
theorem Up.i7 : Up (e0 :: e1 :: e2 :: e3 :: e4 :: e5 :: e6 :: (a, P) :: r) a P P' (e0 :: e1 :: e2 :: e3 :: e4 :: e5 :: e6 :: (a, P') :: r) := .there .i6
theorem Up.i8 : Up (e0 :: e1 :: e2 :: e3 :: e4 :: e5 :: e6 :: e7 :: (a, P) :: r) a P P' (e0 :: e1 :: e2 :: e3 :: e4 :: e5 :: e6 :: e7 :: (a, P') :: r) := .there .i7
end
theorem At.mem {l : Led} {a : Addr} {P : Obj → Prop} (x : At l a P) : (a, P) ∈ l := by
 induction x with
 | here => exact List.mem_cons_self
 | there _ ih => exact List.mem_cons_of_mem _ ih
theorem Up.mem {l l' : Led} {a : Addr} {P P' : Obj → Prop} (x : Up l a P P' l') : (a, P) ∈ l := by
 induction x with
 | here => exact List.mem_cons_self
 | there _ ih => exact List.mem_cons_of_mem _ ih
theorem Up.mem2 {l l' : Led} {a : Addr} {P P' : Obj → Prop} (x : Up l a P P' l') : (a, P') ∈ l' := by
 induction x with
 | here => exact List.mem_cons_self
 | there _ ih => exact List.mem_cons_of_mem _ ih
theorem Up.keys {l l' : Led} {a : Addr} {P P' : Obj → Prop} (x : Up l a P P' l') : l'.map (·.1) = l.map (·.1) := by
 induction x with
 | here => rfl
 | there _ ih => simp -iota [ih]
theorem Up.mem' {l l' : Led} {a : Addr} {P P' : Obj → Prop} (x : Up l a P P' l') (nd : (l.map (·.1)).Nodup) {p : Addr × (Obj → Prop)} (hp : p ∈ l') : p = (a, P') ∨ (p ∈ l ∧ p.1 ≠ a) := by
 induction x with
 | @here a P P' r =>
  rcases List.mem_cons.mp hp with e | hp
  ·exact .inl e
  ·refine .inr ⟨List.mem_cons_of_mem _ hp, fun e => ?_⟩
   rw [List.map_cons, List.nodup_cons] at nd
   exact nd.1 (by have q := List.mem_map_of_mem (f := Prod.fst) hp; rw [e] at q; exact q)
 | @there e a P P' r r' u ih =>
  rw [List.map_cons, List.nodup_cons] at nd
  rcases List.mem_cons.mp hp with e' | hp
  ·subst e'
   refine .inr ⟨List.mem_cons_self, fun e => nd.1 ?_⟩
   rw [e]; exact List.mem_map_of_mem (f := Prod.fst) u.mem
  ·rcases ih nd.2 hp with q | q
   ·exact .inl q
   ·exact .inr ⟨List.mem_cons_of_mem _ q.1, q.2⟩
section
variable {c : Cx} {g h h' : Heap} {l l' : Led} {a : Addr} {P P' : Obj → Prop}
theorem St.get (S : St c g h l) (x : At l a P) : ∃ o, h.get? a = some o ∧ P o := S.at_ _ x.mem
theorem St.topH (S : St c g h l) : TopR c h := S.top.keeps S.keep
theorem St.lowUp (S : St c g h l) (U : Up l a P P' l') : ∀ p ∈ l', 2 < p.1 := fun p hp => by
 rcases U.mem' S.nd hp with rfl | ⟨hp, ne⟩
 ·exact S.low (a, P) U.mem
 ·exact S.low p hp
theorem St.upd (S : St c g h l) (U : Up l a P P' l') (hs : Heap.SameBut a h h') (q : ∃ o, h'.get? a = some o ∧ P' o) : St c g h' l' := by
 refine ⟨S.top, fun b o e => (hs.2 b ?_).trans (S.keep b o e), fun p hp => ?_, by rw [U.keys]; exact S.nd, fun p hp => ?_, S.lowUp U⟩
 ·intro e'; subst e'; have := S.off _ U.mem; rw [e] at this; cases this
 ·rcases U.mem' S.nd hp with rfl | ⟨hp, ne⟩
  ·exact q
  ·obtain ⟨o, ho, po⟩ := S.at_ p hp
   exact ⟨o, (hs.2 _ ne).trans ho, po⟩
 ·rcases U.mem' S.nd hp with rfl | ⟨hp, ne⟩
  ·exact S.off (a, P) U.mem
  ·exact S.off p hp
theorem St.big (S : St c g h l) : 2 < h.objs.size := S.topH.nl.elim fun u_ x => x.1.lt
theorem St.push (S : St c g h l) {o : Obj} (hf : o.isFreed = false) (q : P o) : St c g (h.push o) ((h.objs.size, P) :: l) := by
 refine ⟨S.top, fun b o' e => Heap.get?_push_of_some _ (S.keep b o' e), fun p hp => ?_, ?_, fun p hp => ?_, fun p hp => ?_⟩
 ·rcases List.mem_cons.mp hp with rfl | hp
  ·exact ⟨o, Heap.get?_push_size _ hf, q⟩
  ·obtain ⟨o', ho, po⟩ := S.at_ p hp
   exact ⟨o', Heap.get?_push_of_some _ ho, po⟩
 ·rw [List.map_cons, List.nodup_cons]
  refine ⟨fun hm => ?_, S.nd⟩
  obtain ⟨p, hp, e⟩ := List.mem_map.mp hm
  obtain ⟨o', ho, _⟩ := S.at_ p hp
  have hl : p.1 < h.objs.size := Heap.lt_size ho
  have e' : p.1 = h.objs.size := e
  exact absurd (e' ▸ hl) (Nat.lt_irrefl _)
 ·rcases List.mem_cons.mp hp with rfl | hp
  ·cases q' : g.get? h.objs.size with
   | none => rfl
   | some o' => exact absurd (Heap.lt_size (S.keep _ _ q')) (Nat.lt_irrefl _)
  ·exact S.off p hp
 ·rcases List.mem_cons.mp hp with rfl | hp
  ·exact S.big
  ·exact S.low p hp
theorem St.sub (S : St c g h l) (hm : ∀ p ∈ l', p ∈ l) (nd : (l'.map (·.1)).Nodup) : St c g h l' :=
 ⟨S.top, S.keep, fun p hp => S.at_ p (hm p hp), nd, fun p hp => S.off p (hm p hp), fun p hp => S.low p (hm p hp)⟩
theorem St.tail {e : Addr × (Obj → Prop)} (S : St c g h (e :: l)) : St c g h l :=
 S.sub (fun p hp => List.mem_cons_of_mem _ hp) (by have := S.nd; rw [List.map_cons, List.nodup_cons] at this; exact this.2)
theorem St.right {l₁ : Led} (S : St c g h (l₁ ++ l)) : St c g h l :=
 S.sub (fun p hp => List.mem_append_right _ hp) (by have := S.nd; rw [List.map_append, List.nodup_append] at this; exact this.2.1)
theorem St.weak (S : St c g h l) (U : Up l a P P' l') (hw : ∀ o, P o → P' o) : St c g h l' := by
 obtain ⟨o, ho, po⟩ := S.at_ _ U.mem
 exact S.upd U (Heap.SameBut.refl ..) ⟨o, ho, hw o po⟩
noncomputable def Same (W : List Addr) (h h' : Heap) : Prop := ∀ b o, b ∉ W → h.get? b = some o → h'.get? b = some o
theorem Same.refl (W : List Addr) (h : Heap) : Same W h h := fun u_ u_ u_ e => e
theorem St.same0 (S : St c g h l) (s : Same [] h h') : St c g h' l :=
 ⟨S.top, fun b o e => s b o (by simp -iota) (S.keep b o e), fun p hp => (S.at_ p hp).imp fun u_ x => ⟨s _ _ (by simp -iota) x.1, x.2⟩, S.nd, S.off, S.low⟩
theorem St.same1 (S : St c g h l) (s : Same [a] h h') (U : Up l a P P' l') (q : ∃ o, h'.get? a = some o ∧ P' o) : St c g h' l' := by
 refine ⟨S.top, fun b o e => s b o ?_ (S.keep b o e), fun p hp => ?_, by rw [U.keys]; exact S.nd, fun p hp => ?_, S.lowUp U⟩
 ·intro e'; rw [List.mem_singleton] at e'; subst e'; have := S.off _ U.mem; rw [e] at this; cases this
 ·rcases U.mem' S.nd hp with rfl | ⟨hp, ne⟩
  ·exact q
  ·obtain ⟨o, ho, po⟩ := S.at_ p hp
   exact ⟨o, s _ _ (by simpa -iota using ne) ho, po⟩
 ·rcases U.mem' S.nd hp with rfl | ⟨hp, ne⟩
  ·exact S.off (a, P) U.mem
  ·exact S.off p hp
end
noncomputable def cnt : List (Str × Option Value) → Nat
 | [] => 0
 | (_, some _) :: r => cnt r + 1
 | (_, none) :: r => cnt r
theorem cnt_le : ∀ m : List (Str × Option Value), cnt m ≤ m.length
 | [] => Nat.le_refl _
 | (_, some _) :: r => Nat.succ_le_succ (cnt_le r)
 | (_, none) :: r => Nat.le_succ_of_le (cnt_le r)
noncomputable def isNs (m : List (Str × Option Value)) : Obj → Prop := fun o => ∃ es ep, o.data = .dict es ep ∧ StrKeys es ∧ (∀ x, nsFind es x = (m.lookup x).join) ∧ (m.map (·.1)).Nodup ∧ es.size = cnt m
noncomputable def isCell (v : Option Value) : Obj → Prop := fun o => o.data = .cell v
inductive Has : List (Str × Option Value) → Str → Value → Prop
 | here {x : Str} {v : Value} {r : List (Str × Option Value)} : Has ((x, some v) :: r) x v
 | there {e : Str × Option Value} {x : Str} {v : Value} {r : List (Str × Option Value)} : Has r x v → Has (e :: r) x v
inductive Put : List (Str × Option Value) → Str → Value → List (Str × Option Value) → Prop
 | here {x : Str} {u : Option Value} {v : Value} {r : List (Str × Option Value)} : Put ((x, u) :: r) x v ((x, some v) :: r)
 | there {e : Str × Option Value} {x : Str} {v : Value} {r r' : List (Str × Option Value)} : Put r x v r' → Put (e :: r) x v (e :: r')
section
variable {e0 e1 e2 e3 e4 e5 e6 e7 e8 e9 e10 e11 : Str × Option Value} {x : Str} {v : Value} {r : List (Str × Option Value)}
theorem Has.i1 : Has (e0 :: (x, some v) :: r) x v := .there .here
theorem Has.i2 : Has (e0 :: e1 :: (x, some v) :: r) x v := .there .i1
theorem Has.i3 : Has (e0 :: e1 :: e2 :: (x, some v) :: r) x v := .there .i2
end
section
variable {e0 e1 e2 e3 e4 e5 e6 e7 e8 e9 e10 e11 : Str × Option Value} {x : Str} {u : Option Value} {v : Value} {r : List (Str × Option Value)}
theorem Put.i1 : Put (e0 :: (x, u) :: r) x v (e0 :: (x, some v) :: r) := .there .here
theorem Put.i2 : Put (e0 :: e1 :: (x, u) :: r) x v (e0 :: e1 :: (x, some v) :: r) := .there .i1
theorem Put.i3 : Put (e0 :: e1 :: e2 :: (x, u) :: r) x v (e0 :: e1 :: e2 :: (x, some v) :: r) := .there .i2
end
theorem Has.lookup {m : List (Str × Option Value)} {x : Str} {v : Value} (a : Has m x v) (nd : (m.map (·.1)).Nodup) : m.lookup x = some (some v) := by
 have mem : (x, some v) ∈ m := by
  clear nd
  induction a with
  | here => exact List.mem_cons_self
  | there _ ih => exact List.mem_cons_of_mem _ ih
 clear a
 induction m with
 | nil => cases mem
 | cons e r ih =>
  obtain ⟨y, u⟩ := e
  rw [List.map_cons, List.nodup_cons] at nd
  rw [List.lookup_cons]
  rcases List.mem_cons.mp mem with e | mem
  ·cases e; simp
  ·have : (x == y) = false := beq_eq_false_iff_ne.mpr (fun e => nd.1 (by have q := List.mem_map_of_mem (f := Prod.fst) mem; rw [e] at q; exact q))
   rw [this]; exact ih nd.2 mem
theorem Put.keys {m m' : List (Str × Option Value)} {x : Str} {v : Value} (a : Put m x v m') : m'.map (·.1) = m.map (·.1) := by
 induction a with
 | here => rfl
 | there _ ih => simp -iota [ih]
theorem Put.mem {m m' : List (Str × Option Value)} {x : Str} {v : Value} (a : Put m x v m') : x ∈ m.map (·.1) := by
 induction a with
 | here => simp -iota
 | there _ ih => simp -iota only [List.map_cons, List.mem_cons]; exact .inr ih
theorem Put.lookup {m m' : List (Str × Option Value)} {x : Str} {v : Value} (a : Put m x v m') (nd : (m.map (·.1)).Nodup) (y : Str) : m'.lookup y = if y = x then some (some v) else m.lookup y := by
 induction a with
 | @here x u v r =>
  simp only [List.lookup_cons]
  by_cases h : y = x
  ·subst h; simp
  ·have : (y == x) = false := beq_eq_false_iff_ne.mpr h
   simp [this, h]
 | @there e x v r r' q ih =>
  obtain ⟨z, u⟩ := e
  rw [List.map_cons, List.nodup_cons] at nd
  simp only [List.lookup_cons]
  by_cases h : y = z
  ·subst h
   have : y ≠ x := fun e => nd.1 (by rw [e]; exact q.mem)
   simp [this]
  ·have : (y == z) = false := beq_eq_false_iff_ne.mpr h
   simp only [this]
   exact ih nd.2
theorem isNs.ns {h : Heap} {a : Addr} {m : List (Str × Option Value)} (x : ∃ o, h.get? a = some o ∧ isNs m o) : h.Ns a (fun y => (m.lookup y).join) := by
 obtain ⟨o, ho, es, ep, hd, hk, hm, _⟩ := x
 exact ⟨o, es, ep, ho, hd, hk, hm⟩
theorem isNs.nd {h : Heap} {a : Addr} {m : List (Str × Option Value)} (x : ∃ o, h.get? a = some o ∧ isNs m o) : (m.map (·.1)).Nodup := by
 obtain ⟨o, ho, es, ep, hd, hk, hm, nd, _⟩ := x; exact nd
theorem Put.cnt {m m' : List (Str × Option Value)} {x : Str} {v : Value} (a : Put m x v m') (nd : (m.map (·.1)).Nodup) : cnt m' = cnt m + if (m.lookup x).join.isSome then 0 else 1 := by
 induction a with
 | @here x u v r =>
  cases u
  ·show Mine.cnt _ + 1 = Mine.cnt _ + _; simp -iota; rfl
  ·show Mine.cnt _ + 1 = Mine.cnt _ + 1 + _; simp -iota
 | @there e x v r r' q ih =>
  obtain ⟨z, u⟩ := e
  rw [List.map_cons, List.nodup_cons] at nd
  have ne : x ≠ z := fun e => nd.1 (by rw [← e]; exact q.mem)
  have hb : (x == z) = false := beq_eq_false_iff_ne.mpr ne
  have := ih nd.2
  rw [List.lookup_cons, hb]
  cases u
  ·exact this
  ·show Mine.cnt _ + 1 = Mine.cnt _ + 1 + _; rw [this, Nat.add_right_comm]
theorem isNs.put {m m' : List (Str × Option Value)} {x : Str} {v : Value} (H : Put m x v m') {o : Obj} (q : isNs m o) (hash : Int) (t : Tok) : isNs m' (Obj.putName x hash (.str x t) v o) := by
 obtain ⟨es, ep, hd, hk, hm, nd, sz⟩ := q
 obtain ⟨oc, od, dt, sl⟩ := o
 simp only at hd
 subst hd
 have hl := H.lookup nd
 have hn := H.cnt nd
 rw [← hm] at hn
 have fb := findBy_of_findIdx? (fun n (v : Value) => v.isStr n) es x
 rw [Obj.putName_eq]
 unfold Obj.putNameByArray
 cases hi : es.findIdx? (·.key.isStr x) with
 | some i =>
  have hsome : (nsFind es x).isSome = true := by
   unfold nsFind; rw [fb, hi]
   have := (Array.findIdx?_eq_some_iff_findIdx_eq.mp hi).1
   simp [this]
  simp only [hi]
  refine ⟨es.modify i fun e => { e with val := v }, ep, rfl, hk.modify i v, fun y => ?_, by rw [H.keys]; exact nd, by rw [Array.size_modify, sz, hn, hsome]; rfl⟩
  show nsFind _ y = _
  rw [hl]
  have := findBy_modify (fun n (v : Value) => v.isStr n) Value.isStr_inj es x y v i hi
  refine this.trans ?_
  split
  ·rfl
  ·exact hm y
 | none =>
  have hnone : (nsFind es x).isSome = false := by
   unfold nsFind; rw [fb, hi]; rfl
  simp only [hi]
  refine ⟨es.push ⟨hash, .str x t, v⟩, ep + 1, rfl, hk.push _ _ _ _, fun y => ?_, by rw [H.keys]; exact nd, by rw [Array.size_push, sz, hn, hnone]; rfl⟩
  show nsFind _ y = _
  rw [hl]
  have := findBy_push (fun n (v : Value) => v.isStr n) es x y hash (.str x t) v (fun z => by
   show (x == z) = decide (z = x)
   by_cases e : z = x
   ·subst e; simp
   ·have e' : ¬ x = z := fun q => e q.symm
    simp [e, e']) hi
  refine this.trans ?_
  split
  ·rfl
  ·exact hm y
theorem isNs.notFreed {m : List (Str × Option Value)} {o : Obj} (q : isNs m o) : o.isFreed = false := by
 obtain ⟨es, ep, hd, _⟩ := q
 exact Obj.isFreed_of_dict hd
theorem isCell.is {h : Heap} {a : Addr} {v : Option Value} (x : ∃ o, h.get? a = some o ∧ isCell v o) : h.IsCell a v := x
section
variable {c : Cx} {n : Nat} {g h : Heap} {l l' : Led} {env : Env} {x : Str} {v : Value} {m m' : List (Str × Option Value)} {L a : Addr}
theorem ok_ld {P : VP} (S : St c g h l) (hL : env.locals = L) (hk : env.scope.kind = .function) (hl : env.kindOf x = some .local) (A : At l L (isNs m)) (H : Has m x v) (p : P v h) : Ok c n (loadName env x) P h := by
 subst hL
 have q := S.get A
 exact fun u_ u_ u_ u_ => wpAny_loadName_local hk hl (isNs.ns q) (by rw [H.lookup (isNs.nd q)]; rfl) ⟨rfl, rfl, p⟩
theorem ok_nsSet {P : Unit → Heap → Prop} (S : St c g h l) (U : Up l a (isNs m) (isNs m') l') (H : Put m x v m')
  (p : ∀ h', St c g h' l' → P () h') : Ok c n (nsSet a x v) P h := by
 obtain ⟨o, ho, q⟩ := S.at_ _ U.mem
 intro A d tk r
 unfold nsSet strHash
 refine wpAny_bind (wpAny_bind (wpAny_askSetting (wpAny_pure (wpAny_bind (wpAny_mkText (wpAny_bind (wpAny_loadPart ho ?_)))))))
 have q0 := q
 obtain ⟨es, ep, hd, hk, -⟩ := q0
 have hany : es.any (·.refKey) = false := by
  rw [Array.any_eq_false']; intro e he; obtain ⟨n, t, h⟩ := hk e he; simp [DictEntry.refKey, h]
 simp only [hd, aRefKeyMayBeTheName_eq, aRefKeyMayBeTheNameByArray, hany, Bool.and_false, Bool.false_eq_true, if_false]
 have q2 := isNs.put H q (PyData.keyHash c.w.params x) tk
 exact wpAny_updatePart ho ⟨rfl, rfl, p _ (S.upd U (Heap.SameBut.update ..) ⟨_, Heap.get?_update_self _ ho q2.notFreed, q2⟩)⟩
theorem ok_st {P : Unit → Heap → Prop} (S : St c g h l) (hL : env.locals = L) (hk : env.scope.kind = .function) (hl : env.kindOf x = some .local) (U : Up l L (isNs m) (isNs m') l') (H : Put m x v m')
  (p : ∀ h', St c g h' l' → P () h') : Ok c n (storeName env x v) P h := by
 subst hL
 rw [storeName_local hl (by rw [hk]; rfl)]
 exact ok_nsSet S U H p
theorem ok_ldG {P : VP} (S : St c g h l) (hg : env.globals = mainGlobals) (hk : env.scope.kind = .function) (hl : env.kindOf x = some .globalImplicit) (e : nsIn c.K mainGlobals x = some (some v)) (p : P v h) : Ok c n (loadName env x) P h := by
 obtain ⟨mg, hns, -⟩ := S.topH.gl
 intro A d tk r
 have key : wpAny c.M A (loadGlobal env x) (c.Q P) NoE (c.at h d tk) := Calls.loadGlobal_global (env := env) (by rw [hg]; exact hns) (mg_of S.topH.k hns e) ⟨rfl, rfl, p⟩
 unfold loadName
 simp -iota only [Env.blockKind, hk, hl, ScopeKind.isAnnotationScope, Bool.false_and, Bool.false_eq_true, if_false]
 exact key
theorem ok_ldB {P : VP} (S : St c g h l) (hg : env.globals = mainGlobals) (hb : env.builtins = builtinsNs) (hk : env.scope.kind = .function) (hl : env.kindOf x = some .globalImplicit) (e : nsIn c.K mainGlobals x = some none) (hv : bootBuiltins x = some v) (hn : x ≠ "__name__") (p : P v h) : Ok c n (loadName env x) P h := by
 obtain ⟨mg, hns, -⟩ := S.topH.gl
 obtain ⟨mb, hnb, hbb⟩ := S.topH.b
 intro A d tk r
 have key : wpAny c.M A (loadGlobal env x) (c.Q P) NoE (c.at h d tk) := Calls.loadGlobal_builtin (env := env) (by rw [hg]; exact hns) (mg_none_of S.topH.k hns e) (by rw [hb]; exact hnb) ((hbb x hn).trans hv) ⟨rfl, rfl, p⟩
 unfold loadName
 simp -iota only [Env.blockKind, hk, hl, ScopeKind.isAnnotationScope, Bool.false_and, Bool.false_eq_true, if_false]
 exact key
end
noncomputable def bindEach (env : Env) : List (Str × Value) → Sem Unit
 | [] => pure ()
 | (x, v) :: r => do storeName env x v; bindEach env r
noncomputable def localsOf (s : Scope) : List (Str × Option Value) := (s.names.filter (fun p => p.2 == .local)).map fun p => (p.1, none)
noncomputable def cellLed : Nat → List (Str × NameKind) → Led → Led
 | _, [], l => l
 | k, (_, kd) :: r, l => if kd == .cell then cellLed (k + 1) r ((k, isCell none) :: l) else cellLed k r l
theorem cellLed_cell {k : Nat} {x : Str} {kd : NameKind} {r : List (Str × NameKind)} {l : Led} (h : (kd == .cell) = true) : cellLed k ((x, kd) :: r) l = cellLed (k + 1) r ((k, isCell none) :: l) := if_pos h
theorem cellLed_not {k : Nat} {x : Str} {kd : NameKind} {r : List (Str × NameKind)} {l : Led} (h : ¬(kd == .cell) = true) : cellLed k ((x, kd) :: r) l = cellLed k r l := if_neg h
theorem lookup_none (l : List (Str × Option Value)) (hl : ∀ p ∈ l, p.2 = none) (x : Str) : (l.lookup x).join = none := by
 induction l with
 | nil => rfl
 | cons e r ih =>
  obtain ⟨y, u⟩ := e
  have := hl (y, u) List.mem_cons_self
  simp -iota only at this; subst this
  rw [List.lookup_cons]
  cases x == y
  ·exact ih fun p hp => hl p (List.mem_cons_of_mem _ hp)
  ·rfl
theorem cnt_none (l : List (Str × Option Value)) (h : ∀ p ∈ l, p.2 = none) : cnt l = 0 := by
 induction l with
 | nil => rfl
 | cons e r ih =>
  obtain ⟨x, u⟩ := e
  cases u with
  | some v => have := h _ List.mem_cons_self; cases this
  | none => exact ih fun p hp => h p (List.mem_cons_of_mem _ hp)
theorem isNs_new (s : Scope) (nd : ((localsOf s).map (·.1)).Nodup) (cls : Value) : isNs (localsOf s) { cls := cls, data := .dict #[] } :=
 ⟨#[], 0, rfl, fun e he => by simp -iota at he, fun x => by
  rw [lookup_none]
  ·rfl
  ·intro p hp
   obtain ⟨q, _, rfl⟩ := List.mem_map.mp hp
   rfl, nd, by
  rw [cnt_none]
  ·rfl
  ·intro p hp
   obtain ⟨q, _, rfl⟩ := List.mem_map.mp hp
   rfl⟩
section
variable {c : Cx} {n : Nat} {g h : Heap} {l : Led}
theorem ok_alloc {o : Obj} {P : Addr → Heap → Prop} (W : Obj → Prop) (S : St c g h l) (hf : o.isFreed = false) (hw : W o) (p : ∀ h', h'.objs.size = h.objs.size + 1 → St c g h' ((h.objs.size, W) :: l) → P h.objs.size h') : Ok c n (alloc o) P h :=
 fun u_ u_ u_ u_ => wpAny_alloc ⟨rfl, rfl, p _ (Heap.size_push ..) (S.push hf hw)⟩
theorem ok_layCells (f : Str × NameKind → List (Str × Addr) → Sem (ForInStep (List (Str × Addr))))
  (hf : ∀ name kind cells, f (name, kind) cells = if kind == .cell then (do let a ← alloc { cls := .type "cell", data := .cell none }; pure (.yield ((name, a) :: cells))) else pure (.yield cells)) :
  ∀ (names : List (Str × NameKind)) (acc : List (Str × Addr)) (h : Heap) (l : Led) (k : Nat) (P : List (Str × Addr) → Heap → Prop), St c g h l → h.objs.size = k →
   (∀ h', St c g h' (cellLed k names l) → P (cellsFrom k names acc) h') → Ok c n (forIn names acc f) P h := by
 intro names
 induction names with
 | nil => intro acc h l k P S e p; rw [List.forIn_nil]; exact ok_pure (p h S)
 | cons x r ih =>
  obtain ⟨name, kind⟩ := x
  intro acc h l k P S e p
  rw [List.forIn_cons, hf]
  by_cases hk : (kind == .cell) = true
  ·rw [if_pos hk]
   have p : ∀ h', St c g h' (cellLed (k + 1) r ((k, isCell none) :: l)) → P (cellsFrom (k + 1) r ((name, k) :: acc)) h' := by
    intro h' s; have := p h'; unfold cellsFrom at this; rw [if_pos hk] at this; refine this ?_; rw [cellLed_cell hk]; exact s
   refine ok_bind (ok_bind (ok_alloc (isCell none) S rfl rfl fun h' e' S' => ok_pure ?_))
   rw [e] at S' e'
   rw [e]
   exact ih _ h' _ (k + 1) P S' e' p
  ·rw [if_neg hk]
   refine ok_bind (ok_pure (ih _ h _ k P S e ?_))
   intro h' s; have := p h'; unfold cellsFrom at this; rw [if_neg hk] at this; refine this ?_; rw [cellLed_not hk]; exact s
theorem forIn_bindEach {env : Env} (f : Str × Value → PUnit → Sem (ForInStep PUnit)) (hf : ∀ x v u, f (x, v) u = (do storeName env x v; pure (.yield ⟨⟩))) : ∀ (b : List (Str × Value)),
  forIn b PUnit.unit f = bindEach env b
 | [] => by rw [List.forIn_nil]; rfl
 | (x, v) :: r => by
  rw [List.forIn_cons, hf, bind_assoc]
  simp only [pure_bind]
  rw [forIn_bindEach f hf r]
  rfl
noncomputable abbrev mkEnv (fd : FuncData) (f L : Addr) (cs : List (Str × Addr)) : Env := newEnv fd.scope L fd.globals cs (fd.qualname ++ ".<locals>.") (some f) fd.code none fd.builtins
theorem ok_newEnv {fd : FuncData} {f : Addr} {binds : List (Str × Value)} {P : Env → Heap → Prop} (S : St c g h l) (hnd : ((localsOf fd.scope).map (·.1)).Nodup)
  (x : ∀ L h', St c g h' (cellLed (L + 1) fd.scope.names ((L, isNs (localsOf fd.scope)) :: l)) →
   Ok c n (bindEach (mkEnv fd f L (cellsFrom (L + 1) fd.scope.names fd.closure)) binds) (fun u_ h'' => P (mkEnv fd f L (cellsFrom (L + 1) fd.scope.names fd.closure)) h'') h') :
  Ok c n (newFunctionEnv fd.scope fd.globals fd.closure binds (fd.qualname ++ ".<locals>.") (some f) fd.code none fd.builtins) P h := by
 simp only [newFunctionEnv, Option.isSome_none, Bool.false_eq_true, if_false]
 refine ok_bind (ok_alloc (isNs (localsOf fd.scope)) S rfl (isNs_new _ hnd _) fun h' e S' => ?_)
 refine ok_bind (ok_layCells _ (fun name kind cells => by cases hkc : kind == NameKind.cell <;> simp [hkc]) _ _ _ _ _ _ S' e fun h'' S'' => ?_)
 rw [forIn_bindEach (env := mkEnv fd f h.objs.size (cellsFrom (h.objs.size + 1) fd.scope.names fd.closure)) _ (fun u_ u_ u_ => rfl)]
 exact ok_bind ((x _ _ S'').mono fun u_ u_ z => ok_pure z)
theorem okC_func {body : List Stmt} {env : Env} {P : Flow → Heap → Prop} (x : Ok c n (execs body env) (fun f h' => P (.ret (match f with | .ret v => v | _ => .none)) h') h) : OkC c (n + 1) (.func body env) P h :=
 fun A d tk r => codeAny_func (wpAny_mono (x (A.deeper env) d tk r.deeper) (fun u_ u_ z => z) fun u_ u_ e => e.elim)
theorem okC_expr {e : PySem.Expr} {env : Env} {P : Flow → Heap → Prop} (x : Ok c n (eval e env) (fun v h' => P (.ret v) h') h) : OkC c (n + 1) (.expr e env) P h := by
 intro A d tk r
 refine codeAny_of_tree ?_
 show wpAny _ (A.deeper env) (do point; ret (← (eval e env).onRaise (leaving env))) _ _ _
 exact wpAny_bind (wpAny_point (wpAny_bind (wpAny_onRaise (wpAny_mono (x (A.deeper env) d tk r.deeper) (fun u_ u_ z => wpAny_pure z) fun u_ u_ e => e.elim))))
noncomputable def bodyCode (fd : FuncData) (env : Env) : Code := match fd.body with | .stmts b => .func b env | .expr e => .expr e env
theorem okC_call {f : Addr} {fd : FuncData} {o : Obj} {args : Args} {P : Flow → Heap → Prop} (S : St c g h l) (ho : h.get? f = some o) (hd : o.data = .func fd)
  (hco : fd.scope.isCoroutine = false) (hgen : fd.scope.isGenerator = false) (hcd : h.CodeRec fd.code fd.qualname) (hnd : ((localsOf fd.scope).map (·.1)).Nodup)
  (x : Ok c n (bindArgs fd args) (fun binds h₁ => ∃ l₁, St c g h₁ l₁ ∧ ∀ L h', St c g h' (cellLed (L + 1) fd.scope.names ((L, isNs (localsOf fd.scope)) :: l₁)) →
   Ok c n (bindEach (mkEnv fd f L (cellsFrom (L + 1) fd.scope.names fd.closure)) binds) (fun u_ h'' => TopR c h'' ∧ OkC c (n + 1) (bodyCode fd (mkEnv fd f L (cellsFrom (L + 1) fd.scope.names fd.closure))) P h'') h') h) :
  OkC c (n + 1) (.call (.ref f) args) P h := by
 intro A d tk r
 refine codeAny_of_tree ?_
 show wpAny _ A.in1 (callAny (.ref f) args) _ _ _
 refine wpAny_bind (wpAny_load ho ?_)
 obtain ⟨cc, oc, vs, tq, hc, hoc, hdc, hq⟩ := hcd
 rw [hd]
 show wpAny _ _ (callFunction _ _ _) _ _ _
 unfold callFunction
 simp -iota only [hco, hgen, hc]
 dsimp only
 have r1 : Room A.in1 n := r.in1
 refine wpAny_bind (m := field (.ref cc) 1) (wpAny_field hoc hdc hq (wpAny_bind (wpAny_pure ?_)))
 refine wpAny_bind (x.use r1 fun binds h₁ d₁ tk₁ q1_ => ?_)
 obtain ⟨l₁, S₁, z⟩ := q1_
 have key : Ok c n (newFunctionEnv fd.scope fd.globals fd.closure binds (fd.qualname ++ ".<locals>.") (some f) fd.code none fd.builtins) (fun env h' => TopR c h' ∧ OkC c (n + 1) (bodyCode fd env) P h') h₁ :=
  ok_newEnv S₁ hnd fun L h' S' => z L h' S'
 rw [hc] at key
 refine wpAny_bind (key.use r1 fun env h₂ d₂ tk₂ z₂ => ?_)
 refine wpAny_bind (wpAny_enterFrame z₂.1.nl r1.depth ?_)
 have := z₂.2 A d₂ tk₂ r
 unfold bodyCode at this
 cases hb : fd.body with
 | stmts b => rw [hb] at this; exact wpAny_pure ⟨rfl, this⟩
 | expr e => rw [hb] at this; exact wpAny_pure ⟨rfl, this⟩
end
theorem lookIn_of {m : List (Str × Option Value)} {o : Obj} (q : isNs m o) (x : Str) : lookIn x o = some (m.lookup x).join := by
 obtain ⟨es, ep, hd, hk, hm, -⟩ := q
 rw [← hm x]
 unfold lookIn nsFind findBy
 rw [hd]
 dsimp only
 rw [← Array.find?_toList]
 cases es.toList.find? (·.key.isStr x) with
 | some e => rfl
 | none =>
  have : es.toList.any (·.refKey) = false := by
   rw [List.any_eq_false]; intro e he; obtain ⟨n, t, h⟩ := hk e (Array.mem_toList_iff.mp he); simp [DictEntry.refKey, h]
  simp [this]
structure PlainC (K : Frag) (C : Addr) : Prop where
 ga : findIn K (.ref C) "__getattribute__" = some (some (.builtin "object.__getattribute__"))
 gk : findIn K (.ref C) "__getattr__" = some none
 sa : findIn K (.ref C) "__setattr__" = some (some (.builtin "object.__setattr__"))
 po : plainOver K C = true
 hd : (clsIn K C).any (·.hasDict) = true
section
variable {c : Cx} {n : Nat} {g h : Heap} {l l' : Led} {x C d : Addr} {name : Str} {v : Value} {m m' : List (Str × Option Value)}
theorem instAt (hx : h.get? x = some (instObj C d)) {od : Obj} (hd : h.get? d = some od) : InstAt h x (instObj C d) C (some od) := ⟨hx, rfl, rfl, hd⟩
theorem ok_getAttr {expr : Bool} {P : VP} (S : St c g h l) (PC : PlainC c.K C) (hf : findIn c.K (.ref C) name = some none) (hx : h.get? x = some (instObj C d)) (A : At l d (isNs m)) (H : Has m name v)
  (hh : handedIn v = true) (p : P v h) : Ok c n (getAttr (.ref x) name expr) P h := by
 have T := S.topH.k
 have q := S.get A
 have nd := isNs.nd q
 obtain ⟨od, hod, q⟩ := q
 intro A d tk r
 refine get_value T (instAt hx hod) PC.ga ?_ hh ⟨rfl, rfl, p⟩
 obtain ⟨cd, hc, hdd⟩ := any_some PC.hd
 unfold findObj W.ownOf
 simp -iota only [hc, hf, Option.bind_some, hdd, if_true, lookIn_of q, H.lookup nd, Option.join]
 dsimp only
 simp -iota only [hc, hf, Option.bind_some, hdd, if_true, lookIn_of q, H.lookup nd, Option.join]
 rfl
theorem ok_getMethod {f : Addr} {pl : Sem Bool} {P : Value × List Value → Heap → Prop} (S : St c g h l) (PC : PlainC c.K C) (hf : findIn c.K (.ref C) name = some (some (.ref f))) (ht : typeIn c.K (.ref f) = some (.type "function"))
  (hx : h.get? x = some (instObj C d)) (A : At l d (isNs m)) (hs : m.lookup name = none) (p : P (.ref f, [.ref x]) h) : Ok c n (getMethod (.ref x) name pl) P h := by
 obtain ⟨od, hod, q⟩ := S.get A
 intro A d tk r
 refine method_fn S.topH.k (instAt hx hod) PC.ga PC.gk hf ht ?_ ⟨rfl, rfl, p⟩
 unfold shadowIn
 simp only [lookIn_of q, hs]; rfl
theorem ok_setAttr {P : Unit → Heap → Prop} (S : St c g h l) (PC : PlainC c.K C) (ht : takerIn c.K C name = some none) (hx : h.get? x = some (instObj C d)) (U : Up l d (isNs m) (isNs m') l') (H : Put m name v m') (hm : m.length ≤ 1000)
  (p : ∀ h', St c g h' l' → P () h') : Ok c (n + 1) (setAttr (.ref x) name v) P h := by
 have T := S.topH.k
 obtain ⟨od, hod, q⟩ := S.at_ _ U.mem
 intro A dr tk r
 refine set_plain T (instAt hx hod) PC.sa (osa_open (A := A) (s := c.at h dr (tk + 1)) T (instAt hx hod) PC.po ht fun b => ?_)
 obtain ⟨cd, hc, hd'⟩ := any_some PC.hd
 refine wpAny_bind (wpAny_pure (wpAny_bind (wpAny_bind (wpAny_loadPart hx (wpAny_bind ((looks_clsIn T hc).here ?_))))))
 rw [hd']
 refine wpAny_pure (a := some d) (wpAny_bind (wpAny_pure (wpAny_bind ?_)))
 have key : Ok c 0 (nsSet d name v) (fun u_ h' => St c g h' l') h := ok_nsSet S U H fun h' S' => S'
 refine key.use (A := A.in1) (r.in1.mono (Nat.zero_le _)) fun u_ h' d' tk' S' => ?_
 obtain ⟨od', hod', es, ep, hd2, hk2, hm2, nd2, sz2⟩ := S'.at_ _ U.mem2
 refine wpAny_bind (wpAny_lookBehind hod' (by rw [hd2]; exact pastItsLine_dict (by
  rw [sz2, sizeLine_eq]
  have := cnt_le m'
  have e := congrArg List.length H.keys
  rw [List.length_map, List.length_map] at e
  lia)) ?_)
 exact wpAny_pure ⟨rfl, rfl, p _ S'⟩
end
noncomputable def Kept (c : Cx) (h : Heap) (f : Value) : Prop := ∃ k, Looks c.M h (keeperOf f) k
theorem kept_builtin {c : Cx} {h : Heap} {id : String} : Kept c h (.builtin id) := ⟨.machine, .now⟩
theorem kept_type {c : Cx} {h : Heap} {T : String} : Kept c h (.type T) := ⟨.machine, .now⟩
theorem kept_func {c : Cx} {h : Heap} {f : Addr} {o : Obj} {fd : FuncData} (ho : h.get? f = some o) (hd : o.data = .func fd) : Kept c h (.ref f) := by
 refine ⟨.frame, ?_⟩
 unfold keeperOf
 refine (Looks.ld (part := none) ho).andThen ?_
 rw [hd]
 exact .now
theorem kept_cls {c : Cx} {h : Heap} {C : Addr} (T : c.K.In h) {o : Obj} {cd : ClassData} (ho : h.get? C = some o) (hd : o.data = .cls cd) (hs : specialIn c.K (.ref C) "__call__" = some (some (.builtin "type.__call__"))) : Kept c h (.ref C) := by
 refine ⟨.machine, ?_⟩
 unfold keeperOf
 refine (Looks.ld (part := none) ho).andThen ?_
 rw [hd]
 exact (looks_specialIn T hs).andThen .now
section
variable {c : Cx} {n : Nat} {g h : Heap} {l l' : Led} {env : Env}
theorem ok_callWith {pos : Pos} {f : Value} {first : List Value} {args : List (Bool × Sem Value)} {P : VP} (hp : args.any (·.1) = false)
  (x : Ok c n (spliced args) (fun vs h₁ => Kept c h₁ f ∧ Ok c n (call f (first ++ vs)) P h₁) h) : Ok c n (callWith pos f first args []) P h := by
 intro A d tk r
 unfold callWith
 have ea : wpAny c.M A (evalArgs f true args []) (fun a s₁ => a.kw = [] ∧ s₁.gens = #[] ∧ s₁.os = c.os ∧ Kept c s₁.heap f ∧ Ok c n (call f (first ++ a.pos)) P s₁.heap) NoE (c.at h d tk) := by
  have y := x A d tk r
  cases args with
  | nil =>
   unfold evalArgs
   show wpAny _ A (spliced [] >>= _) _ _ _
   refine wpAny_bind (wpAny_mono y (fun vs s₁ z => ?_) fun u_ u_ e => e)
   refine wpAny_bind (wpAny_pure (wpAny_holding ?_))
   exact wpAny_bind (wpAny_pure (wpAny_bind (wpAny_pure (wpAny_pure ⟨rfl, z⟩))))
  | cons a rest =>
   obtain ⟨st, t⟩ := a
   have hst : st = false := by simp -iota only [List.any_cons, Bool.or_eq_false_iff] at hp; exact hp.1
   subst hst
   exact Calls.evalArgs_plain (wpAny_mono y (fun vs s₁ z => ⟨rfl, z⟩) fun u_ u_ e => e)
 refine wpAny_bind (wpAny_holding (wpAny_mono ea (fun a s₁ z => wpAny_bind (wpAny_standAt ?_)) fun u_ u_ e => e))
 obtain ⟨h1, g1, d1, t1, o1⟩ := s₁
 obtain ⟨hkw, rfl, rfl, ⟨k, hk⟩, z⟩ := z
 obtain ⟨ap, ak⟩ := a
 simp -iota only at hkw z
 subst hkw
 simp -iota only [hp, List.any_nil, Bool.or_false]
 have y := z A d1 t1 r
 refine wpAny_bind (hk.at ?_)
 have fin : wpAny c.M A (call f (first ++ ap) []) (fun a s' => wpAny c.M A (do holding [a] point; pure a) (c.Q P) NoE s') NoE (c.at h1 d1 t1) :=
  wpAny_mono y (fun v s' q => wpAny_bind (wpAny_holding (wpAny_point (wpAny_pure q)))) fun u_ u_ e => e
 cases k with
 | frame =>
  show wpAny _ _ (if _ then _ else _) _ _ _
  split
  ·exact wpAny_bind fin
  ·exact wpAny_bind (Calls.wpAny_keep fin)
 | boundFrame =>
  show wpAny _ _ (if _ then _ else _) _ _ _
  split
  ·exact wpAny_bind fin
  ·exact wpAny_bind (Calls.wpAny_keep fin)
 | machine => exact wpAny_bind fin
 | caller => exact wpAny_bind (fun Γ p hΓ => by rw [Sem.wp_operate]; exact fin Γ p hΓ)
theorem ok_args_nil {pos : Pos} {P : List Value → Heap → Prop} (p : P [] h) : Ok c n (spliced (backTo pos (starEach [] env))) P h := ok_pure p
theorem ok_args_cons {pos : Pos} {e : PySem.Expr} {es : List PySem.Expr} {P : List Value → Heap → Prop} (he : isStarred e = false)
  (x : Ok c n (eval e env) (kArg pos es env c n P) h) : Ok c n (spliced (backTo pos (starEach (e :: es) env))) P h := by
 have : starEach (e :: es) env = (false, eval e env) :: starEach es env := by cases e <;> first | rfl | cases he
 rw [this]
 show Ok c n (spliced ((false, eval e env) :: backTo pos (starEach es env))) P h
 unfold spliced
 refine ok_bind (x.mono fun v h₁ y => ?_)
 refine ok_bind (ok_pure (ok_bind (ok_holding (y.mono fun vs h₂ z => ?_))))
 exact ok_pure z
theorem any_back {pos : Pos}  {es : List PySem.Expr} : es.any isStarred = false → (backTo pos (starEach es env)).any (·.1) = false := by
 induction es with
 | nil => intro _; rfl
 | cons e es ih =>
  intro h
  rw [List.any_cons, Bool.or_eq_false_iff] at h
  have : starEach (e :: es) env = (false, eval e env) :: starEach es env := by cases e <;> first | rfl | (have := h.1; cases this)
  rw [this]
  show (false || (backTo pos (starEach es env)).any (·.1)) = false
  rw [ih h.2]; rfl
noncomputable abbrev kCall (c : Cx) (n : Nat) (P : VP) (f : Value) : List Value → Heap → Prop := fun vs h => Kept c h f ∧ Ok c n (call f vs) P h
noncomputable abbrev kFun (pos : Pos) (es : List PySem.Expr) (env : Env) (c : Cx) (n : Nat) (P : VP) : Value → Heap → Prop := fun f h => Ok c n (spliced (backTo pos (starEach es env))) (kCall c n P f) h
noncomputable abbrev kCallM (c : Cx) (n : Nat) (P : VP) (fm : Value × List Value) : List Value → Heap → Prop := fun vs h => Kept c h fm.1 ∧ Ok c n (call fm.1 (fm.2 ++ vs)) P h
noncomputable abbrev kMeth2 (pos : Pos) (es : List PySem.Expr) (env : Env) (c : Cx) (n : Nat) (P : VP) : Value × List Value → Heap → Prop := fun fm h => Ok c n (spliced (backTo pos (starEach es env))) (kCallM c n P fm) h
noncomputable abbrev kMeth (pos : Pos) (es : List PySem.Expr) (name : Str) (env : Env) (c : Cx) (n : Nat) (P : VP) : Value → Heap → Prop := fun ov h => ∀ pl, Ok c n (getMethod ov name pl) (kMeth2 pos es env c n P) h
theorem ok_Call {func : PySem.Expr} {es : List PySem.Expr} {pos : Pos} {P : VP} (ha : eval (.Call func es [] pos) env = (eval func env >>= fun f => callWith pos f [] (backTo pos (starEach es env)) (backToKw pos (keywordEach [] env)))) (hs : es.any isStarred = false)
  (x : Ok c n (eval func env) (kFun pos es env c n P) h) : Ok c n (eval (.Call func es [] pos) env) P h := by
 rw [ha]
 exact ok_bind (x.mono fun f h₁ y => ok_callWith (any_back hs) y)
theorem ok_CallM {o : PySem.Expr} {name : Str} {apos pos : Pos} {es : List PySem.Expr} {P : VP} (hb : attributeBase o name env (eval o env) = eval o env) (hs : es.any isStarred = false) (hn : es.length < 30) (hl : (apos.endLine == pos.line) = true)
  (x : Ok c n (eval o env) (kMeth pos es name env c n P) h) :
  Ok c n (eval (.Call (.Attribute o name apos) es [] pos) env) P h := by
 show Ok c n (attributeBase o name env (eval o env) >>= fun ov => standAt apos.atName >>= fun u_ => methodCall o name apos pos env ov (es.length + 0) (backTo pos (starEach es env)) (backToKw pos (keywordEach [] env))) P h
 rw [hb]
 refine ok_bind (x.mono fun ov h₁ y => ok_bind (ok_standAt ?_))
 have hf : methodCallForm (es.length + 0) (backTo pos (starEach es env)) (backToKw pos (keywordEach [] env)) = true := by
  unfold methodCallForm
  have : (backTo pos (starEach es env)).all (!·.1) = true := by
   have q := any_back (pos := pos) (env := env) hs
   rw [List.any_eq_false] at q
   rw [List.all_eq_true]
   intro a ha
   have := q a ha
   simpa -iota using this
  rw [this, show keywordEach [] env = [] from rfl]
  simp -iota [backToKw, hn]
 unfold methodCall
 rw [hf]
 unfold calleeOf methodCallPos
 simp -iota only [if_true, hl, Bool.not_true, Bool.false_or]
 exact ok_bind (ok_holding ((y _).mono fun fm h₂ z => ok_bind (ok_pure (ok_callWith (any_back hs) z))))
end
noncomputable def isList (vs : List Value) : Obj → Prop := fun o => ∃ k, o = { cls := .type "list", dict := none, data := .seq vs.toArray k, slots := #[] }
theorem isList.is {h : Heap} {a : Addr} {vs : List Value} (x : ∃ o, h.get? a = some o ∧ isList vs o) : h.IsList a vs.toArray := by
 obtain ⟨o, ho, k, rfl⟩ := x
 exact ⟨_, ho, rfl, k, rfl⟩
theorem isList.map {vs ws : List Value} {k : Nat} {f : Array Value → Array Value} (e : f vs.toArray = ws.toArray) : isList ws (Obj.mapSeq f { cls := .type "list", dict := none, data := .seq vs.toArray k, slots := #[] }) := by
 unfold isList Obj.mapSeq
 simp only
 rw [e]
 exact ⟨_, rfl⟩
section
variable {c : Cx} {n : Nat} {g h : Heap} {l l' : Led} {env : Env} {a : Addr} {vs : List Value} {v : Value}
theorem ok_letGo {P : VP} (p : P .none h) : Ok c n (runValue (.builtin "proto.let_go" {})) P h :=
 fun A d tk r => wpAny_runValue (codeAny_builtin entry_let_go (by unfold Builtin.«proto.let_go» ret; exact wpAny_pure ⟨rfl, rfl, p⟩))
theorem ok_letTemp {base : PySem.Expr} {o r : Value} {P : Unit → Heap → Prop} (p : P () h) : Ok c n (letTemporaryGo base o r) P h :=
 fun A d tk rm => wpAny_letTemporaryGo ⟨rfl, rfl, p⟩
theorem ok_Attribute {value : PySem.Expr} {attr : Str} {pos : Pos} {P : VP} (hb : attributeBase value attr env (eval value env) = eval value env)
  (x : Ok c n (eval value env) (kAttr attr c n P) h) : Ok c n (eval (.Attribute value attr pos) env) P h := by
 show Ok c n (attributeBase value attr env (eval value env) >>= fun o => standAt pos.atName >>= fun u_ => holding [o] (getAttr o attr true) >>= fun r => letTemporaryGo value o r >>= fun u_ => pure r) P h
 rw [hb]
 exact ok_bind (x.mono fun o h₁ y => ok_bind (ok_standAt (ok_bind (ok_holding (y.mono fun r h₂ z => ok_bind (ok_letTemp (ok_pure z)))))))
theorem ok_truthy_list {P : Bool → Heap → Prop} (S : St c g h l) (A : At l a (isList vs)) (hs : vs.length ≤ 1000000) (p : P (!vs.isEmpty) h) : Ok c n (truthy (.ref a)) P h := by
 have q := isList.is (S.get A)
 refine fun u_ u_ u_ u_ => wpAny_truthy_list q (by simp -iota; lia) ⟨rfl, rfl, ?_⟩
 simpa -iota using p
theorem ok_getMethod_list {name : Str} {id : String} {pl : Sem Bool} {P : Value × List Value → Heap → Prop} (S : St c g h l) (A : At l a (isList vs)) (slot : Slot "list" name id) (ht : typeOf (.builtin id) = pure (.type "method_descriptor"))
  (p : P (.builtin id, [.ref a]) h) : Ok c n (getMethod (.ref a) name pl) P h := by
 obtain ⟨o, ho, k, rfl⟩ := S.get A
 exact fun u_ u_ u_ u_ => getMethod_builtin (s := c.at h _ _) ⟨_, ho, rfl⟩ F.plainAttrs_list slot ht (fun b e => by cases e; exact ⟨_, ho, rfl⟩) ⟨rfl, rfl, p⟩
theorem ok_append {P : VP} (S : St c g h l) (U : Up l a (isList vs) (isList (vs ++ [v])) l') (hs : vs.length ≤ 1000000) (p : ∀ h', St c g h' l' → P .none h') : Ok c n (call (.builtin "list.append") [.ref a, v]) P h := by
 obtain ⟨o, ho, k, rfl⟩ := S.at_ _ U.mem
 refine fun A d tk r => call_meets (s := c.at h d tk) F.slot_list_append ⟨_, ho, rfl⟩ F.entry_list_append (F.args_list_append_2 _ _) (AutoListH.list_append_list_val_0 a vs.toArray k v (by rw [sizeLine_eq]; simp -iota; lia)) ⟨ho, rfl, rfl, p _ ?_⟩
 refine S.upd U (Heap.SameBut.update ..) ⟨_, Heap.get?_update_self _ ho rfl, ?_⟩
 exact isList.map (by simp -iota)
theorem ok_pop0 {P : VP} {u : Tok} (S : St c g h l) (U : Up l a (isList (v :: vs)) (isList vs) l') (hs : vs.length ≤ 1000000) (p : ∀ h', St c g h' l' → P v h') : Ok c n (call (.builtin "list.pop") [.ref a, .int 0 u]) P h := by
 obtain ⟨o, ho, k, rfl⟩ := S.at_ _ U.mem
 refine fun A d tk r => call_meets (s := c.at h d tk) F.slot_list_pop ⟨_, ho, rfl⟩ F.entry_list_pop (F.args_list_pop_2 _ _) (MeetsSeq.list_pop_at a (v :: vs).toArray k 0 u 0 v rfl (by simp -iota [seqIndex?]) (by simp -iota) (by rw [sizeLine_eq]; simp -iota; lia)) ⟨ho, rfl, rfl, p _ ?_⟩
 refine S.upd U (Heap.SameBut.update ..) ⟨_, Heap.get?_update_self _ ho rfl, ?_⟩
 exact isList.map (by simp -iota [Array.eraseIdxIfInBounds])
theorem ok_Expr {f : PySem.Expr} {as : List PySem.Expr} {ks : List Keyword} {p2 pos : Pos} {P : Flow → Heap → Prop} (hi : interactive env = false) (hsw : swapsWith (.Call f as ks p2) none pos.line env = pure false) (x : Ok c n (eval (.Call f as ks p2) env) (fun u_ h' => P .next h') h) : Ok c n (exec (.Expr (.Call f as ks p2) pos) env) P h := by
 rw [exec_Expr env _ pos hi hsw]
 refine ok_bind (ok_standAt (ok_bind (x.mono fun v h' p => ?_)))
 cases v with
 | ref a => exact ok_bind (ok_standAt (ok_bind (ok_letGo (ok_pure p))))
 | _ => exact ok_pure p
end
section
variable {c : Cx} {n : Nat} {g h : Heap} {l l' : Led} {env : Env} {a : Addr}
noncomputable abbrev WhT (I : Nat → Heap → Prop) (P : Flow → Heap → Prop) (k : Nat) (f : Flow) (h₄ : Heap) : Prop := match f with
 | .next | .cont => ∃ m, m < k ∧ I m h₄
 | .brk => P .next h₄
 | .ret v => P (.ret v) h₄
noncomputable abbrev kWh (c : Cx) (n : Nat) (body orelse : List Stmt) (env : Env) (T P : Flow → Heap → Prop) : Bool → Heap → Prop := fun b h₁ => (b = true → Ok c n (execs body env) T h₁) ∧ (b = false → Ok c n (execs orelse env) P h₁)
noncomputable abbrev kBody (c : Cx) (n : Nat) (body : List Stmt) (env : Env) (T : Flow → Heap → Prop) : Unit → Heap → Prop := fun u_ h₃ => Ok c n (execs body env) T h₃
noncomputable abbrev kNext (c : Cx) (n : Nat) (target : PySem.Expr) (it : Value) (body orelse : List Stmt) (env : Env) (T P : Flow → Heap → Prop) : Option Value → Heap → Prop := fun r h₁ => match r with
 | none => Ok c n (execs orelse env) P h₁
 | some v => Ok c n (letOwnedTupleGo target it v) (fun u_ h₂ => Ok c n (assign target env v) (kBody c n body env T) h₂) h₁
theorem okC_for {target : PySem.Expr} {it : Value} {body orelse : List Stmt} {P : Flow → Heap → Prop} (I : Nat → Heap → Prop)
  (turn : ∀ k (T : Flow → Heap → Prop), (∀ f h₄, WhT I P k f h₄ → T f h₄) → ∀ h, I k h → Ok c n (pyNext it) (kNext c n target it body orelse env T P) h)
  (k : Nat) (x : I k h) : OkC c n (.forLoop target it body orelse env) P h := by
 intro A d tk r
 refine codeAny_forLoop_any (fun k s => s.gens = #[] ∧ s.os = c.os ∧ I k s.heap) (fun k s i => ?_) k ⟨rfl, rfl, x⟩
 obtain ⟨h1, g1, d1, t1, o1⟩ := s
 obtain ⟨rfl, rfl, i⟩ := i
 refine (turn k _ (fun u_ u_ z => z) h1 i).use r fun o h₁ d₁ tk₁ z => ?_
 cases o with
 | none => exact z.use r fun f h₂ d₂ tk₂ z => ⟨rfl, rfl, z⟩
 | some v =>
  refine z.use r fun u_ h₂ d₂ tk₂ z => z.use r fun u_ h₃ d₃ tk₃ z => z.use r fun f h₄ d₄ tk₄ z => ?_
  cases f with
  | next => obtain ⟨m, hm, z⟩ := z; exact ⟨m, hm, rfl, rfl, z⟩
  | cont => obtain ⟨m, hm, z⟩ := z; exact ⟨m, hm, rfl, rfl, z⟩
  | brk => exact ⟨rfl, rfl, z⟩
  | ret v => exact ⟨rfl, rfl, z⟩
theorem okC_while {test : PySem.Expr} {body orelse : List Stmt} {P : Flow → Heap → Prop} (I : Nat → Heap → Prop)
  (turn : ∀ k (T : Flow → Heap → Prop), (∀ f h₄, WhT I P k f h₄ → T f h₄) → ∀ h, I k h → Ok c n (isTrue test env (eval test env)) (kWh c n body orelse env T P) h)
  (k : Nat) (x : I k h) : OkC c n (.whileLoop test body orelse env) P h := by
 intro A d tk r
 refine codeAny_whileLoop (fun k s => s.gens = #[] ∧ s.os = c.os ∧ I k s.heap) (fun k s i => ?_) k ⟨rfl, rfl, x⟩
 obtain ⟨h1, g1, d1, t1, o1⟩ := s
 obtain ⟨rfl, rfl, i⟩ := i
 refine (turn k _ (fun u_ u_ z => z) h1 i).use r fun b h₁ d₁ tk₁ z => ?_
 cases b with
 | false => exact (z.2 rfl).use r fun f h₂ d₂ tk₂ z => ⟨rfl, rfl, z⟩
 | true =>
  refine (z.1 rfl).use r fun f h₄ d₄ tk₄ z => ?_
  cases f with
  | next => obtain ⟨m, hm, z⟩ := z; exact ⟨m, hm, rfl, rfl, z⟩
  | cont => obtain ⟨m, hm, z⟩ := z; exact ⟨m, hm, rfl, rfl, z⟩
  | brk => exact ⟨rfl, rfl, z⟩
  | ret v => exact ⟨rfl, rfl, z⟩
theorem ok_For {target iter : PySem.Expr} {body orelse : List Stmt} {pos : Pos} {P : Flow → Heap → Prop} (hs : ∀ x, foldedSetIterable iter env x = pure x)
  (x : Ok c n (eval iter env) (kFor1 target body orelse env c n P) h) : Ok c n (exec (.For target iter body orelse pos) env) P h :=
 fun A d tk r => wpAny_For (x.use r fun v h₁ d₁ tk₁ z => z.use r fun it h₂ d₂ tk₂ z => codeAny_mono (z A d₂ tk₂ r) fun r s' q => by
  cases r with
  | error e => exact q.elim
  | ok f => exact q) hs
theorem ok_While {test : PySem.Expr} {body orelse : List Stmt} {pos : Pos} {P : Flow → Heap → Prop} (x : OkC c n (.whileLoop test body orelse env) P h) : Ok c n (exec (.While test body orelse pos) env) P h :=
 fun A d tk r => wpAny_While (codeAny_mono (x A d tk r) fun r s' q => by
  cases r with
  | error e => exact q.elim
  | ok f => exact q)
theorem ok_letOwned {x : Str} {pos : Pos} {it v : Value} {P : Unit → Heap → Prop} (p : P () h) : Ok c n (letOwnedTupleGo (.Name x pos) it v) P h := ok_pure p
theorem ok_assign_Name {x : Str} {pos : Pos} {v : Value} {P : Unit → Heap → Prop} (y : Ok c n (storeName env x v) P h) : Ok c n (assign (.Name x pos) env v) P h :=
 ok_bind (ok_standAt (fun A d tk r => wpAny_bindName (y A d tk r)))
end
noncomputable def isMeth (f x : Addr) : Obj → Prop := fun o => o = methodObj (.ref f) (.ref x)
noncomputable def isCI (b : Addr) (s : Str) : Obj → Prop := fun o => ∃ t, o = { cls := .type "callable_iterator", data := .fields #[.ref b, .str s t, .bool false] }
noncomputable def isCIe : Obj → Prop := fun o => o = { cls := .type "callable_iterator", data := .fields #[.none, .none, .bool true] }
theorem slot_ci_next : Slot "callable_iterator" "__next__" "callable_iterator.__next__" :=
 .of (owner := "callable_iterator") (n := "__next__") (by rw [typeLookup_type, builtinLookup_eq_fast]; kernel_rfl) (by decide +kernel) (by decide +kernel) (by decide +kernel)
  (by first | exact .inl (by decide +kernel) | exact .inr (by decide +kernel)) (by rw [isSubtype_type]; kernel_rfl)
theorem entry_ci_next : entryFor table "callable_iterator.__next__" = some Builtin.«callable_iterator.__next__» := entryFor_of_tree (by kernel_rfl)
theorem args_ci_next (a : Value) : argsOk "callable_iterator.__next__" ⟨[a], []⟩ := by unfold argsOk; kernel_rfl
theorem slot_ci_iter : Slot "callable_iterator" "__iter__" "callable_iterator.__iter__" :=
 .of (owner := "callable_iterator") (n := "__iter__") (by rw [typeLookup_type, builtinLookup_eq_fast]; kernel_rfl) (by decide +kernel) (by decide +kernel) (by decide +kernel)
  (by first | exact .inl (by decide +kernel) | exact .inr (by decide +kernel)) (by rw [isSubtype_type]; kernel_rfl)
theorem entry_ci_iter : entryFor table "callable_iterator.__iter__" = some Builtin.«dict_keyiterator.__iter__» := entryFor_alias (id' := "dict_keyiterator.__iter__") (by kernel_rfl) rfl (by decide +kernel) (by kernel_rfl)
theorem args_ci_iter (a : Value) : argsOk "callable_iterator.__iter__" ⟨[a], []⟩ := by unfold argsOk; kernel_rfl
theorem entry_iter : entryFor table "iter" = some Builtin.«iter» := entryFor_of_tree (by kernel_rfl)
theorem args_iter2 (a b : Value) : argsOk "iter" ⟨[a, b], []⟩ := by unfold argsOk; kernel_rfl
theorem lk_meth_call : typeLookup (.type "method") "__call__" = pure (some (.builtin "method.__call__")) := by rw [typeLookup_type, builtinLookup_eq_fast]; kernel_rfl
section
variable {prog : Program} {w : World} {A : Around} {E : Value → Shared → Prop} {s : Shared}
theorem wp_stop {α : Type} {Q : α → Shared → Prop} (hh : A.handled = none) (h : ∀ h' e, (∀ b o, s.heap.get? b = some o → h'.get? b = some o) → (∃ o, h'.get? e = some o ∧ o.cls = .type "StopIteration") → E (.ref e) { s with heap := h' }) :
  wpAny (model prog w) A (newExc (.type "StopIteration") [] >>= fun e => (raiseNew e : Sem α)) Q E s := by
 refine wpAny_bind ?_
 simp -iota only [newExc, newTuple]
 refine wpAny_bind (wpAny_newObj_type ?_ (by size_fits))
 refine wpAny_bind (m := firstArgMember _ _) (wpAny_of_eq (a := Value.none) (by first | rfl | (simp -iota only [firstArgMember]; rfl)) ?_)
 refine wpAny_newObj_type ?_ (by size_fits)
 simp -iota only [raiseNew]
 refine wpAny_bind (wpAny_handled ?_)
 rw [hh]
 refine wpAny_bind (wpAny_pure (wpAny_throw ?_))
 exact h _ _ (fun b o e => Heap.get?_push_of_some _ (Heap.get?_push_of_some _ e)) ⟨_, Heap.get?_push_size _ rfl, rfl⟩
end
section
variable {c : Cx} {n : Nat} {g h : Heap} {l l' : Led} {x C d f b ia : Addr} {name s : Str} {v : Value} {m : List (Str × Option Value)}
theorem ok_getAttr_bound {expr : Bool} {P : VP} (S : St c g h l) (PC : PlainC c.K C) (ha : findIn c.K (.ref C) name = some (some (.ref f))) (hf : typeIn c.K (.ref f) = some (.type "function"))
  (hg : specialIn c.K (.ref f) "__get__" = some (some (.builtin "function.__get__"))) (ht : takesIn c.K (.ref f) = some false) (hc : copiedNames.contains name = false)
  (hx : h.get? x = some (instObj C d)) (A : At l d (isNs m)) (hs : m.lookup name = none)
  (p : ∀ b h', St c g h' ((b, isMeth f x) :: l) → P (.ref b) h') : Ok c n (getAttr (.ref x) name expr) P h := by
 obtain ⟨od, hod, q⟩ := S.get A
 intro A' dr tk r
 refine get_bind S.topH.k (instAt hx hod) PC.ga (findObj_fn PC.hd ha hg ht hc (by rw [lookIn_of q, hs]; rfl)) PC.gk ?_
 refine wpAny_call (fn_get (s := c.at h dr (tk + 1)) S.topH.k hf ?_)
 exact handed_on rfl ⟨rfl, rfl, p _ _ (S.push rfl rfl)⟩
theorem ok_iter2 {P : VP} {t : Tok} (S : St c g h l) (A : At l b (isMeth f x)) (p : ∀ ia h', St c g h' ((ia, isCI b s) :: l) → P (.ref ia) h') : Ok c n (call (.builtin "iter") [.ref b, .str s t]) P h := by
 obtain ⟨o, ho, rfl⟩ := S.get A
 intro A' dr tk r
 refine Calls.call_function_entry (by decide +kernel) (by decide +kernel) entry_iter (args_iter2 _ _) ?_
 unfold Builtin.«iter»
 refine wpAny_bind (m := someArgs "iter" 1 2 _) (wpAny_pure ?_)
 refine wpAny_bind (wpAny_specialOf ⟨_, ho, rfl⟩ lk_meth_call ?_)
 refine wpAny_bind (wpAny_rule (wpAny_bind (wpAny_newObj_type (wpAny_pure ?_) (by size_fits))))
 exact ⟨_, rfl, rfl, rfl, p _ _ (S.push rfl ⟨t, rfl⟩)⟩
theorem ok_iter_ci {P : VP} (S : St c g h l) (A : At l ia (isCI b s)) (p : P (.ref ia) h) : Ok c n (pyIter (.ref ia)) P h := by
 obtain ⟨o, ho, t, rfl⟩ := S.get A
 intro A' dr tk r
 have hT : (c.at h dr tk).TypeIs (.ref ia) "callable_iterator" := ⟨_, ho, rfl⟩
 refine wpAny_pyIter_slot hT slot_ci_iter (wpAny_call_entry slot_ci_iter hT entry_ci_iter ?_ (args_ci_iter _))
 show wpAny _ _ (ret (.ref ia)) _ _ _
 exact wpAny_pure ⟨_, rfl, "callable_iterator", _, hT, slot_ci_next.lookup, rfl, rfl, p⟩
theorem wpAny_callBorrowed {A : Around} {f : Value} {pos : List Value} {Q E : Value → Shared → Prop} {s : Shared}
  (hc : codeAny c.M A (.call f ⟨pos, []⟩) (fun r s' => match r with | .ok (.ret v) => Q v s' | .ok _ => False | .error e => E e s') s) : wpAny c.M A (callBorrowed f pos) Q E s := by
 intro Γ p hΓ
 show wpCode c.M (Γ.enter (.call f ⟨pos, []⟩) none p) _ p s
 refine wpCode_mono (fun r s' q => ?_) (hc _ p rfl (hΓ.enter (.call f ⟨pos, []⟩) none p (by intro x; cases x)))
 cases r with
 | error e => exact q
 | ok fl => cases fl <;> first | exact q | exact q.elim
theorem okC_meth {P : Flow → Heap → Prop} {args : List Value} (S : St c g h l) (A : At l b (isMeth f x)) (y : OkC c n (.call (.ref f) ⟨.ref x :: args, []⟩) P h) : OkC c n (.call (.ref b) ⟨args, []⟩) P h := by
 obtain ⟨o, ho, rfl⟩ := S.get A
 intro A' dr tk r
 refine codeAny_of_tree ?_
 show wpAny _ _ (callAny (.ref b) ⟨args, []⟩) _ _ _
 simp -iota only [callAny]
 refine wpAny_bind (wpAny_load ho ?_)
 exact wpAny_pure ⟨rfl, y A' dr tk r⟩
theorem looks_borrows {fd : FuncData} {of : Obj} (hb : h.get? b = some (methodObj (.ref f) (.ref x))) (hf : h.get? f = some of) (hd : of.data = .func fd) : Looks c.M h (borrowsExactly (.ref b)) true := by
 unfold borrowsExactly
 refine (Looks.ld (part := none) hb).andThen ?_
 refine (Looks.ld (part := none) hf).andThen ?_
 rw [hd]
 exact .now
theorem ok_next_ci {P : Option Value → Heap → Prop} {fd : FuncData} {of : Obj} (S : St c g h l) (A1 : At l ia (isCI b s)) (A2 : At l b (isMeth f x)) (hf : g.get? f = some of) (hd : of.data = .func fd)
  (y : OkC c n (.call (.ref f) ⟨[.ref x], []⟩) (fun fl h₁ => ∃ r t l₁ l₂, fl = .ret (.str r t) ∧ St c g h₁ l₁ ∧ Up l₁ ia (isCI b s) isCIe l₂ ∧ At l₁ b (isMeth f x) ∧ (r ≠ s → P (some (.str r t)) h₁) ∧ (r = s → ∀ h₂, St c g h₂ l₂ → P none h₂)) h) :
  Ok c (n + 1) (pyNext (.ref ia)) P h := by
 have S0 := S
 obtain ⟨o, ho, t, rfl⟩ := S.get A1
 obtain ⟨ob, hob, rfl⟩ := S.get A2
 intro A dr tk r
 have r1 := r.in1
 have hT : (c.at h dr tk).TypeIs (.ref ia) "callable_iterator" := ⟨_, ho, rfl⟩
 unfold pyNext
 refine wpAny_bind (wpAny_attempt (wpAny_callSpecial?_slot (name := Str.ofString "__next__") hT slot_ci_next (wpAny_call_entry slot_ci_next hT entry_ci_next ?_ (args_ci_next _))))
 show wpAny _ _ (field (.ref ia) 2 >>= _) _ _ _
 refine wpAny_bind (wpAny_field ho rfl (x := .bool false) rfl ?_)
 show wpAny _ _ (field (.ref ia) 0 >>= _) _ _ _
 refine wpAny_bind (wpAny_field ho rfl (x := .ref b) rfl (wpAny_bind (wpAny_attempt ?_)))
 unfold callOutOfASlot
 refine wpAny_bind ((looks_borrows hob (S.keep _ _ hf) hd).at ?_)
 refine wpAny_callBorrowed (codeAny_mono ((okC_meth S A2 y) A.in1 dr tk r1) fun res s' q => ?_)
 cases res with
 | error e => exact q.elim
 | ok fl =>
  obtain ⟨h1, g1, d1, t1, o1⟩ := s'
  obtain ⟨rfl, rfl, rr, tr, l₁, l₂, rfl, S₁, U, A2', p1, p2⟩ := q
  obtain ⟨o₁, ho₁, t₁, rfl⟩ := S₁.at_ _ U.mem
  show wpAny _ _ (field (.ref ia) 2 >>= _) _ _ _
  refine wpAny_bind (wpAny_field ho₁ rfl (x := .bool false) rfl ?_)
  show wpAny _ _ (field (.ref ia) 1 >>= _) _ _ _
  refine wpAny_bind (wpAny_field ho₁ rfl (x := .str s t₁) rfl (wpAny_bind (wpAny_holding (wpAny_eqBool_str ?_))))
  by_cases e : rr = s
  ·subst e
   rw [decide_eq_true rfl]
   obtain ⟨ob', hob', rfl⟩ := S₁.get A2'
   refine wpAny_bind (wpAny_rule ?_)
   refine wpAny_bind ?_
   show wpAny _ _ (field (.ref ia) 0 >>= fun old => slotLetsGo _ old _ >>= fun u_ => setField (.ref ia) 0 .none >>= fun u_ => setField (.ref ia) 1 .none >>= fun u_ => setField (.ref ia) 2 (.bool true)) _ _ _
   refine wpAny_bind (wpAny_field ho₁ rfl (x := .ref b) rfl ?_)
   have hlg : Looks c.M h1 (slotLetsGo "callable_iterator.__next__" (.ref b) fun | .builtin "callable_iterator.__next__" x => x.pos.head? == some (.ref ia) | _ => false) () := by
    unfold slotLetsGo
    exact (looks_borrows hob' (S₁.keep _ _ hf) hd).andThen .now
   refine wpAny_bind (hlg.at ?_)
   refine wpAny_bind (wpAny_setField_rec ho₁ (by simp -iota) fun h2 e2 s2 => ?_)
   refine wpAny_bind (wpAny_setField_rec e2 (by simp -iota) fun h3 e3 s3 => ?_)
   refine wpAny_setField_rec e3 (by simp -iota) fun h4 e4 s4 => ?_
   have S4 := S₁.upd U (s2.trans (s3.trans s4)) ⟨_, e4, rfl⟩
   refine wp_stop r.hand fun h5 e5 k5 q1_ => ?_
   obtain ⟨oe, he, hc⟩ := q1_
   refine wpAny_bind (wpAny_isInstance (T := "StopIteration") (b := true) ⟨oe, he, hc⟩ isSubtype_stop ?_)
   exact wpAny_pure ⟨rfl, rfl, p2 rfl _ (S4.same0 fun b o u_ e => k5 b o e)⟩
  ·rw [decide_eq_false (fun q => e q.symm)]
   exact wpAny_pure ⟨_, rfl, wpAny_pure ⟨rfl, rfl, p1 e⟩⟩
theorem ok_next_cie {P : Option Value → Heap → Prop} (S : St c g h l) (A1 : At l ia isCIe) (p : ∀ h', St c g h' l → P none h') : Ok c n (pyNext (.ref ia)) P h := by
 obtain ⟨o, ho, rfl⟩ := S.get A1
 intro A dr tk r
 have hT : (c.at h dr tk).TypeIs (.ref ia) "callable_iterator" := ⟨_, ho, rfl⟩
 unfold pyNext
 refine wpAny_bind (wpAny_attempt (wpAny_callSpecial?_slot (name := Str.ofString "__next__") hT slot_ci_next (wpAny_call_entry slot_ci_next hT entry_ci_next ?_ (args_ci_next _))))
 show wpAny _ _ (field (.ref ia) 2 >>= _) _ _ _
 refine wpAny_bind (wpAny_field ho rfl (x := .bool true) rfl ?_)
 refine wpAny_bind (wpAny_rule ?_)
 refine wpAny_bind (wp_stop r.hand fun h5 e5 k5 q1_ => ?_)
 obtain ⟨oe, he, hc⟩ := q1_
 refine wpAny_bind (wpAny_isInstance (T := "StopIteration") (b := true) ⟨oe, he, hc⟩ isSubtype_stop ?_)
 exact wpAny_pure ⟨rfl, rfl, p _ (S.same0 fun b o u_ e => k5 b o e)⟩
end
section
open PySem PySem.W PySem.Challenge PyProof.Rows Builtin Builtin.ObjectAttr
theorem fga : typeLookup (.type "function") "__getattribute__" = pure (some (.builtin "object.__getattribute__")) := by rw [typeLookup_type, builtinLookup_eq_fast]; kernel_rfl
theorem fgk : typeLookup (.type "function") "__getattr__" = pure none := by rw [typeLookup_type, builtinLookup_eq_fast]; kernel_rfl
theorem fread : typeLookup (.type "function") "read" = pure none := by rw [typeLookup_type, builtinLookup_eq_fast]; kernel_rfl
theorem slot_fga : Slot "function" "__getattribute__" "object.__getattribute__" :=
 .of (owner := "object") (n := "__getattribute__") (by rw [typeLookup_type, builtinLookup_eq_fast]; kernel_rfl) (by decide +kernel) (by decide +kernel) (by decide +kernel)
  (by first | exact .inl (by decide +kernel) | exact .inr (by decide +kernel)) (by rw [isSubtype_type]; kernel_rfl)
theorem slot_fsa : Slot "function" "__setattr__" "object.__setattr__" :=
 .of (owner := "object") (n := "__setattr__") (by rw [typeLookup_type, builtinLookup_eq_fast]; kernel_rfl) (by decide +kernel) (by decide +kernel) (by decide +kernel)
  (by first | exact .inl (by decide +kernel) | exact .inr (by decide +kernel)) (by rw [isSubtype_type]; kernel_rfl)
theorem entry_oga : entryFor table "object.__getattribute__" = some Builtin.«object.__getattribute__» := entryFor_of_tree (by kernel_rfl)
theorem entry_osa : entryFor table "object.__setattr__" = some Builtin.«object.__setattr__» := entryFor_of_tree (by kernel_rfl)
theorem args_oga (a b : Value) : argsOk "object.__getattribute__" ⟨[a, b], []⟩ := by unfold argsOk; kernel_rfl
theorem args_osa (a b c : Value) : argsOk "object.__setattr__" ⟨[a, b, c], []⟩ := by unfold argsOk; kernel_rfl
theorem mro_fn : mroOf (.type "function") = pure [.type "function", .type "object"] := by kernel_rfl
noncomputable def isFn (fd : FuncData) (d : Option Addr) : Obj → Prop := fun o => ∃ sl, o = { cls := .type "function", dict := d, data := .func fd, slots := sl }
section
variable {c : Cx} {n : Nat} {g h : Heap} {l l' l'' : Led} {q d : Addr} {fd : FuncData} {name : Str} {v : Value} {m m' : List (Str × Option Value)}
theorem ok_fnGetAttr {expr : Bool} {P : VP} (S : St c g h l) (hq : ∃ o, h.get? q = some o ∧ isFn fd (some d) o) (A : ∃ o, h.get? d = some o ∧ isNs m o) (H : Has m name v) (hn : typeLookup (.type "function") name = pure none) (hh : handedIn v = true) (p : P v h) :
  Ok c n (getAttr (.ref q) name expr) P h := by
 have Q := A
 have nd := isNs.nd Q
 obtain ⟨od, hod, Q⟩ := Q
 obtain ⟨o, ho, sl, rfl⟩ := hq
 intro A dr tk r
 have hT : ∀ tk', (c.at h dr tk').TypeIs (.ref q) "function" := fun tk' => ⟨_, ho, rfl⟩
 unfold getAttr getAttrBy
 refine wpAny_bind (wpAny_mkText (wpAny_holding (wpAny_bind (wpAny_typeOf (hT _) (wpAny_bind (wpAny_of_eq fga ?_))))))
 show wpAny _ _ (getAttrByItsOwn _ _ (.type "function") _ _ _) _ _ _
 unfold getAttrByItsOwn hookBefore
 refine wpAny_bind (wpAny_pure (wpAny_bind (wpAny_attempt (wpAny_holding ?_))))
 show wpAny _ _ (if (_ && onTheHeap (.builtin "object.__getattribute__")) = true then _ else _) _ _ _
 rw [if_neg (by simp -iota [onTheHeap])]
 unfold boundAndCalled
 rw [slot_fga.bind]
 refine wpAny_bind (wpAny_pure ?_)
 refine wpAny_call_entry slot_fga (hT _) entry_oga ?_ (args_oga _ _)
 unfold Builtin.«object.__getattribute__»
 refine wpAny_bind (wpAny_pure (wpAny_bind (wpAny_pure (wpAny_bind (wpAny_typeOf (hT _) ?_)))))
 have hown : Looks c.M h (inOwnDict name (.ref q)) (some v) := by
  unfold inOwnDict ObjectAttr.ownDict
  refine ((Looks.ld (part := _) ho).andThen (a := _) ((Looks.ld (part := _) ho).andThen (b := some d) .now)).andThen ?_
  refine (Looks.ld (part := _) hod).andThen ?_
  rw [nsLook_of (lookIn_of Q name), H.lookup nd]
  exact .now
 have hfind : Looks c.M h (find (.ref q) (.type "function") name) (.value v) := by
  unfold find
  exact (Looks.of_pure hn).andThen (Looks.now.andThen (Looks.now.andThen (hown.andThen (Looks.tag .now))))
 refine wpAny_bind (hfind.at (wpAny_pure ⟨_, rfl, ?_⟩))
 exact handed_on hh ⟨rfl, rfl, p⟩
theorem ok_fnGetMethod {pl : Sem Bool} {P : Value × List Value → Heap → Prop} (S : St c g h l) (hq : ∃ o, h.get? q = some o ∧ isFn fd (some d) o) (A : ∃ o, h.get? d = some o ∧ isNs m o) (H : Has m name v) (hn : typeLookup (.type "function") name = pure none) (hh : handedIn v = true) (p : P (v, []) h) :
  Ok c n (getMethod (.ref q) name pl) P h := by
 have key := ok_fnGetAttr (n := n) (expr := false) (P := fun v h => P (v, []) h) S hq A H hn hh p
 obtain ⟨o, ho, sl, rfl⟩ := hq
 intro A dr tk r
 have hT : (c.at h dr tk).TypeIs (.ref q) "function" := ⟨_, ho, rfl⟩
 unfold getMethod
 refine wpAny_bind (wpAny_specialOf hT fga ?_)
 show wpAny _ _ (if (Manifest.canonical "object.__getattribute__" != "object.__getattribute__") = true then _ else _) _ _ _
 rw [PySem.F.canon_object_ga, if_neg (by decide)]
 refine wpAny_bind (wpAny_specialOf hT fgk ?_)
 refine wpAny_bind (wpAny_specialOf hT hn ?_)
 exact wpAny_bind (wpAny_mono (key A dr tk r) (fun v s' z => wpAny_pure z) fun u_ u_ e => e)
theorem refuse_fn : refuseLoop (.ref q) "__setattr__" [.type "function", .type "object"] = pure () := by kernel_rfl
theorem ok_fnSetAttr {P : Unit → Heap → Prop} (S : St c g h l) (U : Up l q (isFn fd none) (isFn fd (some h.objs.size)) l') (hn : typeLookup (.type "function") name = pure none)
  (p : ∀ h', St c g h' ((h.objs.size, isNs [(name, some v)]) :: l') → P () h') : Ok c (n + 1) (setAttr (.ref q) name v) P h := by
 obtain ⟨o, ho, sl, rfl⟩ := S.at_ _ U.mem
 intro A dr tk r
 have hT : (c.at h dr (tk + 1)).TypeIs (.ref q) "function" := ⟨_, ho, rfl⟩
 unfold setAttr
 refine wpAny_bind (wpAny_mkText (wpAny_bind (wpAny_callSpecial?_slot (name := Str.ofString "__setattr__") hT slot_fsa (wpAny_call_entry slot_fsa hT entry_osa ?_ (args_osa _ _ _)))))
 rw [osa_eq, refuse_eq]
 refine wpAny_bind (wpAny_bind (wpAny_typeOf hT (wpAny_bind (wpAny_of_eq mro_fn ?_))))
 rw [refuse_fn]
 refine wpAny_pure (wpAny_bind (wpAny_typeOf hT (wpAny_bind (wpAny_of_eq hn (wpAny_bind (wpAny_pure ?_))))))
 unfold storeInOwnDict
 refine wpAny_bind (wpAny_pure ?_)
 show wpAny _ _ (ownDictForStores (.ref q) >>= _) _ _ _
 unfold ownDictForStores instanceDict
 refine wpAny_bind (wpAny_bind (wpAny_loadPart ho ?_))
 show wpAny _ _ (alloc _ >>= _) _ _ _
 refine wpAny_bind (wpAny_alloc (wpAny_bind (wpAny_update (o := { cls := .type "function", dict := none, data := .func fd, slots := sl }) (Heap.get?_push_of_some _ ho) ?_)))
 refine wpAny_bind (wpAny_pure (wpAny_pure ?_))
 have S1 : St c g (h.push { cls := .type "dict", data := .dict #[] }) ((h.objs.size, isNs [(name, none)]) :: l) :=
  S.push rfl ⟨#[], 0, rfl, fun e he => by simp -iota at he, fun x => by rw [lookup_none _ (by simp -iota)]; rfl, by simp, rfl⟩
 have S2 := S1.upd (.there U) (Heap.SameBut.update (h.push { cls := .type "dict", data := .dict #[] }) q fun o => { o with dict := some h.objs.size }) ⟨_, Heap.get?_update_self _ (Heap.get?_push_of_some _ ho) rfl, sl, rfl⟩
 have key : Ok c 0 (nsSet h.objs.size name v) (fun u_ h' => St c g h' ((h.objs.size, isNs [(name, some v)]) :: l')) _ := ok_nsSet S2 .here .here fun h' S' => S'
 refine wpAny_bind (wpAny_pure (wpAny_bind (key.use (A := A.in1) (r.in1.mono (Nat.zero_le _)) fun u_ h' d' tk' S' => ?_)))
 obtain ⟨od', hod', es, ep, hd2, hk2, hm2, nd2, sz2⟩ := S'.get .here
 refine wpAny_bind (wpAny_lookBehind hod' (by rw [hd2]; exact pastItsLine_dict (by rw [sz2, sizeLine_eq]; show 1 ≤ _; lia)) ?_)
 exact wpAny_pure ⟨_, rfl, wpAny_pure ⟨rfl, rfl, p _ S'⟩⟩
end
end
noncomputable def isInst (C d : Addr) : Obj → Prop := fun o => o = instObj C d
theorem isNs_none {ks : List Str} (nd : ks.Nodup) (cls : Value) : isNs (ks.map fun k => (k, none)) { cls := cls, data := .dict #[] } :=
 ⟨#[], 0, rfl, fun e he => by simp -iota at he, fun x => by rw [lookup_none _ (by simp -iota)]; rfl, by rw [List.map_map]; simpa -iota [Function.comp_def] using nd, by rw [cnt_none _ (by simp -iota)]; rfl⟩
section
variable {c : Cx} {n : Nat} {g h : Heap} {l l' : Led} {C fI : Addr} {rest : List Value}
theorem Room.make {A : Around} {C : Addr} {rest : List Value} (r : Room A (n + 1)) : Room (A.under (.builtin "type.__call__" ⟨.ref C :: rest, []⟩)) n :=
 ⟨by rw [depth_under_make]; have := r.1; lia, by rw [units_under_make]; have := r.2.1; lia, r.2.2⟩
theorem okC_make {P : Flow → Heap → Prop} (ks : List Str) (S : St c g h l) (hm : makesIn c.K C = true) (hi : findIn c.K (.ref C) "__init__" = some (some (.ref fI))) (hf : typeIn c.K (.ref fI) = some (.type "function")) (nd : ks.Nodup)
  (y : ∀ x d h', St c g h' ((x, isInst C d) :: (d, isNs (ks.map fun k => (k, none))) :: l) → OkC c n (.call (.ref fI) ⟨.ref x :: rest, []⟩) (fun fl h'' => fl = .ret .none ∧ P (.ret (.ref x)) h'') h') :
  OkC c (n + 1) (.call (.ref C) ⟨rest, []⟩) P h := by
 intro A dr tk r
 have X := S.topH.k
 refine make_core (makes_of X hm) (looks_findIn X hi) (fun self => bind_fn X self hf) (.inl rfl) ?_
 have S1 := S.push (o := emptyDict) (P := isNs (ks.map fun k => (k, none))) rfl (isNs_none nd _)
 have S2 := S1.push (o := instObj C h.objs.size) (P := isInst C h.objs.size) rfl rfl
 rw [Heap.size_push] at S2
 refine codeAny_mono (y _ _ _ S2 _ dr tk (r.make (C := C) (rest := rest))) fun res s' q => ?_
 cases res with
 | error e => exact q.elim
 | ok fl => obtain ⟨h1, h2, rfl, p⟩ := q; exact ⟨rfl, h1, h2, p⟩
end
noncomputable def isTab (ps : List Value) : Obj → Prop := fun o => o = tabObj ps.toArray
noncomputable def isCode (q : Str) : Obj → Prop := fun o => ∃ vs t, o.data = .fields vs ∧ vs[1]? = some (.str q t)
theorem codeRec_isCode {h : Heap} {a : Addr} {q : Str} (x : ∃ o, h.get? a = some o ∧ isCode q o) : h.CodeRec (.ref a) q := by
 obtain ⟨o, ho, vs, t, hd, hv⟩ := x
 exact ⟨a, o, vs, t, rfl, ho, hd, hv⟩
theorem Up.at_ {l l' : Led} {a : Addr} {P P' : Obj → Prop} (x : Up l a P P' l') : At l a P := by
 induction x with
 | here => exact .here
 | there _ ih => exact .there ih
section
variable {c : Cx} {n : Nat} {g h : Heap} {l l' : Led}
theorem St.lt (S : St c g h l) {p : Addr × (Obj → Prop)} (hp : p ∈ l) : p.1 < h.objs.size := by
 obtain ⟨o, ho, _⟩ := S.at_ p hp
 exact Heap.lt_size ho
theorem St.add {h₀ : Heap} {l₀ : Led} (S : St c g h l) (S₀ : St c g h₀ l₀) (hk : l.map (·.1) = l₀.map (·.1)) {a : Addr} {o : Obj} {W : Obj → Prop} (ho : h.get? a = some o) (w : W o) (hge : h₀.objs.size ≤ a) : St c g h ((a, W) :: l) := by
 refine ⟨S.top, S.keep, fun p hp => ?_, ?_, fun p hp => ?_, fun p hp => ?_⟩
 ·rcases List.mem_cons.mp hp with rfl | hp
  ·exact ⟨o, ho, w⟩
  ·exact S.at_ p hp
 ·rw [List.map_cons, List.nodup_cons]
  refine ⟨fun hm => ?_, S.nd⟩
  rw [hk] at hm
  obtain ⟨p, hp, e⟩ := List.mem_map.mp hm
  have h1 := S₀.lt hp
  have h2 : p.1 = a := e
  exact absurd (h2 ▸ h1) (Nat.not_lt.mpr hge)
 ·rcases List.mem_cons.mp hp with rfl | hp
  ·cases q' : g.get? a with
   | none => rfl
   | some o' => exact absurd (Heap.lt_size (S₀.keep _ _ q')) (Nat.not_lt.mpr hge)
  ·exact S.off p hp
 ·rcases List.mem_cons.mp hp with rfl | hp
  ·exact Nat.lt_of_lt_of_le S₀.big hge
  ·exact S.low p hp
theorem St.frame1 (S : St c g h l) {P : Addr} {W W' : Obj → Prop} (U : Up l P W W' l') {h' : Heap} (hx : Heap.ExtBut P h h') (q : ∃ o, h'.get? P = some o ∧ W' o) : St c g h' l' :=
 S.same1 (fun b o nb e => hx b o (by simpa -iota using nb) e) U q
theorem builtinsAt_of' {P : Addr} {ps : Array Value} (hP : h.get? P = some (tabObj ps)) {mg : Str → Option Value} (hg : h.Ns mainGlobals mg) (b : ∃ bm ob, mg "__builtins__" = some (.ref bm) ∧ bm ≠ builtinsNs ∧ h.get? bm = some ob ∧ ob.cls = .type "module" ∧ ob.dict = some builtinsNs ∧ ob.data = .plain) :
  mainGlobals ≠ P ∧ h.BuiltinsAt mg P := by
 obtain ⟨bm, ob, b1, b2, b3, b4, b5, b6⟩ := b
 have hgP : mainGlobals ≠ P := fun q => by
  obtain ⟨o, es, ep, e, hd, _⟩ := hg
  rw [q, hP] at e; cases e; cases hd
 have hbP : bm ≠ P := fun q => by
  rw [q, hP] at b3; cases b3; cases b4
 have hbG : bm ≠ mainGlobals := fun q => by
  obtain ⟨o, es, ep, e, hd, _⟩ := hg
  rw [q, e] at b3; cases b3; rw [hd] at b6; cases b6
 exact ⟨hgP, bm, ob, b1, b2, hbG, hbP, b3, b4, b5, b6⟩
variable {name qual : Str} {params : Arguments} {body : List Stmt} {scope : Scope} {env : Env} {cc P : Addr} {ps : List Value} {pos : Pos} {firstLine : Nat} {clos : List (Str × Addr)}
theorem ok_makeFn_hit {R : VP} {cv : Value} (S : St c g h l) (hcl : closureFor scope env = pure clos) (hge : env.globals = mainGlobals) (hcode : env.code = .ref cc) (C : CodeHd g cc P) (hP : h.get? P = some (tabObj ps.toArray)) (ht : TriplesOk ps)
  (hf : codeAmong pos ps = some cv)
  (p : ∀ q ctv doc pm h', St c g h' ((q, isFn (fnX name qual params body scope clos .none .none doc pm none cv ctv) none) :: l) → R (.ref q) h') :
  Ok c n (makeFunction name qual params (.stmts body) scope env [] [] [] pos firstLine) R h := by
 obtain ⟨mg, hns, b⟩ := S.topH.gl
 obtain ⟨hgP, hb⟩ := builtinsAt_of' hP hns b
 intro A' dr tk r
 refine makeFunction_hit (ps := ps.toArray) hcl hge hns hcode (C.keeps S.keep) hP (by simpa -iota using ht) (by simpa -iota using hf) hb fun ctv doc h' tk' hx hge' => ?_
 exact ⟨rfl, rfl, p _ ctv doc ((mg "__name__").getD .none) _ ((S.same0 fun b o u_ e => hx b o e).push rfl ⟨#[], rfl⟩)⟩
theorem ok_makeLam_hit {R : VP} {e : PySem.Expr} {cv : Value} (S : St c g h l) (hcl : closureFor scope env = pure clos) (hge : env.globals = mainGlobals) (hcode : env.code = .ref cc) (C : CodeHd g cc P) (hP : h.get? P = some (tabObj ps.toArray)) (ht : TriplesOk ps)
  (hf : codeAmong pos ps = some cv)
  (p : ∀ q ctv pm h', St c g h' ((q, isFn (kla_fn name qual params e scope clos pm cv ctv) none) :: l) → R (.ref q) h') :
  Ok c n (makeFunction name qual params (.expr e) scope env [] [] [] pos firstLine) R h := by
 obtain ⟨mg, hns, b⟩ := S.topH.gl
 obtain ⟨hgP, hb⟩ := builtinsAt_of' hP hns b
 intro A' dr tk r
 refine kla_makeFunctionHit (ps := ps.toArray) hcl hge hns hcode (C.keeps S.keep) hP (by simpa -iota using ht) (by simpa -iota using hf) hb fun ctv h' tk' hx hge' => ?_
 exact ⟨rfl, rfl, p _ ctv ((mg "__name__").getD .none) _ ((S.same0 fun b o u_ e => hx b o e).push rfl ⟨#[], rfl⟩)⟩
end
section
variable {c : Cx} {n : Nat} {g h : Heap} {l l' : Led} {env : Env}
theorem ok_Def {name : Str} {params : Arguments} {body : List Stmt} {scope : Scope} {pos : Pos} {P : Flow → Heap → Prop} (hd0 : params.defaults = []) (hk0 : params.kw_defaults = []) (ha : annTrees params none env = [])
  (x : Ok c n (makeFunction name (qualnameIn env name name) params (.stmts body) scope env [] [] [] pos pos.line) (fun v h₁ => Ok c n (storeName env name v) (fun u_ => P .next) h₁) h) :
  Ok c n (exec (.FunctionDef name params body [] none [] scope none name pos) env) P h :=
 fun A d tk r => nestDef_K hd0 hk0 ha (x.use r fun v h₁ d₁ tk₁ z => z A d₁ tk₁ r)
theorem ok_Lambda {params : Arguments} {body : PySem.Expr} {scope : Scope} {pos : Pos} {P : VP} (hd0 : params.defaults = []) (hk0 : params.kw_defaults = [])
  (x : Ok c n (makeFunction "<lambda>" (env.qual ++ "<lambda>") params (.expr body) scope env [] [] [] pos pos.line) P h) : Ok c n (eval (.Lambda params body scope pos) env) P h := by
 obtain ⟨po, as, va, ko, kd, kw, ds⟩ := params
 simp -iota only at hd0 hk0
 subst hd0 hk0
 exact ok_bind (ok_pure (ok_bind (ok_holding (ok_pure x))))
end
section
variable {c : Cx} {n : Nat} {g h : Heap} {l l' : Led} {env : Env} {x y : Str} {t u : Tok} {i j : Int} {a b : Addr} {vs ws : List Value} {v : Value}
theorem ok_eq_str {P : VP} (p : P (.bool (x == y)) h) : Ok c n (compareOp .Eq (.str x t) (.str y u)) P h := fun u_ u_ u_ u_ => eq_str ⟨rfl, rfl, p⟩
theorem ok_ne_str {P : VP} (p : P (.bool (x != y)) h) : Ok c n (compareOp .NotEq (.str x t) (.str y u)) P h := fun u_ u_ u_ u_ => ne_str ⟨rfl, rfl, p⟩
theorem ok_in_str {P : VP} (p : P (.bool (Txt.contains x y)) h) : Ok c n (compareOp .In (.str y u) (.str x t)) P h := fun u_ u_ u_ u_ => SB.contains ⟨rfl, rfl, p⟩
theorem ok_add_str {P : VP} (hz : x.length + y.length ≤ 16777216) (p : ∀ t, P (.str (x ++ y) t) h) : Ok c n (binaryOp .Add (.str x t) (.str y u)) P h := fun u_ u_ u_ u_ => SB.add (fun u_ u_ => ⟨rfl, rfl, p _⟩) (by rw [sizeLine_eq]; exact hz)
theorem ok_iadd_str {P : VP} (hz : x.length + y.length ≤ 16777216) (p : ∀ t, P (.str (x ++ y) t) h) : Ok c n (inplaceOp .Add (.str x t) (.str y u)) P h := fun u_ u_ u_ u_ => SB.iadd (fun u_ u_ => ⟨rfl, rfl, p _⟩) (by rw [sizeLine_eq]; exact hz)
theorem ok_eq_int {P : VP} (p : P (.bool (i == j)) h) : Ok c n (compareOp .Eq (.int i t) (.int j u)) P h := fun u_ u_ u_ u_ => eq_int ⟨rfl, rfl, p⟩
theorem ok_ne_int {P : VP} (p : P (.bool (i != j)) h) : Ok c n (compareOp .NotEq (.int i t) (.int j u)) P h := fun u_ u_ u_ u_ => ne_int ⟨rfl, rfl, p⟩
theorem ok_lt_int {P : VP} (p : P (.bool (decide (i < j))) h) : Ok c n (compareOp .Lt (.int i t) (.int j u)) P h := fun u_ u_ u_ u_ => lt_int ⟨rfl, rfl, p⟩
theorem ok_gt_int {P : VP} (p : P (.bool (decide (j < i))) h) : Ok c n (compareOp .Gt (.int i t) (.int j u)) P h := fun u_ u_ u_ u_ => gt_int ⟨rfl, rfl, p⟩
theorem ok_add_int {P : VP} (p : ∀ t, P (.int (i + j) t) h) : Ok c n (binaryOp .Add (.int i t) (.int j u)) P h := fun u_ u_ u_ u_ => add_int ⟨rfl, rfl, p _⟩
theorem ok_sub_int {P : VP} (p : ∀ t, P (.int (i - j) t) h) : Ok c n (binaryOp .Sub (.int i t) (.int j u)) P h := fun u_ u_ u_ u_ => sub_int ⟨rfl, rfl, p _⟩
theorem ok_iadd_int {P : VP} (p : ∀ t, P (.int (i + j) t) h) : Ok c n (inplaceOp .Add (.int i t) (.int j u)) P h := fun u_ u_ u_ u_ => iadd_int ⟨rfl, rfl, p _⟩
theorem ok_mod_int {P : VP} (hj : j ≠ 0) (p : ∀ t, P (.int (i.fmod j) t) h) : Ok c n (binaryOp .Mod (.int i t) (.int j u)) P h := fun u_ u_ u_ u_ => mod_int' hj ⟨rfl, rfl, p _⟩
theorem ok_isTrue_and_nil {pos : Pos} {w : Sem Value} {P : Bool → Heap → Prop} (p : P true h) : Ok c n (isTrue (.BoolOp .And [] pos) env w) P h := ok_pure p
theorem ok_isTrue_or_nil {pos : Pos} {w : Sem Value} {P : Bool → Heap → Prop} (p : P false h) : Ok c n (isTrue (.BoolOp .Or [] pos) env w) P h := ok_pure p
theorem ok_isTrue_and {e : PySem.Expr} {es : List PySem.Expr} {pos : Pos} {w : Sem Value} {P : Bool → Heap → Prop}
  (z : Ok c n (isTrue e env (eval e env)) (kAnd es pos env c n P) h) : Ok c n (isTrue (.BoolOp .And (e :: es) pos) env w) P h := by
 show Ok c n (isTrue e env (eval e env) >>= fun b => match BoolOp.And, b with | .And, false => pure false | .Or, true => pure true | _, _ => allTrue .And es env) P h
 refine ok_bind (z.mono fun b h₁ y => ?_)
 cases b
 ·exact ok_pure (y.2 rfl)
 ·exact y.1 rfl
theorem ok_isTrue_or {e : PySem.Expr} {es : List PySem.Expr} {pos : Pos} {w : Sem Value} {P : Bool → Heap → Prop}
  (z : Ok c n (isTrue e env (eval e env)) (kOr es pos env c n P) h) : Ok c n (isTrue (.BoolOp .Or (e :: es) pos) env w) P h := by
 show Ok c n (isTrue e env (eval e env) >>= fun b => match BoolOp.Or, b with | .And, false => pure false | .Or, true => pure true | _, _ => allTrue .Or es env) P h
 refine ok_bind (z.mono fun b h₁ y => ?_)
 cases b
 ·exact y.1 rfl
 ·exact ok_pure (y.2 rfl)
theorem ok_isTrue_not {e : PySem.Expr} {pos : Pos} {w : Sem Value} {P : Bool → Heap → Prop} (z : Ok c n (isTrue e env (eval e env)) (kNot P) h) : Ok c n (isTrue (.UnaryOp .Not e pos) env w) P h :=
 ok_bind (z.mono fun b h₁ y => ok_pure y)
theorem ok_isTrue {e : PySem.Expr} {w : Sem Value} {P : Bool → Heap → Prop} (hp : isTrue e env w = (w >>= fun v => standAt e.pos >>= fun u_ => holding [v] (truthy v))) (z : Ok c n w (kTru c n P) h) : Ok c n (isTrue e env w) P h := by
 rw [hp]
 exact ok_bind (z.mono fun v h₁ y => ok_bind (ok_standAt (ok_holding y)))
theorem ok_IfExp {test body orelse : PySem.Expr} {pos : Pos} {P : VP} (z : Ok c n (isTrue test env (eval test env)) (kIfE body orelse env c n P) h) : Ok c n (eval (.IfExp test body orelse pos) env) P h := by
 show Ok c n (isTrue test env (eval test env) >>= fun b => if b then eval body env else eval orelse env) P h
 refine ok_bind (z.mono fun b h₁ y => ?_)
 cases b
 ·exact y.2 rfl
 ·exact y.1 rfl
theorem ok_newList {P : VP} (S : St c g h l) (hz : vs.length ≤ 1000000) (p : ∀ a h', St c g h' ((a, isList vs) :: l) → P (.ref a) h') : Ok c n (newList vs) P h :=
 fun A d tk r => wpAny_newObj_type ⟨rfl, rfl, p _ _ (S.push rfl ⟨0, rfl⟩)⟩ (by simp only [sizeOk, sizeLine_eq]; simp; lia)
theorem ok_List {es : List PySem.Expr} {pos : Pos} {P : VP} (z : Ok c n (spliced (backTo pos (starEach es env))) (kList c n P) h) : Ok c n (eval (.List es pos) env) P h :=
 ok_bind (ok_standAt (ok_bind z))
theorem ok_ne_nil {P : VP} (S : St c g h l) (A1 : At l a (isList vs)) (A2 : At l b (isList [])) (p : P (.bool (!vs.isEmpty)) h) : Ok c n (compareOp .NotEq (.ref a) (.ref b)) P h := by
 have h1 := isList.is (S.get A1)
 have h2 := isList.is (S.get A2)
 intro A dr tk r
 show wpAny _ _ (richCompare .NotEq (.ref a) (.ref b)) _ _ _
 cases vs with
 | nil =>
  have z := SeqAt.RcNeAt.lists (s := c.at h dr tk) (A := A) (e := fun u_ => true) h1 h2 rfl r.units (fun j h1 h2 => by simp -iota at h1)
  exact z c.prog c.w NoE (c.Q P) ⟨rfl, rfl, p⟩
 | cons v vs =>
  have z := SeqAt.RcNeAt.lists_lengths (s := c.at h dr tk) (A := A) h1 h2 (by simp -iota) r.units
  exact z c.prog c.w NoE (c.Q P) ⟨rfl, rfl, p⟩
end
theorem St.perm {c : Cx} {g h : Heap} {l l' : Led} (S : St c g h l) (p : l'.Perm l) : St c g h l' :=
 S.sub (fun u_ hp => p.mem_iff.mp hp) ((p.map _).nodup_iff.mpr S.nd)
section
variable {c : Cx} {g h : Heap} {l : Led} {e1 e2 e3 e4 e5 : Addr × (Obj → Prop)}
theorem St.m24 {a b d e x y : Addr × (Obj → Prop)} (S : St c g h (x :: y :: a :: b :: d :: e :: l)) : St c g h (a :: b :: d :: e :: x :: y :: l) := S.perm ((List.perm_append_comm (l₁ := [a, b, d, e]) (l₂ := [x, y])).append_right l)
theorem St.d3 {e1 e2 e3 e4 e5 e6 : Addr × (Obj → Prop)} (S : St c g h (e1 :: e2 :: e3 :: e4 :: e5 :: e6 :: l)) : St c g h (e1 :: e2 :: e3 :: l) :=
 S.sub (fun p hp => by simp -iota only [List.mem_cons] at hp ⊢; rcases hp with rfl | rfl | rfl | hp <;> simp -iota [*]) (by have := S.nd; simp -iota only [List.map_cons, List.nodup_cons, List.mem_cons, not_or] at this ⊢; exact ⟨⟨this.1.1, this.1.2.1, this.1.2.2.2.2.2⟩, ⟨this.2.1.1, this.2.1.2.2.2.2⟩, this.2.2.1.2.2.2, this.2.2.2.2.2.2⟩)
theorem St.f2 (S : St c g h (e1 :: e2 :: l)) : St c g h (e2 :: e1 :: l) := S.perm (.swap ..)
theorem St.f3 (S : St c g h (e1 :: e2 :: e3 :: l)) : St c g h (e3 :: e1 :: e2 :: l) := S.perm ((List.Perm.swap ..).trans (.cons _ (.swap ..)))
theorem St.b3 (S : St c g h (e3 :: e1 :: e2 :: l)) : St c g h (e1 :: e2 :: e3 :: l) := S.perm ((List.Perm.cons _ (.swap ..)).trans (.swap ..))
theorem St.f4 (S : St c g h (e1 :: e2 :: e3 :: e4 :: l)) : St c g h (e4 :: e1 :: e2 :: e3 :: l) := S.perm ((List.Perm.swap ..).trans (.cons _ ((List.Perm.swap ..).trans (.cons _ (.swap ..)))))
theorem St.b4 (S : St c g h (e4 :: e1 :: e2 :: e3 :: l)) : St c g h (e1 :: e2 :: e3 :: e4 :: l) := S.perm ((List.Perm.cons _ ((List.Perm.cons _ (.swap ..)).trans (.swap ..))).trans (.swap ..))
end
theorem St.here {c : Cx} {g h : Heap} {l : Led} (S : St c g h l) {a : Addr} {W : Obj → Prop} (x : ∃ o, g.get? a = some o ∧ W o) : ∃ o, h.get? a = some o ∧ W o := by obtain ⟨o, e, w⟩ := x; exact ⟨o, S.keep _ _ e, w⟩
theorem kept_isFn {c : Cx} {h : Heap} {f : Addr} {fd : FuncData} {d : Option Addr} (x : ∃ o, h.get? f = some o ∧ isFn fd d o) : Kept c h (.ref f) := by
 obtain ⟨o, ho, sl, rfl⟩ := x
 exact kept_func ho rfl
noncomputable def Then (c : Cx) (n : Nat) (env : Env) (rest : List Stmt) (P : Flow → Heap → Prop) : Flow → Heap → Prop := fun f h => match f with
 | .next => Ok c n (execs rest env) P h
 | f => P f h
section
variable {c : Cx} {n : Nat} {g h : Heap} {l l' : Led} {env : Env} {x : Str} {v : Value} {rest : List Stmt} {pos p' : Pos} {P : Flow → Heap → Prop}
theorem then_next (y : Ok c n (execs rest env) P h) : Then c n env rest P .next h := y
theorem then_ret (y : P (.ret v) h) : Then c n env rest P (.ret v) h := y
theorem then_cont (y : P .cont h) : Then c n env rest P .cont h := y
theorem ok_s {st : Stmt} (y : Ok c n (exec st env) (Then c n env rest P) h) : Ok c n (execs (st :: rest) env) P h := ok_execs_cons (y.mono fun f h' z => by cases f <;> exact z)
theorem ok_x_ret {e : PySem.Expr} (y : Ok c n (eval e env) (kRet P) h) : Ok c n (exec (.Return (some e) pos) env) (Then c n env rest P) h := (ok_Return (y.mono fun u_ u_ z => z))
theorem ok_x_set {value : PySem.Expr} (hs : swapsWith value (some (.Name x p')) pos.line env = pure false) (y : Ok c n (eval value env) (kSet x rest env c n P) h) :
  Ok c n (exec (.Assign [.Name x p'] value pos) env) (Then c n env rest P) h := (ok_Assign_Name (y.mono fun u_ u_ z => z.mono fun u_ u_ z => z) hs)
theorem ok_x_aug {op : Operator} {value : PySem.Expr} (y : Ok c n (loadName env x) (kAug1 value op env c n (kSet x rest env c n P)) h) :
  Ok c n (exec (.AugAssign (.Name x p') op value pos) env) (Then c n env rest P) h := (ok_AugAssign_Name (y.mono fun u_ u_ z => z.mono fun u_ u_ z => z.mono fun u_ u_ z => z.mono fun u_ u_ z => z))
theorem ok_x_if {test : PySem.Expr} {body orelse : List Stmt} (y : Ok c n (isTrue test env (eval test env)) (kIf body orelse env c n (Then c n env rest P)) h) :
  Ok c n (exec (.If test body orelse pos) env) (Then c n env rest P) h := (ok_If y)
theorem ok_x_expr {f : PySem.Expr} {as : List PySem.Expr} {ks : List Keyword} {p2 : Pos} (hi : interactive env = false) (hsw : swapsWith (.Call f as ks p2) none pos.line env = pure false) (y : Ok c n (eval (.Call f as ks p2) env) (kRest rest env c n P) h) : Ok c n (exec (.Expr (.Call f as ks p2) pos) env) (Then c n env rest P) h := (ok_Expr hi hsw y)
theorem ok_x_cont : P .cont h → Ok c n (exec (.Continue pos) env) (Then c n env rest P) h := fun y => (ok_Continue y)
theorem ok_x_for {target iter : PySem.Expr} {body orelse : List Stmt} (hs : ∀ x, foldedSetIterable iter env x = pure x)
  (y : Ok c n (eval iter env) (kFor1 target body orelse env c n (Then c n env rest P)) h) : Ok c n (exec (.For target iter body orelse pos) env) (Then c n env rest P) h := (ok_For hs y)
theorem ok_x_while {test : PySem.Expr} {body orelse : List Stmt} (y : OkC c n (.whileLoop test body orelse env) (Then c n env rest P) h) : Ok c n (exec (.While test body orelse pos) env) (Then c n env rest P) h := (ok_While y)
theorem ok_x_def {name : Str} {params : Arguments} {body : List Stmt} {scope : Scope} (hd0 : params.defaults = []) (hk0 : params.kw_defaults = []) (ha : annTrees params none env = [])
  (y : Ok c n (makeFunction name (qualnameIn env name name) params (.stmts body) scope env [] [] [] pos pos.line) (kSet name rest env c n P) h) :
  Ok c n (exec (.FunctionDef name params body [] none [] scope none name pos) env) (Then c n env rest P) h := (ok_Def hd0 hk0 ha (y.mono fun u_ u_ z => z.mono fun u_ u_ z => z))
theorem ok_ldFg {a : Addr} {P : VP} (S : St c g h l) (hk : env.scope.kind = .function) (hl : env.kindOf x = some .free) (hc : env.cells.lookup x = some a) (hn : (x == ("__classdict__" : Str)) = false) (A : ∃ o, g.get? a = some o ∧ isCell (some v) o) (p : P v h) : Ok c n (loadName env x) P h :=
 fun u_ u_ u_ u_ => wpAny_loadName_free hk hl hc (let ⟨o, a, b⟩ := A; ⟨o, S.keep _ _ a, b⟩) ⟨rfl, rfl, p⟩ hn
theorem ok_x_setAttr {o : PySem.Expr} {attr : Str} {value : PySem.Expr} (hs : swapsWith value (some (.Attribute o attr p')) pos.line env = pure false) (hw : swappedStores [.Attribute o attr p'] value env = pure none)
  (y : Ok c n (eval value env) (kSA1 o attr rest env c n P) h) : Ok c n (exec (.Assign [.Attribute o attr p'] value pos) env) (Then c n env rest P) h := by
 show Ok c n (standAt pos >>= fun u_ => swapsWith value (some (.Attribute o attr p')) pos.line env >>= fun b => if b then _ else (eval value env >>= fun v => swappedStores [.Attribute o attr p'] value env >>= fun s => assignStores env v s _)) _ h
 rw [hs, hw]
 refine ok_bind (ok_standAt (ok_bind (ok_pure (ok_bind (y.mono fun v h₁ z => ok_bind (ok_pure ?_))))))
 refine ok_bind (t := holding [v] (eval o env) >>= fun ov => standAt p'.atName >>= fun u_ => holding [v, ov] (setAttr ov attr v) >>= fun u_ => release [v, ov] []) ?_
 refine ok_bind (ok_holding (z.mono fun ov h₂ z => ok_bind (ok_standAt (ok_bind (ok_holding (z.mono fun u_ h₃ z => ?_))))))
 exact fun A d tk r Γ p hΓ => by rw [Sem.wp_release]; exact ⟨rfl, rfl, ok_pure z⟩
theorem ok_x_augAttr {o : PySem.Expr} {attr : Str} {op : Operator} {value : PySem.Expr}
  (y : Ok c n (eval o env) (fun ov h₁ => Ok c n (getAttr ov attr true) (fun old h₂ => Ok c n (eval value env) (fun v h₃ => Ok c n (inplaceOp op old v) (fun r h₄ => Ok c n (setAttr ov attr r) (fun u_ h₅ => Ok c n (execs rest env) P h₅) h₄) h₃) h₂) h₁) h) :
  Ok c n (exec (.AugAssign (.Attribute o attr p') op value pos) env) (Then c n env rest P) h := by
 refine ok_bind (ok_standAt (ok_bind (y.mono fun ov h₁ z => ok_bind (ok_holding (ok_bind (ok_standAt (ok_bind (z.mono fun old h₂ z => ok_bind (ok_holding (z.mono fun v h₃ z => ok_bind (ok_standAt ?_)))))))))))
 intro A d tk r Γ p hΓ
 rw [Sem.wp_operate]
 refine (z.use r fun rr h₄ d₄ tk₄ z => ?_) Γ p hΓ
 refine ⟨rfl, rfl, ok_bind (ok_standAt (ok_bind (ok_holding (z.mono fun u_ h₅ z => ?_))))⟩
 refine ok_bind ?_
 exact fun A d tk r Γ p hΓ => by rw [Sem.wp_release]; exact ⟨rfl, rfl, ok_pure z⟩
end
section
variable {c : Cx} {n : Nat} {g h : Heap} {l l' : Led} {fd : FuncData} {f L a : Addr} {cs : List (Str × Addr)} {x : Str} {v : Value} {m m' : List (Str × Option Value)}
theorem ok_ldM {P : VP} (S : St c g h l) (hk : fd.scope.kind = .function) (hl : (mkEnv fd f L cs).kindOf x = some .local) (A : At l L (isNs m)) (H : Has m x v) (p : P v h) : Ok c n (loadName (mkEnv fd f L cs) x) P h := ok_ld S rfl hk hl A H p
theorem ok_stM {P : Unit → Heap → Prop} (S : St c g h l) (hk : fd.scope.kind = .function) (hl : (mkEnv fd f L cs).kindOf x = some .local) (U : Up l L (isNs m) (isNs m') l') (H : Put m x v m') (p : ∀ h', St c g h' l' → P () h') : Ok c n (storeName (mkEnv fd f L cs) x v) P h := ok_st S rfl hk hl U H p
theorem ok_ldFM {P : VP} (S : St c g h l) (hk : fd.scope.kind = .function) (hl : (mkEnv fd f L cs).kindOf x = some .free) (hn : (x == ("__classdict__" : Str)) = false) (hc : cs.lookup x = some a) (A : ∃ o, g.get? a = some o ∧ isCell (some v) o) (p : P v h) : Ok c n (loadName (mkEnv fd f L cs) x) P h := ok_ldFg S hk hl hc hn A p
theorem ok_ldGM {P : VP} (S : St c g h l) (hg : fd.globals = mainGlobals) (hk : fd.scope.kind = .function) (hl : (mkEnv fd f L cs).kindOf x = some .globalImplicit) (e : nsIn c.K mainGlobals x = some (some v)) (p : P v h) : Ok c n (loadName (mkEnv fd f L cs) x) P h := ok_ldG S hg hk hl e p
theorem ok_ldBM {P : VP} (S : St c g h l) (hg : fd.globals = mainGlobals) (hb : fd.builtins = builtinsNs) (hk : fd.scope.kind = .function) (hl : (mkEnv fd f L cs).kindOf x = some .globalImplicit) (e : nsIn c.K mainGlobals x = some none) (hv : bootBuiltins x = some v) (hn : x ≠ "__name__") (p : P v h) : Ok c n (loadName (mkEnv fd f L cs) x) P h := ok_ldB S hg hb hk hl e hv hn p
end
noncomputable def testsOf (ifs : List PySem.Expr) (env : Env) : Sem Bool := forIn ifs true fun c r => if r = true then do let ok ← isTrue c env (eval c env); pure (ForInStep.yield ok) else pure (ForInStep.yield r)
theorem compTurn_last (elt : PySem.Expr) (gens : List Comprehension) (scope : Scope) (pos : Pos) (d : Nat) (it acc : Value) (env : Env) (target iter : PySem.Expr) (ifs : List PySem.Expr) (hg : gens[d]? = some ⟨target, iter, ifs, 0⟩) (hl : gens[d + 1]? = none) :
  compTurn (.ListComp elt gens scope pos) d it acc env = (do
   standAt iter.pos
   match ← pyNext it with
   | none => pure (.done .next)
   | some v =>
    letOwnedTupleGo target it v
    assign target env v
    let ok ← testsOf ifs env
    if ok then
     (do let _ ← call (.builtin "list.append") [acc, ← eval elt env])
    again (.compLoop (.ListComp elt gens scope pos) d it acc env)) := by
 unfold compTurn
 simp only [hg, hl]
 rfl
theorem compTurn_more (elt : PySem.Expr) (gens : List Comprehension) (scope : Scope) (pos : Pos) (d : Nat) (it acc : Value) (env : Env) (target iter : PySem.Expr) (ifs : List PySem.Expr) (target' iter' : PySem.Expr) (ifs' : List PySem.Expr)
  (hg : gens[d]? = some ⟨target, iter, ifs, 0⟩) (hl : gens[d + 1]? = some ⟨target', iter', ifs', 0⟩) :
  compTurn (.ListComp elt gens scope pos) d it acc env = (do
   standAt iter.pos
   match ← pyNext it with
   | none => pure (.done .next)
   | some v =>
    letOwnedTupleGo target it v
    assign target env v
    let ok ← testsOf ifs env
    if ok then do
     let x ← eval iter' env
     standAt iter'.pos
     let x ← foldedSetIterable iter' env x
     let it' ← holding [x] (pyIter x)
     let _ ← runOwn (.compStart (.ListComp elt gens scope pos) (d + 1) it' acc env) env
     again (.compLoop (.ListComp elt gens scope pos) d it acc env)
    else again (.compLoop (.ListComp elt gens scope pos) d it acc env)) := by
 unfold compTurn
 simp only [hg, hl]
 rfl
theorem compTurn_dict (kx vx : PySem.Expr) (gens : List Comprehension) (scope : Scope) (pos : Pos) (d : Nat) (it : Value) (D : Addr) (env : Env) (target iter : PySem.Expr) (ifs : List PySem.Expr) (hg : gens[d]? = some ⟨target, iter, ifs, 0⟩) (hl : gens[d + 1]? = none) :
  compTurn (.DictComp kx vx gens scope pos) d it (.ref D) env = (do
   standAt iter.pos
   match ← pyNext it with
   | none => pure (.done .next)
   | some v =>
    letOwnedTupleGo target it v
    assign target env v
    let ok ← testsOf ifs env
    if ok then
     (do
      let kv ← eval kx env
      let vv ← holding [kv] (eval vx env)
      standAt { kx.pos with endLine := vx.pos.endLine, endCol := vx.pos.endCol }
      holding [kv, vv] (dictSet D kv vv))
    again (.compLoop (.DictComp kx vx gens scope pos) d it (.ref D) env)) := by
 unfold compTurn
 simp only [hg, hl]
 rfl
section
variable {c : Cx} {n : Nat} {g h : Heap} {l l' : Led} {env : Env}
theorem ok_tests_nil {P : Bool → Heap → Prop} (p : P true h) : Ok c n (testsOf [] env) P h := ok_pure p
theorem ok_tests_one {e : PySem.Expr} {P : Bool → Heap → Prop} (y : Ok c n (isTrue e env (eval e env)) P h) : Ok c n (testsOf [e] env) P h := by
 unfold testsOf
 simp -iota only [List.forIn_cons, List.forIn_nil, if_true]
 exact ok_bind (ok_bind (y.mono fun b h' p => ok_pure (ok_pure p)))
theorem okC_turns {cd : Code} {P : Flow → Heap → Prop} (hq : cd.quiet = true) (hu : ∀ A : Around, A.under cd = A) (N : Nat) (J : Nat → Heap → Prop)
  (turn : ∀ i (T : Heap → Prop), (∀ h, i < N → J (i + 1) h → T h) → ∀ h, i ≤ N → J i h → Ok c n (c.M.den cd) (fun fin h' => match fin with | .done f => P f h' | .again c' => c' = cd ∧ T h') h) (x : J 0 h) : OkC c n cd P h := by
 intro A d tk r
 refine codeAny_loop hq (fun k s => s.gens = #[] ∧ s.os = c.os ∧ ∃ i, k = N - i ∧ i ≤ N ∧ J i s.heap) (fun k s i => ?_) N ⟨rfl, rfl, 0, rfl, Nat.zero_le _, x⟩
 obtain ⟨h1, g1, d1, t1, o1⟩ := s
 obtain ⟨rfl, rfl, i, rfl, hi, y⟩ := i
 rw [hu]
 refine (turn i _ (fun h a b => And.intro a b) h1 hi y).use r fun fin h' d' tk' z => ?_
 cases fin with
 | done f => exact ⟨rfl, rfl, z⟩
 | again c' =>
  obtain ⟨e, hlt, z⟩ := z
  exact ⟨e, N - (i + 1), Nat.sub_lt_sub_left hlt (Nat.lt_succ_self i), rfl, rfl, i + 1, rfl, hlt, z⟩
theorem ok_noted {α : Type} {t : Sem α} {f : Value → Sem Unit} {P : α → Heap → Prop} (x : Ok c n t P h) : Ok c n (t.onRaise f) P h :=
 fun A d tk r => wpAny_onRaise (wpAny_mono (x A d tk r) (fun u_ u_ q => q) fun u_ u_ e => e.elim)
noncomputable abbrev kApp (c : Cx) (n : Nat) (acc : Value) (T : Heap → Prop) : Value → Heap → Prop := fun v h₅ => Ok c n (call (.builtin "list.append") [acc, v]) (fun u_ h₆ => T h₆) h₅
noncomputable abbrev kDs2 (c : Cx) (n : Nat) (D : Addr) (T : Heap → Prop) (kv : Value) : Value → Heap → Prop := fun vv h₆ => Ok c n (dictSet D kv vv) (fun u_ h₇ => T h₇) h₆
noncomputable abbrev kDs1 (c : Cx) (n : Nat) (vx : PySem.Expr) (D : Addr) (env : Env) (T : Heap → Prop) : Value → Heap → Prop := fun kv h₅ => Ok c n (eval vx env) (kDs2 c n D T kv) h₅
noncomputable abbrev kCs2 (c : Cx) (n : Nat) (e : PySem.Expr) (d : Nat) (acc : Value) (env : Env) (T : Heap → Prop) : Value → Heap → Prop := fun it' h₆ => OkC c n (.compStart e d it' acc env) (fun u_ h₇ => T h₇) h₆
noncomputable abbrev kCs1 (c : Cx) (n : Nat) (e : PySem.Expr) (d : Nat) (acc : Value) (env : Env) (T : Heap → Prop) : Value → Heap → Prop := fun v h₅ => Ok c n (pyIter v) (kCs2 c n e d acc env T) h₅
noncomputable abbrev kTt (c : Cx) (n : Nat) (target : PySem.Expr) (it : Value) (ifs : List PySem.Expr) (e : PySem.Expr) (env : Env) (Q : VP) (T : Heap → Prop) (P : Flow → Heap → Prop) : Option Value → Heap → Prop := fun r h₁ => match r with
 | none => P .next h₁
 | some v => Ok c n (letOwnedTupleGo target it v) (fun u_ h₂ => Ok c n (assign target env v) (fun u_ h₃ => Ok c n (testsOf ifs env) (fun b h₄ => (b = true → Ok c n (eval e env) Q h₄) ∧ (b = false → T h₄)) h₃) h₂) h₁
theorem okC_compL {elt : PySem.Expr} {gens : List Comprehension} {scope : Scope} {pos : Pos} {d : Nat} {it acc : Value} {target iter : PySem.Expr} {ifs : List PySem.Expr} {P : Flow → Heap → Prop}
  (hg : gens[d]? = some ⟨target, iter, ifs, 0⟩) (hl : gens[d + 1]? = none) (N : Nat) (J : Nat → Heap → Prop)
  (turn : ∀ i (T : Heap → Prop), (∀ h, i < N → J (i + 1) h → T h) → ∀ h, i ≤ N → J i h → Ok c n (pyNext it) (kTt c n target it ifs elt env (kApp c n acc T) T P) h) (x : J 0 h) : OkC c n (.compLoop (.ListComp elt gens scope pos) d it acc env) P h := by
 refine okC_turns rfl (fun u_ => rfl) N J (fun i T hT h hi y => ?_) x
 show Ok c n ((compTurn (.ListComp elt gens scope pos) d it acc env).onRaise (fun x => do noteFrame x env; theTreesLotGoes x)) _ h
 refine ok_noted ?_
 rw [compTurn_last (hg := hg) (hl := hl)]
 refine ok_bind (ok_standAt (ok_bind ((turn i T hT h hi y).mono fun r h₁ z => ?_)))
 cases r with
 | none => exact ok_pure z
 | some v =>
  refine ok_bind (z.mono fun u_ h₂ z => ok_bind (z.mono fun u_ h₃ z => ok_bind (z.mono fun b h₄ z => ?_)))
  cases b with
  | false => exact ok_pure ⟨rfl, z.2 rfl⟩
  | true => exact ok_bind (ok_bind ((z.1 rfl).mono fun v h₅ z => ok_bind (z.mono fun u_ h₆ z => ok_pure (ok_pure ⟨rfl, z⟩))))
theorem okC_compM {elt : PySem.Expr} {gens : List Comprehension} {scope : Scope} {pos : Pos} {d : Nat} {it acc : Value} {target iter : PySem.Expr} {ifs : List PySem.Expr} {target' iter' : PySem.Expr} {ifs' : List PySem.Expr} {P : Flow → Heap → Prop}
  (hg : gens[d]? = some ⟨target, iter, ifs, 0⟩) (hl : gens[d + 1]? = some ⟨target', iter', ifs', 0⟩) (hs : ∀ x, foldedSetIterable iter' env x = pure x) (N : Nat) (J : Nat → Heap → Prop)
  (turn : ∀ i (T : Heap → Prop), (∀ h, i < N → J (i + 1) h → T h) → ∀ h, i ≤ N → J i h → Ok c n (pyNext it) (kTt c n target it ifs iter' env (kCs1 c n (.ListComp elt gens scope pos) (d + 1) acc env T) T P) h) (x : J 0 h) : OkC c n (.compLoop (.ListComp elt gens scope pos) d it acc env) P h := by
 refine okC_turns rfl (fun u_ => rfl) N J (fun i T hT h hi y => ?_) x
 show Ok c n ((compTurn (.ListComp elt gens scope pos) d it acc env).onRaise (fun x => do noteFrame x env; theTreesLotGoes x)) _ h
 refine ok_noted ?_
 rw [compTurn_more (hg := hg) (hl := hl)]
 refine ok_bind (ok_standAt (ok_bind ((turn i T hT h hi y).mono fun r h₁ z => ?_)))
 cases r with
 | none => exact ok_pure z
 | some v =>
  refine ok_bind (z.mono fun u_ h₂ z => ok_bind (z.mono fun u_ h₃ z => ok_bind (z.mono fun b h₄ z => ?_)))
  cases b with
  | false => exact ok_pure ⟨rfl, z.2 rfl⟩
  | true =>
   refine ok_bind ((z.1 rfl).mono fun v h₅ z => ok_bind (ok_standAt ?_))
   rw [hs]
   refine ok_bind (ok_pure (ok_bind (ok_holding (z.mono fun it' h₆ z => ok_bind ?_))))
   exact fun A d tk r => wpAny_runOwn (codeAny_mono (z A d tk r) fun r s' q => by
    cases r with
    | error e => exact q.elim
    | ok f => exact ⟨q.1, q.2.1, ok_pure ⟨rfl, q.2.2⟩⟩)
theorem okC_compD {kx vx : PySem.Expr} {gens : List Comprehension} {scope : Scope} {pos : Pos} {d : Nat} {it : Value} {D : Addr} {target iter : PySem.Expr} {ifs : List PySem.Expr} {P : Flow → Heap → Prop}
  (hg : gens[d]? = some ⟨target, iter, ifs, 0⟩) (hl : gens[d + 1]? = none) (N : Nat) (J : Nat → Heap → Prop)
  (turn : ∀ i (T : Heap → Prop), (∀ h, i < N → J (i + 1) h → T h) → ∀ h, i ≤ N → J i h → Ok c n (pyNext it) (kTt c n target it ifs kx env (kDs1 c n vx D env T) T P) h) (x : J 0 h) : OkC c n (.compLoop (.DictComp kx vx gens scope pos) d it (.ref D) env) P h := by
 refine okC_turns rfl (fun u_ => rfl) N J (fun i T hT h hi y => ?_) x
 show Ok c n ((compTurn (.DictComp kx vx gens scope pos) d it (.ref D) env).onRaise (fun x => do noteFrame x env; theTreesLotGoes x)) _ h
 refine ok_noted ?_
 rw [compTurn_dict (hg := hg) (hl := hl)]
 refine ok_bind (ok_standAt (ok_bind ((turn i T hT h hi y).mono fun r h₁ z => ?_)))
 cases r with
 | none => exact ok_pure z
 | some v =>
  refine ok_bind (z.mono fun u_ h₂ z => ok_bind (z.mono fun u_ h₃ z => ok_bind (z.mono fun b h₄ z => ?_)))
  cases b with
  | false => exact ok_pure ⟨rfl, z.2 rfl⟩
  | true => exact ok_bind (ok_bind ((z.1 rfl).mono fun v h₅ z => ok_bind (ok_holding (z.mono fun vv h₆ z => ok_bind (ok_standAt (ok_holding (z.mono fun u_ h₇ z => ok_pure ⟨rfl, z⟩)))))))
theorem okC_compStart {e : PySem.Expr} {d : Nat} {it acc : Value} {G : Comprehension} {P : Flow → Heap → Prop} (hg : (clausesOf e)[d]? = some G) (h0 : G.is_async = 0) (hu : ∀ A : Around, A.under (.compStart e d it acc env) = A)
  (hden : c.M.den (.compStart e d it acc env) = (compStart e d it acc env).onRaise (fun x => do noteFrame x env; standAt theWindowsPlace))
  (y : Ok c n (pyIter it) (fun it' h' => it' = it ∧ h' = h) h) (x : OkC c n (.compLoop e d it acc env) P h) : OkC c n (.compStart e d it acc env) P h := by
 intro A dr tk r
 refine codeAny_of_tree ?_
 rw [hu, hden]
 refine wpAny_onRaise (wpAny_mono (E := NoE) ?_ (fun u_ u_ q => q) fun u_ u_ e => e.elim)
 obtain ⟨tg, itr, ifs, asy⟩ := G
 cases h0
 unfold compStart
 simp -iota only [hg, Option.elim]
 show wpAny _ _ (ask >>= _) _ _ _
 refine wpAny_bind (wpAny_askSetting (wpAny_ite ?_))
 split
 ·exact wpAny_pure ⟨rfl, x A dr tk r⟩
 ·refine wpAny_bind (wpAny_rule (wpAny_bind (wpAny_standAt (wpAny_bind (y.use r fun it' h' d' tk' z => ?_)))))
  obtain ⟨rfl, rfl⟩ := z
  exact wpAny_pure ⟨rfl, x A d' tk' r⟩
theorem cellLed_none : ∀ (names : List (Str × NameKind)) (k : Nat) (l : Led), (∀ x ∈ names, x.2 ≠ .cell) → cellLed k names l = l
 | [], _, _, _ => rfl
 | (x, kd) :: r, k, l, hn => by
  have h1 : (kd == NameKind.cell) = false := by simpa -iota using hn (x, kd) List.mem_cons_self
  unfold cellLed
  rw [h1]
  exact cellLed_none r k l fun y hy => hn y (List.mem_cons_of_mem _ hy)
theorem cellsFrom_none : ∀ (names : List (Str × NameKind)) (k : Nat) (cl : List (Str × Addr)), (∀ x ∈ names, x.2 ≠ .cell) → cellsFrom k names cl = cl
 | [], _, _, _ => rfl
 | (x, kd) :: r, k, l, hn => by
  have h1 : (kd == NameKind.cell) = false := by simpa -iota using hn (x, kd) List.mem_cons_self
  unfold cellsFrom
  rw [h1]
  exact cellsFrom_none r k l fun y hy => hn y (List.mem_cons_of_mem _ hy)
theorem St.drop1 {C : Addr} {W : Obj → Prop} {h' : Heap} (S : St c g h ((C, W) :: l)) (s : Same [C] h h') : St c g h' l := by
 refine ⟨S.top, fun b o e => ?_, fun p hp => ?_, (List.nodup_cons.mp S.nd).2, fun p hp => S.off p (List.mem_cons_of_mem _ hp), fun p hp => S.low p (List.mem_cons_of_mem _ hp)⟩
 ·refine s b o (fun hm => ?_) (S.keep b o e)
  have := S.off (C, W) List.mem_cons_self
  rw [List.mem_singleton.mp hm] at e
  rw [this] at e; cases e
 ·obtain ⟨o, ho, w⟩ := S.at_ p (List.mem_cons_of_mem _ hp)
  refine ⟨o, s _ _ (fun hm => ?_) ho, w⟩
  exact (List.nodup_cons.mp S.nd).1 (List.mem_map.mpr ⟨p, hp, List.mem_singleton.mp hm⟩)
end
noncomputable def gone : Obj := { cls := .none, data := .freed }
noncomputable def hide (h : Heap) : List Addr → Heap
 | [] => h
 | a :: r => { hide h r with objs := (hide h r).objs.setIfInBounds a gone }
theorem hide_get (h : Heap) : ∀ (as : List Addr) (b : Addr), (hide h as).get? b = if b ∈ as then none else h.get? b
 | [], b => by simp -iota [hide]
 | a :: r, b => by
  have ih := hide_get h r b
  unfold Heap.get? at ih ⊢
  simp -iota only [hide, Array.getElem?_setIfInBounds]
  by_cases e : a = b
  ·subst e
   simp -iota only [List.mem_cons, true_or, if_true]
   by_cases hs : a < (hide h r).objs.size
   ·rw [if_pos hs]; rfl
   ·rw [if_neg hs]
  ·have e' : ¬ b = a := fun q => e q.symm
   simp -iota only [List.mem_cons, e', false_or, if_neg e]
   exact ih
set_option tactic.hygienic true in
theorem St.freeze {c : Cx} {g h : Heap} {l₁ l : Led} (S : St c g h (l₁ ++ l)) : ∃ g', St c g' h l ∧ (∀ b o, g.get? b = some o → g'.get? b = some o) ∧ (∀ p ∈ l₁, ∃ o, g'.get? p.1 = some o ∧ p.2 o) := by
 have le : ∀ b o, g.get? b = some o → (hide h (l.map (·.1))).get? b = some o := fun b o e => by
  rw [hide_get]
  split
  ·rename_i hm
   obtain ⟨p, hp, rfl⟩ := List.mem_map.mp hm
   rw [S.off p (List.mem_append_right _ hp)] at e; cases e
  ·exact S.keep _ _ e
 refine ⟨hide h (l.map (·.1)), ⟨S.top.keeps le, fun b o e => ?_, fun p hp => S.at_ p (List.mem_append_right _ hp), S.right.nd, fun p hp => ?_, fun p hp => S.low p (List.mem_append_right _ hp)⟩, le, fun p hp => ?_⟩
 ·rw [hide_get] at e
  split at e
  ·cases e
  ·exact e
 ·rw [hide_get, if_pos (List.mem_map_of_mem hp)]
 ·obtain ⟨o, ho, w⟩ := S.at_ p (List.mem_append_left _ hp)
  refine ⟨o, ?_, w⟩
  rw [hide_get, if_neg, ho]
  intro hm
  have nd := S.nd
  rw [List.map_append] at nd
  exact (List.nodup_append.mp nd).2.2 _ (List.mem_map_of_mem hp) _ hm rfl
inductive Del : Led → Addr → (Obj → Prop) → Led → Prop
 | here {a : Addr} {P : Obj → Prop} {r : Led} : Del ((a, P) :: r) a P r
 | there {e : Addr × (Obj → Prop)} {a : Addr} {P : Obj → Prop} {r r' : Led} : Del r a P r' → Del (e :: r) a P (e :: r')
section
variable {e0 e1 e2 e3 e4 e5 e6 e7 e8 e9 e10 e11 : Addr × (Obj → Prop)} {a : Addr} {P : Obj → Prop} {r : Led}
theorem Del.i1 : Del (e0 :: (a, P) :: r) a P (e0 :: r) := .there .here
theorem Del.i2 : Del (e0 :: e1 :: (a, P) :: r) a P (e0 :: e1 :: r) := .there .i1
theorem Del.i3 : Del (e0 :: e1 :: e2 :: (a, P) :: r) a P (e0 :: e1 :: e2 :: r) := .there .i2
theorem Del.i4 : Del (e0 :: e1 :: e2 :: e3 :: (a, P) :: r) a P (e0 :: e1 :: e2 :: e3 :: r) := .there .i3
theorem Del.i5 : Del (e0 :: e1 :: e2 :: e3 :: e4 :: (a, P) :: r) a P (e0 :: e1 :: e2 :: e3 :: e4 :: r) := .there .i4
theorem Del.i6 : Del (e0 :: e1 :: e2 :: e3 :: e4 :: e5 :: (a, P) :: r) a P (e0 :: e1 :: e2 :: e3 :: e4 :: e5 :: r) := .there .i5
theorem Del.i7 : Del (e0 :: e1 :: e2 :: e3 :: e4 :: e5 :: e6 :: (a, P) :: r) a P (e0 :: e1 :: e2 :: e3 :: e4 :: e5 :: e6 :: r) := .there .i6
theorem Del.i8 : Del (e0 :: e1 :: e2 :: e3 :: e4 :: e5 :: e6 :: e7 :: (a, P) :: r) a P (e0 :: e1 :: e2 :: e3 :: e4 :: e5 :: e6 :: e7 :: r) := .there .i7
theorem Del.i9 : Del (e0 :: e1 :: e2 :: e3 :: e4 :: e5 :: e6 :: e7 :: e8 :: (a, P) :: r) a P (e0 :: e1 :: e2 :: e3 :: e4 :: e5 :: e6 :: e7 :: e8 :: r) := .there .i8
theorem Del.i10 : Del (e0 :: e1 :: e2 :: e3 :: e4 :: e5 :: e6 :: e7 :: e8 :: e9 :: (a, P) :: r) a P (e0 :: e1 :: e2 :: e3 :: e4 :: e5 :: e6 :: e7 :: e8 :: e9 :: r) := .there .i9
theorem Del.i11 : Del (e0 :: e1 :: e2 :: e3 :: e4 :: e5 :: e6 :: e7 :: e8 :: e9 :: e10 :: (a, P) :: r) a P (e0 :: e1 :: e2 :: e3 :: e4 :: e5 :: e6 :: e7 :: e8 :: e9 :: e10 :: r) := .there .i10
end
theorem Del.perm {l l' : Led} {a : Addr} {P : Obj → Prop} (x : Del l a P l') : ((a, P) :: l').Perm l := by
 induction x with
 | here => exact .refl _
 | there _ ih => exact (List.Perm.swap ..).trans (.cons _ ih)
section
variable {c : Cx} {n : Nat} {g h : Heap} {l l' : Led} {it a : Addr} {vs : List Value} {v : Value}
theorem St.del {W : Obj → Prop} {h' : Heap} (S : St c g h l) (D : Del l a W l') (s : Same [a] h h') : St c g h' l' := (S.perm D.perm).drop1 s
noncomputable def isLI (a : Addr) (i : Nat) : Obj → Prop := fun o => o.cls = .type "list_iterator" ∧ o.data = .fields #[.ref a, .int i 0]
theorem same_of_ext {h h' : Heap} (s : Heap.ExtBut a h h') : Same [a] h h' := fun b o nb e => s b o (fun q => nb (List.mem_singleton.mpr q)) e
theorem ok_iter_list {P : VP} (S : St c g h l) (hl : ∃ o, h.get? a = some o ∧ isList vs o) (p : ∀ it h', St c g h' ((it, isLI a 0) :: l) → P (.ref it) h') : Ok c n (pyIter (.ref a)) P h :=
 fun A d tk r => wpAny_pyIter_list (isList.is hl) ⟨rfl, rfl, p _ _ (S.push rfl ⟨rfl, rfl⟩)⟩
theorem ok_iter_li {i : Nat} {P : VP} (S : St c g h l) (A : At l it (isLI a i)) (p : P (.ref it) h) : Ok c n (pyIter (.ref it)) P h :=
 fun u_ d tk r => wpAny_pyIter_listiter (S.get A) ⟨rfl, rfl, p⟩
theorem ok_next_li {i : Nat} {P : Option Value → Heap → Prop} (S : St c g h l) (hl : ∃ o, h.get? a = some o ∧ isList vs o) (U : Up l it (isLI a i) (isLI a (i + 1)) l') (hx : vs[i]? = some v) (p : ∀ h', St c g h' l' → P (some v) h') : Ok c n (pyNext (.ref it)) P h :=
 fun A d tk r => wpAny_pyNext_list_item (S.get U.at_) (isList.is hl) (by simpa -iota using hx) fun h' hi hs => ⟨rfl, rfl, p _ (S.upd U hs hi)⟩
theorem ok_end_li {i : Nat} {P : Option Value → Heap → Prop} (S : St c g h l) (hl : ∃ o, h.get? a = some o ∧ isList vs o) (D : Del l it (isLI a i) l') (hx : vs[i]? = none) (p : ∀ h', St c g h' l' → P none h') : Ok c n (pyNext (.ref it)) P h :=
 fun A d tk r => wpAny_pyNext_list_end r.hand ((S.perm D.perm).get .here) (isList.is hl) (by simpa -iota using hx) fun h' hs => ⟨rfl, rfl, p _ (S.del D (same_of_ext hs))⟩
noncomputable def isSI (x : Str) (t : Tok) (i : Nat) : Obj → Prop := fun o => o.cls = .type (if x.cps.all (· < 128) then "str_ascii_iterator" else "str_iterator") ∧ o.data = .fields #[.str x t, .int i 0]
theorem ok_iter_str {x : Str} {t : Tok} {P : VP} (S : St c g h l) (p : ∀ it h', St c g h' ((it, isSI x t 0) :: l) → P (.ref it) h') : Ok c n (pyIter (.str x t)) P h := by
 intro A d tk r
 cases ha : x.cps.all (· < 128)
 ·exact wpAny_pyIter_wide ha ⟨rfl, rfl, p _ _ (S.push rfl ⟨by rw [ha]; rfl, rfl⟩)⟩
 ·exact wpAny_pyIter_ascii ha ⟨rfl, rfl, p _ _ (S.push rfl ⟨by rw [ha]; rfl, rfl⟩)⟩
theorem ok_iter_si {x : Str} {t : Tok} {i : Nat} {P : VP} (S : St c g h l) (A : At l it (isSI x t i)) (p : P (.ref it) h) : Ok c n (pyIter (.ref it)) P h := by
 intro _ d tk r
 obtain ⟨o, ho, h1, h2⟩ := S.get A
 cases ha : x.cps.all (· < 128) <;> rw [ha] at h1
 ·exact wpAny_pyIter_striter_wide ⟨o, ho, h1, h2⟩ ⟨rfl, rfl, p⟩
 ·exact wpAny_pyIter_striter_ascii ⟨o, ho, h1, h2⟩ ⟨rfl, rfl, p⟩
theorem ok_next_si {x : Str} {t : Tok} {i k : Nat} {P : Option Value → Heap → Prop} (S : St c g h l) (U : Up l it (isSI x t i) (isSI x t (i + 1)) l') (hx : x.cps[i]? = some k) (p : ∀ t h', St c g h' l' → P (some (.str ⟨#[k]⟩ t)) h') : Ok c n (pyNext (.ref it)) P h := by
 intro _ d tk r
 obtain ⟨o, ho, h1, h2⟩ := S.get U.at_
 cases ha : x.cps.all (· < 128) <;> rw [ha] at h1
 ·exact wpAny_pyNext_wide_item ⟨o, ho, h1, h2⟩ hx fun h' hi hs => ⟨rfl, rfl, p _ _ (S.upd U hs (by obtain ⟨o, a1, a2, a3⟩ := hi; exact ⟨o, a1, by rw [ha]; exact a2, a3⟩))⟩
 ·exact wpAny_pyNext_ascii_item ⟨o, ho, h1, h2⟩ hx fun h' hi hs => ⟨rfl, rfl, p _ _ (S.upd U hs (by obtain ⟨o, a1, a2, a3⟩ := hi; exact ⟨o, a1, by rw [ha]; exact a2, a3⟩))⟩
theorem ok_end_si {x : Str} {t : Tok} {i : Nat} {P : Option Value → Heap → Prop} (S : St c g h l) (D : Del l it (isSI x t i) l') (hx : x.cps[i]? = none) (p : ∀ h', St c g h' l' → P none h') : Ok c n (pyNext (.ref it)) P h := by
 intro _ d tk r
 obtain ⟨o, ho, h1, h2⟩ := (S.perm D.perm).get .here
 cases ha : x.cps.all (· < 128) <;> rw [ha] at h1
 ·exact wpAny_pyNext_wide_end r.hand ⟨o, ho, h1, h2⟩ hx fun h' hs => ⟨rfl, rfl, p _ (S.del D (same_of_ext hs))⟩
 ·exact wpAny_pyNext_ascii_end r.hand ⟨o, ho, h1, h2⟩ hx fun h' hs => ⟨rfl, rfl, p _ (S.del D (same_of_ext hs))⟩
noncomputable def isTuple (vs : List Value) : Obj → Prop := fun o => ∃ k, o = { cls := .type "tuple", dict := none, data := .seq vs.toArray k, slots := #[] }
theorem isTuple.is {h : Heap} {a : Addr} {vs : List Value} (x : ∃ o, h.get? a = some o ∧ isTuple vs o) : h.IsTuple a vs.toArray := by
 obtain ⟨o, ho, k, rfl⟩ := x
 exact ⟨_, ho, rfl, k, rfl⟩
noncomputable def isTI (a : Addr) (i : Nat) : Obj → Prop := fun o => o.cls = .type "tuple_iterator" ∧ o.data = .fields #[.ref a, .int i 0]
theorem ok_iter_tuple {P : VP} (S : St c g h l) (hl : ∃ o, h.get? a = some o ∧ isTuple vs o) (p : ∀ it h', St c g h' ((it, isTI a 0) :: l) → P (.ref it) h') : Ok c n (pyIter (.ref a)) P h :=
 fun A d tk r => wpAny_pyIter_tuple (isTuple.is hl) ⟨rfl, rfl, p _ _ (S.push rfl ⟨rfl, rfl⟩)⟩
theorem ok_next_ti {i : Nat} {P : Option Value → Heap → Prop} (S : St c g h l) (hl : ∃ o, h.get? a = some o ∧ isTuple vs o) (U : Up l it (isTI a i) (isTI a (i + 1)) l') (hx : vs[i]? = some v) (p : ∀ h', St c g h' l' → P (some v) h') : Ok c n (pyNext (.ref it)) P h :=
 fun A d tk r => wpAny_pyNext_tuple_item (S.get U.at_) (isTuple.is hl) (by simpa -iota using hx) fun h' hi hs => ⟨rfl, rfl, p _ (S.upd U hs hi)⟩
theorem ok_end_ti {i : Nat} {P : Option Value → Heap → Prop} (S : St c g h l) (hl : ∃ o, h.get? a = some o ∧ isTuple vs o) (D : Del l it (isTI a i) l') (hx : vs[i]? = none) (p : ∀ h', St c g h' l' → P none h') : Ok c n (pyNext (.ref it)) P h :=
 fun A d tk r => wpAny_pyNext_tuple_end r.hand ((S.perm D.perm).get .here) (isTuple.is hl) (by simpa -iota using hx) fun h' hs => ⟨rfl, rfl, p _ (S.del D (same_of_ext hs))⟩
theorem ok_iter_ti {i : Nat} {P : VP} (S : St c g h l) (A : At l it (isTI a i)) (p : P (.ref it) h) : Ok c n (pyIter (.ref it)) P h :=
 fun u_ d tk r => wpAny_pyIter_tupleiter (S.get A) ⟨rfl, rfl, p⟩
noncomputable def isRange (a b s : Int) : Obj → Prop := fun o => ∃ t u v, o = { cls := .type "range", dict := none, data := .fields #[.int a t, .int b u, .int s v], slots := #[] }
noncomputable def isRI (x left step : Int) : Obj → Prop := fun o => o = { cls := .type "range_iterator", dict := none, data := .fields #[rawInt x, rawInt left, rawInt step], slots := #[] }
theorem ok_iter_range {x y s : Int} {P : VP} (S : St c g h l) (hr : ∃ o, h.get? a = some o ∧ isRange x y s o) (hsm : Builtin.Range.small x y s = true) (p : ∀ it h', St c g h' ((it, isRI x (Builtin.Range.rangeSize x y s) s) :: l) → P (.ref it) h') : Ok c n (pyIter (.ref a)) P h := by
 obtain ⟨o, ho, t, u, v, rfl⟩ := hr
 exact fun A d tk r => wpAny_pyIter_range ho hsm ⟨rfl, rfl, p _ _ (S.push rfl rfl)⟩
theorem ok_iter_ri {x y s : Int} {P : VP} (S : St c g h l) (A : At l it (isRI x y s)) (p : P (.ref it) h) : Ok c n (pyIter (.ref it)) P h := by
 obtain ⟨o, ho, rfl⟩ := S.get A
 exact fun u_ d tk r => wpAny_pyIter_rangeiter ho ⟨rfl, rfl, p⟩
theorem ok_next_ri {x y s : Int} {P : Option Value → Heap → Prop} (S : St c g h l) (U : Up l it (isRI x y s) (isRI (x + s) (y - 1) s) l') (hy : 0 < y) (p : ∀ t h', St c g h' l' → P (some (.int x t)) h') : Ok c n (pyNext (.ref it)) P h := by
 obtain ⟨o, ho, rfl⟩ := S.get U.at_
 exact fun A d tk r => wpAny_pyNext_range_item ho hy fun h' hi hs => ⟨rfl, rfl, p _ _ (S.upd U hs ⟨_, hi, rfl⟩)⟩
theorem ok_end_ri {x y s : Int} {P : Option Value → Heap → Prop} (S : St c g h l) (D : Del l it (isRI x y s) l') (hy : y ≤ 0) (p : ∀ h', St c g h' l' → P none h') : Ok c n (pyNext (.ref it)) P h := by
 obtain ⟨o, ho, rfl⟩ := (S.perm D.perm).get .here
 exact fun A d tk r => wpAny_pyNext_range_end r.hand ho hy fun h' hs => ⟨rfl, rfl, p _ (S.del D (same_of_ext hs))⟩
end
noncomputable def any (_ : Heap) : Prop := True
noncomputable def hasL (a : Addr) (vs : List Value) (h : Heap) : Prop := ∃ o, h.get? a = some o ∧ isList vs o
section
variable {c : Cx} {n : Nat} {g h : Heap} {l l' : Led} {it a : Addr} {vs : List Value} {v : Value}
end
section
variable {c : Cx} {n : Nat} {g h : Heap} {l l' : Led} {a : Addr} {vs : List Value} {v : Value} {env : Env} {x : Str} {t u : Tok}
theorem subscripted_ex (slice : PySem.Expr) (o i : Value) : ∃ vs, subscripted slice false o i = operate vs (getItem o i) := by
 cases slice with
 | Slice a b s p => cases s <;> exact ⟨_, rfl⟩
 | _ => exact ⟨_, rfl⟩
noncomputable abbrev kSub2 (c : Cx) (n : Nat) (P : VP) (o : Value) : Value → Heap → Prop := fun i h => ∃ T id, (∀ d tk, (c.at h d tk).TypeIs o T) ∧ typeLookup (.type T) "__getitem__" = pure (some (.builtin id)) ∧ Ok c n (getItem o i) P h
noncomputable abbrev kSub1 (slice : PySem.Expr) (env : Env) (c : Cx) (n : Nat) (P : VP) : Value → Heap → Prop := fun o h => Ok c n (eval slice env) (kSub2 c n P o) h
inductive SlGo (c : Cx) (P : VP) (lo up st : Value) (h : Heap) : Prop
 | mk (g : Heap) (l : Led) (S : St c g h l) (k : ∀ a h', St c g h' ((a, fun o => o = { cls := .type "slice", data := .fields #[lo, up, st] }) :: l) → P (.ref a) h') : SlGo c P lo up st h
noncomputable abbrev kSl3 (c : Cx) (P : VP) (lo up : Value) : Value → Heap → Prop := SlGo c P lo up
noncomputable abbrev kSl2 (step : Option PySem.Expr) (env : Env) (c : Cx) (n : Nat) (P : VP) (lo : Value) : Value → Heap → Prop := fun up h => Ok c n (evalPart step env) (kSl3 c P lo up) h
noncomputable abbrev kSl1 (upper step : Option PySem.Expr) (env : Env) (c : Cx) (n : Nat) (P : VP) : Value → Heap → Prop := fun lo h => Ok c n (evalPart upper env) (kSl2 step env c n P lo) h
theorem ok_Subscript {value slice : PySem.Expr} {pos : Pos} {P : VP}
  (y : Ok c n (eval value env) (kSub1 slice env c n P) h) :
  Ok c n (eval (.Subscript value slice pos) env) P h := by
 rw [eval_Subscript]
 refine ok_bind (y.mono fun o h₁ z => ok_bind (ok_holding (z.mono fun i h₂ z => ok_bind (ok_standAt ?_))))
 obtain ⟨T, id, hT, hl, z⟩ := z
 intro A d tk r
 refine wpAny_bind ?_
 rw [getitemInPython_of_ne (hT d tk).not_modules]
 refine wpAny_bind (wpAny_specialOf (hT d tk) hl ?_)
 obtain ⟨ws, e⟩ := subscripted_ex slice o i
 have fin : wpAny c.M A (subscripted slice false o i) (fun r s₃ => wpAny c.M A (letTemporaryGo value o r >>= fun u_ => pure r) (c.Q P) NoE s₃) NoE (c.at h₂ d tk) := by
  rw [e]
  exact wpAny_operating (z.use r fun v h₃ d₃ tk₃ z => wpAny_bind (wpAny_letTemporaryGo (wpAny_pure ⟨rfl, rfl, z⟩)))
 first
  | exact wpAny_pure (wpAny_bind fin)
  | exact wpAny_bind (wpAny_pure (wpAny_bind fin))
  | exact wpAny_bind fin
theorem ok_get_str {i : Int} {k ch : Nat} {R : VP} (hk : seqIndex? i x.length = some k) (hx : x.cps[k]? = some ch) (hr : i.natAbs < 2 ^ 62) (p : ∀ t, R (.str ⟨#[ch]⟩ t) h) : Ok c n (getItem (.str x t) (.int i u)) R h :=
 fun A d tk r => PySem.P.getItem_str (by simp -iota; lia) (by rw [hk]; exact hx) ⟨rfl, rfl, p _⟩
theorem ok_sub_str {i : Int} {k ch : Nat} {P : VP} (hk : seqIndex? i x.length = some k) (hx : x.cps[k]? = some ch) (hr : i.natAbs < 2 ^ 62) (p : ∀ t, P (.str ⟨#[ch]⟩ t) h) :
  ∃ T id, (∀ d tk, (c.at h d tk).TypeIs (.str x t) T) ∧ typeLookup (.type T) "__getitem__" = pure (some (.builtin id)) ∧ Ok c n (getItem (.str x t) (.int i u)) P h :=
 ⟨"str", _, fun d tk => typeIs_str _ x t, F.slot_str_getitem.lookup, ok_get_str hk hx hr p⟩
theorem ok_Slice {lower upper step : Option PySem.Expr} {p : Pos} {P : VP}
  (y : Ok c n (evalPart lower env) (kSl1 upper step env c n P) h) :
  Ok c n (eval (.Slice lower upper step p) env) P h :=
 fun A d tk r => wpAny_Slice (y.use r fun lo h₁ d₁ tk₁ z => z.use r fun up h₂ d₂ tk₂ z => z.use r fun st h₃ d₃ tk₃ q1_ => (by obtain ⟨g, l, S, z⟩ := q1_; exact ⟨rfl, rfl, z _ _ (S.push rfl rfl)⟩))
theorem ok_part_none {P : VP} (p : P .none h) : Ok c n (evalPart none env) P h := ok_pure p
theorem ok_part {e : PySem.Expr} {P : VP} (y : Ok c n (eval e env) P h) : Ok c n (evalPart (some e) env) P h := y
noncomputable def cut (x : Str) (lo up st : Option (Int × Tok)) : Str := if ((st.map (·.1)).getD 1 == 1 && (slicePicked x lo up st).length == x.length) = true then x else ⟨((slicePicked x lo up st).filterMap (x.cps[·]?)).toArray⟩
theorem ok_sub_slice {lo up st : Option (Int × Tok)} {P : VP} (S : St c g h l) (A : At l a (fun o => o = { cls := .type "slice", data := .fields #[partValue lo, partValue up, partValue st] }))
  (h0 : ((st.map (·.1)).getD 1 == 0) = false) (hz : (cut x lo up st).length ≤ 16777216) (p : ∀ t, P (.str (cut x lo up st) t) h) :
  ∃ T id, (∀ d tk, (c.at h d tk).TypeIs (.str x t) T) ∧ typeLookup (.type T) "__getitem__" = pure (some (.builtin id)) ∧ Ok c n (getItem (.str x t) (.ref a)) P h := by
 refine ⟨"str", _, fun d tk => typeIs_str _ x t, F.slot_str_getitem.lookup, fun A' d tk r => ?_⟩
 obtain ⟨o, ho, rfl⟩ := S.get A
 refine wpAny_getItem_str_slice (l := lo) (u := up) (st := st) ⟨_, ho, rfl, rfl⟩ h0 ?_
 exact post_val_or_str ⟨by rw [sizeLine_eq]; exact hz, fun t' k => ⟨rfl, rfl, p _⟩⟩
theorem ok_method_str {name : Str} {id : String} {pl : Sem Bool} {P : Value × List Value → Heap → Prop} (slot : Slot "str" name id) (ht : typeOf (.builtin id) = pure (.type "method_descriptor"))
  (p : P (.builtin id, [.str x t]) h) : Ok c n (getMethod (.str x t) name pl) P h :=
 fun u_ d tk u_ => getMethod_builtin (s := c.at h d tk) (typeIs_str _ x t) F.plainAttrs_str slot ht (fun b e => by cases e) ⟨rfl, rfl, p⟩
noncomputable def Strs (vs : List Value) (xs : List Str) : Prop := ∃ l : List (Str × Tok), vs = strValues l ∧ l.map (·.1) = xs
theorem Strs.cons {x : Str} {t : Tok} {r : List Value} {q : List Str} (s : Strs r q) : Strs (.str x t :: r) (x :: q) := by obtain ⟨l, rfl, rfl⟩ := s; exact ⟨(x, t) :: l, rfl, rfl⟩
theorem ok_join {xs : List Str} {P : VP} (hl : hasL a vs h) (s : Strs vs xs) (hz : (xs.map (·.length)).sum + xs.length * x.length ≤ 16777216) (p : ∀ t, P (.str (Txt.join x xs) t) h) : Ok c n (call (.builtin "str.join") [.str x t, .ref a]) P h := by
 obtain ⟨ys, rfl, rfl⟩ := s
 refine fun A d tk r => SC.join (isList.is hl) rfl ?_ fun t' k => ⟨rfl, rfl, p _⟩
 unfold JoinOk Builtin.Str.tooLong
 rw [StrLaws.joinTotal, sizeLine_eq]
 simp -iota at hz ⊢
 lia
end
section
variable {c : Cx} {n : Nat} {g h : Heap} {l l' : Led} {env : Env} {scope : Scope} {cl : List (Str × Addr)} {C a : Addr} {x : Str} {v : Value} {m m' : List (Str × Option Value)}
theorem ok_ldGK {P : VP} (S : St c g h l) (hg : env.globals = mainGlobals) (hk : scope.kind = .function) (hl : (compEnvC scope cl C env).kindOf x = some .globalImplicit) (e : nsIn c.K mainGlobals x = some (some v)) (p : P v h) : Ok c n (loadName (compEnvC scope cl C env) x) P h := ok_ldG S hg hk hl e p
theorem ok_ldBK {P : VP} (S : St c g h l) (hg : env.globals = mainGlobals) (hb : env.builtins = builtinsNs) (hk : scope.kind = .function) (hl : (compEnvC scope cl C env).kindOf x = some .globalImplicit) (e : nsIn c.K mainGlobals x = some none) (hv : bootBuiltins x = some v) (hn : x ≠ "__name__") (p : P v h) : Ok c n (loadName (compEnvC scope cl C env) x) P h := ok_ldB S hg hb hk hl e hv hn p
end
section
variable {c : Cx} {n : Nat} {g h : Heap} {l l' : Led} {a : Addr} {vs : List Value} {v : Value} {env : Env} {x : Str} {t u : Tok} {i : Int}
theorem ok_int_str {P : VP} (hn : PySem.intText? x = some i) (hl : x.length ≤ 640) (p : ∀ t, P (.int i t) h) : Ok c n (call (.type "int") [.str x t]) P h :=
 fun A d tk r => KIN.call_text hn hl ⟨rfl, rfl, p _⟩
end
noncomputable def str (ks : List Nat) : Str := ⟨ks.toArray⟩
inductive AV where
 | none | bool (b : Bool) | int (i : Int) | str (ks : List Nat) | ref (a : Addr) | type (s : String)
noncomputable def AV.rep : AV → Value → Prop
 | .none, v => v = .none
 | .bool b, v => v = .bool b
 | .int i, v => ∃ t, v = .int i t
 | .str ks, v => ∃ t, v = .str (Mine.str ks) t
 | .ref a, v => v = .ref a
 | .type s, v => v = .type s
noncomputable def AV.All (av : AV) (P : Value → Prop) : Prop := ∀ v, av.rep v → P v
section
variable {P : Value → Prop}
theorem all_none (p : P .none) : AV.All .none P := fun v e => by cases e; exact p
theorem all_int {i : Int} (p : ∀ t, P (.int i t)) : AV.All (.int i) P := fun v e => by obtain ⟨t, rfl⟩ := e; exact p t
theorem all_str {ks : List Nat} (p : ∀ t, P (.str (str ks) t)) : AV.All (.str ks) P := fun v e => by obtain ⟨t, rfl⟩ := e; exact p t
theorem all_ref {a : Addr} (p : P (.ref a)) : AV.All (.ref a) P := fun v e => by cases e; exact p
theorem all_type {a : String} (p : P (.type a)) : AV.All (.type a) P := fun v e => by cases e; exact p
end
theorem rep_none : AV.rep .none .none := rfl
theorem rep_int {i : Int} {t : Tok} : AV.rep (.int i) (.int i t) := ⟨t, rfl⟩
theorem rep_str {ks : List Nat} {t : Tok} : AV.rep (.str ks) (.str (str ks) t) := ⟨t, rfl⟩
theorem rep_ref {a : Addr} : AV.rep (.ref a) (.ref a) := rfl
theorem rep_type {a : String} : AV.rep (.type a) (.type a) := rfl
theorem AV.rep.handed {av : AV} {v : Value} (e : av.rep v) : handedIn v = true := by
 cases av with
 | int i => obtain ⟨t, rfl⟩ := e; rfl
 | str ks => obtain ⟨t, rfl⟩ := e; rfl
 | _ => cases e; rfl
noncomputable def Reps : List AV → List Value → Prop
 | [], [] => True
 | a :: as, v :: vs => a.rep v ∧ Reps as vs
 | _, _ => False
theorem Reps.ind {M : List AV → List Value → Prop} (n : M [] []) (s : ∀ {a v as vs}, a.rep v → Reps as vs → M as vs → M (a :: as) (v :: vs)) {as : List AV} : ∀ {vs}, Reps as vs → M as vs := by
 induction as with
 | nil => intro vs h; cases vs with
  | nil => exact n
  | cons v vs => exact h.elim
 | cons a as ih => intro vs h; cases vs with
  | nil => exact h.elim
  | cons v vs => exact s h.1 h.2 (ih h.2)
theorem Reps.len {as : List AV} {vs : List Value} (h : Reps as vs) : vs.length = as.length :=
 h.ind (M := fun as vs => vs.length = as.length) rfl fun u_ u_ q => congrArg (· + 1) q
theorem Reps.append {as : List AV} {vs : List Value} {bs : List AV} {ws : List Value} (h : Reps as vs) (h' : Reps bs ws) : Reps (as ++ bs) (vs ++ ws) :=
 h.ind (M := fun as vs => Reps (as ++ bs) (vs ++ ws)) h' fun r u_ q => ⟨r, q⟩
theorem Reps.snoc {as : List AV} {vs : List Value} {a : AV} {v : Value} (h : Reps as vs) (h' : a.rep v) : Reps (as ++ [a]) (vs ++ [v]) := h.append ⟨h', trivial⟩
theorem Reps.get {as : List AV} {vs : List Value} {i : Nat} {a : AV} (h : Reps as vs) : as[i]? = some a → ∃ v, vs[i]? = some v ∧ a.rep v :=
 h.ind (M := fun as vs => ∀ i, as[i]? = some a → ∃ v, vs[i]? = some v ∧ a.rep v) (fun i e => by cases e) (fun r u_ q i e => by
  cases i with
  | zero => cases e; exact ⟨_, rfl, r⟩
  | succ i => exact q i e) i
theorem Reps.nil_inv {vs : List Value} (h : Reps [] vs) : vs = [] := by
 cases vs with
 | nil => rfl
 | cons v vs => exact h.elim
theorem Reps.cons_inv {a : AV} {as : List AV} {vs : List Value} (h : Reps (a :: as) vs) : ∃ v ws, vs = v :: ws ∧ a.rep v ∧ Reps as ws := by
 cases vs with
 | nil => exact h.elim
 | cons v ws => exact ⟨v, ws, rfl, h.1, h.2⟩
theorem rep_eS {ks : List Nat} {v : Value} {G : Value → Prop} (r : AV.rep (.str ks) v) (k : ∀ t, G (.str (str ks) t)) : G v := all_str k v r
theorem rep_eI {i : Int} {v : Value} {G : Value → Prop} (r : AV.rep (.int i) v) (k : ∀ t, G (.int i t)) : G v := all_int k v r
theorem Reps.eN {G : List Value → Prop} (k : G []) : ∀ us, Reps [] us → G us := fun us r => r.nil_inv ▸ k
theorem Reps.eC {a : AV} {as : List AV} {G : List Value → Prop} (k : ∀ v, a.rep v → ∀ us2, Reps as us2 → G (v :: us2)) : ∀ us, Reps (a :: as) us → G us := fun us r => by
 obtain ⟨v, ws, rfl, h1, h2⟩ := r.cons_inv; exact k v h1 ws h2
theorem Reps.eS {ks : List Nat} {as : List AV} {G : List Value → Prop} (k : ∀ t us2, Reps as us2 → G (.str (str ks) t :: us2)) : ∀ us, Reps (.str ks :: as) us → G us := fun us r => by
 obtain ⟨v, ws, rfl, ⟨t, rfl⟩, h2⟩ := r.cons_inv; exact k t ws h2
theorem Reps.eI {i : Int} {as : List AV} {G : List Value → Prop} (k : ∀ t us2, Reps as us2 → G (.int i t :: us2)) : ∀ us, Reps (.int i :: as) us → G us := fun us r => by
 obtain ⟨v, ws, rfl, ⟨t, rfl⟩, h2⟩ := r.cons_inv; exact k t ws h2
theorem Reps.take {as : List AV} {vs : List Value} (n : Nat) (h : Reps as vs) : Reps (as.take n) (vs.take n) :=
 h.ind (M := fun as vs => ∀ n, Reps (as.take n) (vs.take n)) (fun n => by rw [List.take_nil, List.take_nil]; trivial) (fun r u_ q n => by
  cases n with
  | zero => trivial
  | succ n => exact ⟨r, q n⟩) n
theorem Reps.drop {as : List AV} {vs : List Value} (n : Nat) (h : Reps as vs) : Reps (as.drop n) (vs.drop n) :=
 h.ind (M := fun as vs => ∀ n, Reps (as.drop n) (vs.drop n)) (fun n => by rw [List.drop_nil, List.drop_nil]; trivial) (fun r h q n => by
  cases n with
  | zero => exact ⟨r, h⟩
  | succ n => exact q n) n
theorem len_succ {α : Type} {l : List α} {n : Nat} (e : l.length = n + 1) : ∃ x r, l = x :: r ∧ r.length = n := by
 cases l with
 | nil => cases e
 | cons x r => exact ⟨x, r, rfl, Nat.succ.inj e⟩
noncomputable abbrev AM := List (Str × Option AV)
noncomputable def RepM : AM → List (Str × Option Value) → Prop
 | [], [] => True
 | (x, none) :: m, (y, none) :: m' => x = y ∧ RepM m m'
 | (x, some a) :: m, (y, some v) :: m' => x = y ∧ a.rep v ∧ RepM m m'
 | _, _ => False
noncomputable def isFr (m : AM) : Obj → Prop := fun o => ∃ m', RepM m m' ∧ isNs m' o
noncomputable def isC (v : Option AV) : Obj → Prop := fun o => match v with | none => isCell none o | some a => ∃ w, a.rep w ∧ isCell (some w) o
noncomputable def isL (vs : List AV) : Obj → Prop := fun o => ∃ ws, Reps vs ws ∧ isList ws o
noncomputable def isT (vs : List AV) : Obj → Prop := fun o => ∃ ws, Reps vs ws ∧ isTuple ws o
inductive HasA : AM → Str → AV → Prop
 | here {x : Str} {v : AV} {r : AM} : HasA ((x, some v) :: r) x v
 | there {e : Str × Option AV} {x : Str} {v : AV} {r : AM} : HasA r x v → HasA (e :: r) x v
inductive PutA : AM → Str → AV → AM → Prop
 | here {x : Str} {u : Option AV} {v : AV} {r : AM} : PutA ((x, u) :: r) x v ((x, some v) :: r)
 | there {e : Str × Option AV} {x : Str} {v : AV} {r r' : AM} : PutA r x v r' → PutA (e :: r) x v (e :: r')
theorem RepM.nil_inv {m' : List (Str × Option Value)} (h : RepM [] m') : m' = [] := by
 cases m' with
 | nil => rfl
 | cons v vs => exact h.elim
theorem RepM.none_inv {x : Str} {m : AM} {m' : List (Str × Option Value)} (h : RepM ((x, none) :: m) m') : ∃ r, m' = (x, none) :: r ∧ RepM m r := by
 cases m' with
 | nil => exact h.elim
 | cons e r =>
  obtain ⟨y, v⟩ := e
  cases v with
  | none => obtain ⟨e, h⟩ := h; cases e; exact ⟨r, rfl, h⟩
  | some v => exact h.elim
theorem RepM.some_inv {x : Str} {a : AV} {m : AM} {m' : List (Str × Option Value)} (h : RepM ((x, some a) :: m) m') : ∃ v r, m' = (x, some v) :: r ∧ a.rep v ∧ RepM m r := by
 cases m' with
 | nil => exact h.elim
 | cons e r =>
  obtain ⟨y, v⟩ := e
  cases v with
  | none => exact h.elim
  | some v => obtain ⟨e, h⟩ := h; cases e; exact ⟨v, r, rfl, h⟩
theorem RepM.ind {M : AM → List (Str × Option Value) → Prop} (n : M [] []) (s0 : ∀ {x m r}, RepM m r → M m r → M ((x, none) :: m) ((x, none) :: r)) (s1 : ∀ {x a v m r}, a.rep v → RepM m r → M m r → M ((x, some a) :: m) ((x, some v) :: r)) {m : AM} : ∀ {r}, RepM m r → M m r := by
 induction m with
 | nil => intro r h; cases h.nil_inv; exact n
 | cons e m ih =>
  obtain ⟨x, u⟩ := e
  cases u with
  | none => intro r h; obtain ⟨r2, rfl, h2⟩ := h.none_inv; exact s0 h2 (ih h2)
  | some a => intro r h; obtain ⟨v, r2, rfl, hv, h2⟩ := h.some_inv; exact s1 hv h2 (ih h2)
section
variable {e0 e1 e2 e3 e4 e5 e6 e7 e8 e9 e10 e11 e12 e13 : Str × Option AV} {x : Str} {v : AV} {r : AM}
theorem HasA.i1 : HasA (e0 :: (x, some v) :: r) x v := .there .here
theorem HasA.i2 : HasA (e0 :: e1 :: (x, some v) :: r) x v := .there .i1
theorem HasA.i3 : HasA (e0 :: e1 :: e2 :: (x, some v) :: r) x v := .there .i2
theorem HasA.i4 : HasA (e0 :: e1 :: e2 :: e3 :: (x, some v) :: r) x v := .there .i3
theorem HasA.i5 : HasA (e0 :: e1 :: e2 :: e3 :: e4 :: (x, some v) :: r) x v := .there .i4
theorem HasA.i6 : HasA (e0 :: e1 :: e2 :: e3 :: e4 :: e5 :: (x, some v) :: r) x v := .there .i5
theorem HasA.i7 : HasA (e0 :: e1 :: e2 :: e3 :: e4 :: e5 :: e6 :: (x, some v) :: r) x v := .there .i6
theorem HasA.i8 : HasA (e0 :: e1 :: e2 :: e3 :: e4 :: e5 :: e6 :: e7 :: (x, some v) :: r) x v := .there .i7
theorem HasA.i9 : HasA (e0 :: e1 :: e2 :: e3 :: e4 :: e5 :: e6 :: e7 :: e8 :: (x, some v) :: r) x v := .there .i8
theorem HasA.i10 : HasA (e0 :: e1 :: e2 :: e3 :: e4 :: e5 :: e6 :: e7 :: e8 :: e9 :: (x, some v) :: r) x v := .there .i9
theorem HasA.i11 : HasA (e0 :: e1 :: e2 :: e3 :: e4 :: e5 :: e6 :: e7 :: e8 :: e9 :: e10 :: (x, some v) :: r) x v := .there .i10
theorem HasA.i12 : HasA (e0 :: e1 :: e2 :: e3 :: e4 :: e5 :: e6 :: e7 :: e8 :: e9 :: e10 :: e11 :: (x, some v) :: r) x v := .there .i11
theorem HasA.i13 : HasA (e0 :: e1 :: e2 :: e3 :: e4 :: e5 :: e6 :: e7 :: e8 :: e9 :: e10 :: e11 :: e12 :: (x, some v) :: r) x v := .there .i12
end
section
variable {e0 e1 e2 e3 e4 e5 e6 e7 e8 e9 e10 e11 e12 e13 : Str × Option AV} {x : Str} {u : Option AV} {v : AV} {r : AM}
theorem PutA.i1 : PutA (e0 :: (x, u) :: r) x v (e0 :: (x, some v) :: r) := .there .here
theorem PutA.i2 : PutA (e0 :: e1 :: (x, u) :: r) x v (e0 :: e1 :: (x, some v) :: r) := .there .i1
theorem PutA.i3 : PutA (e0 :: e1 :: e2 :: (x, u) :: r) x v (e0 :: e1 :: e2 :: (x, some v) :: r) := .there .i2
theorem PutA.i4 : PutA (e0 :: e1 :: e2 :: e3 :: (x, u) :: r) x v (e0 :: e1 :: e2 :: e3 :: (x, some v) :: r) := .there .i3
theorem PutA.i5 : PutA (e0 :: e1 :: e2 :: e3 :: e4 :: (x, u) :: r) x v (e0 :: e1 :: e2 :: e3 :: e4 :: (x, some v) :: r) := .there .i4
theorem PutA.i6 : PutA (e0 :: e1 :: e2 :: e3 :: e4 :: e5 :: (x, u) :: r) x v (e0 :: e1 :: e2 :: e3 :: e4 :: e5 :: (x, some v) :: r) := .there .i5
theorem PutA.i7 : PutA (e0 :: e1 :: e2 :: e3 :: e4 :: e5 :: e6 :: (x, u) :: r) x v (e0 :: e1 :: e2 :: e3 :: e4 :: e5 :: e6 :: (x, some v) :: r) := .there .i6
theorem PutA.i8 : PutA (e0 :: e1 :: e2 :: e3 :: e4 :: e5 :: e6 :: e7 :: (x, u) :: r) x v (e0 :: e1 :: e2 :: e3 :: e4 :: e5 :: e6 :: e7 :: (x, some v) :: r) := .there .i7
theorem PutA.i9 : PutA (e0 :: e1 :: e2 :: e3 :: e4 :: e5 :: e6 :: e7 :: e8 :: (x, u) :: r) x v (e0 :: e1 :: e2 :: e3 :: e4 :: e5 :: e6 :: e7 :: e8 :: (x, some v) :: r) := .there .i8
theorem PutA.i10 : PutA (e0 :: e1 :: e2 :: e3 :: e4 :: e5 :: e6 :: e7 :: e8 :: e9 :: (x, u) :: r) x v (e0 :: e1 :: e2 :: e3 :: e4 :: e5 :: e6 :: e7 :: e8 :: e9 :: (x, some v) :: r) := .there .i9
theorem PutA.i11 : PutA (e0 :: e1 :: e2 :: e3 :: e4 :: e5 :: e6 :: e7 :: e8 :: e9 :: e10 :: (x, u) :: r) x v (e0 :: e1 :: e2 :: e3 :: e4 :: e5 :: e6 :: e7 :: e8 :: e9 :: e10 :: (x, some v) :: r) := .there .i10
theorem PutA.i12 : PutA (e0 :: e1 :: e2 :: e3 :: e4 :: e5 :: e6 :: e7 :: e8 :: e9 :: e10 :: e11 :: (x, u) :: r) x v (e0 :: e1 :: e2 :: e3 :: e4 :: e5 :: e6 :: e7 :: e8 :: e9 :: e10 :: e11 :: (x, some v) :: r) := .there .i11
theorem PutA.i13 : PutA (e0 :: e1 :: e2 :: e3 :: e4 :: e5 :: e6 :: e7 :: e8 :: e9 :: e10 :: e11 :: e12 :: (x, u) :: r) x v (e0 :: e1 :: e2 :: e3 :: e4 :: e5 :: e6 :: e7 :: e8 :: e9 :: e10 :: e11 :: e12 :: (x, some v) :: r) := .there .i12
end
theorem HasA.down {m : AM} {x : Str} {a : AV} (H : HasA m x a) : ∀ {m'}, RepM m m' → ∃ v, a.rep v ∧ Has m' x v := by
 induction H with
 | here => intro m' h; obtain ⟨v, r, rfl, h1, h2⟩ := h.some_inv; exact ⟨v, h1, .here⟩
 | @there e x v r _ ih =>
  intro m' h
  obtain ⟨y, u⟩ := e
  cases u with
  | none => obtain ⟨r, rfl, h2⟩ := h.none_inv; obtain ⟨v, hv, H⟩ := ih h2; exact ⟨v, hv, .there H⟩
  | some u => obtain ⟨w, r, rfl, h1, h2⟩ := h.some_inv; obtain ⟨v, hv, H⟩ := ih h2; exact ⟨v, hv, .there H⟩
theorem PutA.down {m m2 : AM} {x : Str} {a : AV} (H : PutA m x a m2) : ∀ {m' v}, RepM m m' → a.rep v → ∃ m2', Put m' x v m2' ∧ RepM m2 m2' := by
 induction H with
 | @here x u a r =>
  intro m' v h hv
  cases u with
  | none => obtain ⟨r, rfl, h2⟩ := h.none_inv; exact ⟨_, .here, rfl, hv, h2⟩
  | some u => obtain ⟨w, r, rfl, h1, h2⟩ := h.some_inv; exact ⟨_, .here, rfl, hv, h2⟩
 | @there e x a r r' _ ih =>
  intro m' v h hv
  obtain ⟨y, u⟩ := e
  cases u with
  | none => obtain ⟨r, rfl, h2⟩ := h.none_inv; obtain ⟨m2, H, R⟩ := ih h2 hv; exact ⟨_, .there H, rfl, R⟩
  | some u => obtain ⟨w, r, rfl, h1, h2⟩ := h.some_inv; obtain ⟨m2, H, R⟩ := ih h2 hv; exact ⟨_, .there H, rfl, h1, R⟩
theorem RepM.keys {m : AM} {m'} (h : RepM m m') : m'.map (·.1) = m.map (·.1) :=
 h.ind (M := fun m m' => m'.map (·.1) = m.map (·.1)) rfl (fun u_ q => congrArg (_ :: ·) q) (fun u_ u_ q => congrArg (_ :: ·) q)
theorem RepM.nones : ∀ xs : List Str, RepM (xs.map fun x => (x, none)) (xs.map fun x => (x, none))
 | [] => trivial
 | _ :: xs => ⟨rfl, RepM.nones xs⟩
theorem lookup_none_of {m : List (Str × Option Value)} {x : Str} (h : x ∉ m.map (·.1)) : m.lookup x = none := by
 induction m with
 | nil => rfl
 | cons e r ih =>
  obtain ⟨y, u⟩ := e
  simp -iota only [List.map_cons, List.mem_cons, not_or] at h
  rw [List.lookup_cons, show (x == y) = false from beq_eq_false_iff_ne.mpr h.1]
  exact ih h.2
section
variable {c : Cx} {n : Nat} {g h : Heap} {l l' : Led} {env : Env} {x : Str} {v : Value} {av : AV} {m m' : AM} {L a : Addr}
theorem isFr.has {o : Obj} (q : isFr m o) (H : HasA m x av) : ∃ m' v, av.rep v ∧ isNs m' o ∧ Has m' x v := by
 obtain ⟨m', r, q⟩ := q
 obtain ⟨v, hv, H⟩ := H.down r
 exact ⟨m', v, hv, q, H⟩
theorem ok_ldA {P : VP} (S : St c g h l) (hL : env.locals = L) (hk : env.scope.kind = .function) (hl : env.kindOf x = some .local) (A : At l L (isFr m)) (H : HasA m x av) (p : av.All fun v => P v h) : Ok c n (loadName env x) P h := by
 subst hL
 obtain ⟨o, ho, q⟩ := S.get A
 obtain ⟨m', v, hv, q, H⟩ := q.has H
 exact fun u_ u_ u_ u_ => wpAny_loadName_local hk hl (isNs.ns ⟨o, ho, q⟩) (by rw [H.lookup (isNs.nd ⟨o, ho, q⟩)]; rfl) ⟨rfl, rfl, p v hv⟩
theorem ok_ldCA {P : VP} (S : St c g h l) (hk : env.scope.kind = .function) (hl : env.kindOf x = some .cell) (hc : env.cells.lookup x = some a) (A : At l a (isC (some av))) (p : av.All fun v => P v h) : Ok c n (loadName env x) P h := by
 obtain ⟨o, ho, v, hv, q⟩ := S.get A
 exact fun u_ u_ u_ u_ => wpAny_loadName_cell hk hl hc (isCell.is ⟨o, ho, q⟩) ⟨rfl, rfl, p v hv⟩
theorem ok_nsSetA {P : Unit → Heap → Prop} (S : St c g h l) (U : Up l a (isFr m) (isFr m') l') (H : PutA m x av m') (r : av.rep v)
  (p : ∀ h', St c g h' l' → P () h') : Ok c n (nsSet a x v) P h := by
 obtain ⟨o, ho, m0, r0, q⟩ := S.at_ _ U.mem
 obtain ⟨m1, H, r1⟩ := H.down r0 r
 intro A d tk r
 unfold nsSet strHash
 refine wpAny_bind (wpAny_bind (wpAny_askSetting (wpAny_pure (wpAny_bind (wpAny_mkText (wpAny_bind (wpAny_loadPart ho ?_)))))))
 have q0 := q
 obtain ⟨es, ep, hd, hk, -⟩ := q0
 have hany : es.any (·.refKey) = false := by
  rw [Array.any_eq_false']; intro e he; obtain ⟨n, t, h⟩ := hk e he; simp [DictEntry.refKey, h]
 simp only [hd, aRefKeyMayBeTheName_eq, aRefKeyMayBeTheNameByArray, hany, Bool.and_false, Bool.false_eq_true, if_false]
 have q2 := isNs.put H q (PyData.keyHash c.w.params x) tk
 exact wpAny_updatePart ho ⟨rfl, rfl, p _ (S.upd U (Heap.SameBut.update ..) ⟨_, Heap.get?_update_self _ ho q2.notFreed, m1, r1, q2⟩)⟩
theorem ok_stA {P : Unit → Heap → Prop} (S : St c g h l) (hL : env.locals = L) (hk : env.scope.kind = .function) (hl : env.kindOf x = some .local) (U : Up l L (isFr m) (isFr m') l') (H : PutA m x av m') (r : av.rep v)
  (p : ∀ h', St c g h' l' → P () h') : Ok c n (storeName env x v) P h := by
 subst hL
 rw [storeName_local hl (by rw [hk]; rfl)]
 exact ok_nsSetA S U H r p
theorem ok_stCA {P : Unit → Heap → Prop} {v₀ : Option AV} (S : St c g h l) (hk : env.scope.kind = .function) (hl : env.kindOf x = some .cell) (hc : env.cells.lookup x = some a) (U : Up l a (isC v₀) (isC (some av)) l') (r : av.rep v)
  (p : ∀ h', St c g h' l' → P () h') : Ok c n (storeName env x v) P h := by
 have : ∃ u, h.IsCell a u := by
  obtain ⟨o, ho, q⟩ := S.at_ _ U.mem
  cases v₀ with
  | none => exact ⟨_, isCell.is ⟨o, ho, q⟩⟩
  | some av => obtain ⟨v, _, q⟩ := q; exact ⟨_, isCell.is ⟨o, ho, q⟩⟩
 obtain ⟨u, hu⟩ := this
 exact fun u_ u_ u_ u_ => wpAny_storeName_cell hk hl hc hu (fun h' hv hs => ⟨rfl, rfl, p h' (S.upd U hs (let ⟨o, ho, q⟩ := hv; ⟨o, ho, v, r, q⟩))⟩)
end
section
variable {c : Cx} {n : Nat} {g h : Heap} {l l' : Led} {fd : FuncData} {f L a : Addr} {cs : List (Str × Addr)} {x : Str} {v : Value} {av : AV} {m m' : AM}
theorem ok_ldM' {P : VP} (S : St c g h l) (hk : fd.scope.kind = .function) (hl : (mkEnv fd f L cs).kindOf x = some .local) (A : At l L (isFr m)) (H : HasA m x av) (p : av.All fun v => P v h) : Ok c n (loadName (mkEnv fd f L cs) x) P h := ok_ldA S rfl hk hl A H p
theorem ok_stM' {P : Unit → Heap → Prop} (S : St c g h l) (hk : fd.scope.kind = .function) (hl : (mkEnv fd f L cs).kindOf x = some .local) (U : Up l L (isFr m) (isFr m') l') (H : PutA m x av m') (r : av.rep v) (p : ∀ h', St c g h' l' → P () h') : Ok c n (storeName (mkEnv fd f L cs) x v) P h := ok_stA S rfl hk hl U H r p
theorem ok_ldCM' {P : VP} (S : St c g h l) (hk : fd.scope.kind = .function) (hl : (mkEnv fd f L cs).kindOf x = some .cell) (hc : cs.lookup x = some a) (A : At l a (isC (some av))) (p : av.All fun v => P v h) : Ok c n (loadName (mkEnv fd f L cs) x) P h := ok_ldCA S hk hl hc A p
theorem ok_stCM' {P : Unit → Heap → Prop} {v₀ : Option AV} (S : St c g h l) (hk : fd.scope.kind = .function) (hl : (mkEnv fd f L cs).kindOf x = some .cell) (hc : cs.lookup x = some a) (U : Up l a (isC v₀) (isC (some av)) l') (r : av.rep v) (p : ∀ h', St c g h' l' → P () h') : Ok c n (storeName (mkEnv fd f L cs) x v) P h := ok_stCA S hk hl hc U r p
end
section
variable {c : Cx} {n : Nat} {g h : Heap} {l l' : Led} {env : Env} {scope : Scope} {cl : List (Str × Addr)} {C a : Addr} {x : Str} {v : Value} {av : AV} {m m' : AM}
theorem ok_ldK' {P : VP} (S : St c g h l) (hk : scope.kind = .function) (hl : (compEnvC scope cl C env).kindOf x = some .local) (A : At l C (isFr m)) (H : HasA m x av) (p : av.All fun v => P v h) : Ok c n (loadName (compEnvC scope cl C env) x) P h := ok_ldA S rfl hk hl A H p
theorem ok_stK' {P : Unit → Heap → Prop} (S : St c g h l) (hk : scope.kind = .function) (hl : (compEnvC scope cl C env).kindOf x = some .local) (U : Up l C (isFr m) (isFr m') l') (H : PutA m x av m') (r : av.rep v) (p : ∀ h', St c g h' l' → P () h') : Ok c n (storeName (compEnvC scope cl C env) x v) P h := ok_stA S rfl hk hl U H r p
theorem ok_ldCK' {P : VP} (S : St c g h l) (hk : scope.kind = .function) (hl : (compEnvC scope cl C env).kindOf x = some .cell) (hc : cl.lookup x = some a) (A : At l a (isC (some av))) (p : av.All fun v => P v h) : Ok c n (loadName (compEnvC scope cl C env) x) P h := ok_ldCA S hk hl hc A p
end
noncomputable def AV.AllP (av : AV) (P : VP) (h : Heap) : Prop := ∀ v, av.rep v → P v h
section
variable {P : VP} {h : Heap}
theorem allP_none (p : P .none h) : AV.AllP .none P h := all_none (P := fun v => P v h) p
theorem allP_int {i : Int} (p : ∀ t, P (.int i t) h) : AV.AllP (.int i) P h := all_int (P := fun v => P v h) p
theorem allP_str {ks : List Nat} (p : ∀ t, P (.str (str ks) t) h) : AV.AllP (.str ks) P h := all_str (P := fun v => P v h) p
theorem allP_ref {a : Addr} (p : P (.ref a) h) : AV.AllP (.ref a) P h := all_ref (P := fun v => P v h) p
theorem allP_type {a : String} (p : P (.type a) h) : AV.AllP (.type a) P h := all_type (P := fun v => P v h) p
end
noncomputable def kindIs (s : Scope) (k : NameKind) (x : Str) : Bool := decide (s.kind = .function) && ((s.names.lookup x == some k) && (x == ("__debug__" : Str)) == false)
noncomputable def gloOk (fd : FuncData) (x : Str) : Bool := decide (fd.globals = mainGlobals) && kindIs fd.scope .globalImplicit x
noncomputable def bltOk (fd : FuncData) (x : Str) : Bool := decide (fd.builtins = builtinsNs) && (gloOk fd x && !(decide (x = "__name__")))
theorem kindIs.to {s : Scope} {k : NameKind} {x : Str} (h : kindIs s k x = true) : s.kind = .function ∧ s.names.lookup x = some k ∧ (x == ("__debug__" : Str)) = false := by
 simp -iota only [kindIs, Bool.and_eq_true, decide_eq_true_eq, beq_iff_eq] at h
 exact h
section
variable {c : Cx} {n : Nat} {g h : Heap} {l l' : Led} {fd : FuncData} {f L a : Addr} {cs : List (Str × Addr)} {x : Str} {v : Value} {av : AV} {m m' : AM} {pos : Pos}
theorem ok_nM {P : VP} (S : St c g h l) (k : kindIs fd.scope .local x = true) (A : At l L (isFr m)) (H : HasA m x av) (p : av.AllP P h) : Ok c n (eval (.Name x pos) (mkEnv fd f L cs)) P h := ok_Name (kindIs.to k).2.2 (ok_ldM' S (kindIs.to k).1 (kindIs.to k).2.1 A H p)
theorem ok_nCM {P : VP} (S : St c g h l) (k : kindIs fd.scope .cell x = true) (hc : cs.lookup x = some a) (A : At l a (isC (some av))) (p : av.AllP P h) : Ok c n (eval (.Name x pos) (mkEnv fd f L cs)) P h := ok_Name (kindIs.to k).2.2 (ok_ldCM' S (kindIs.to k).1 (kindIs.to k).2.1 hc A p)
theorem ok_nGM {P : VP} (S : St c g h l) (k : gloOk fd x = true) (e : nsIn c.K mainGlobals x = some (some v)) (p : P v h) : Ok c n (eval (.Name x pos) (mkEnv fd f L cs)) P h := by
 obtain ⟨k1, k2⟩ := Bool.and_eq_true_iff.mp k
 exact ok_Name (kindIs.to k2).2.2 (ok_ldGM S (of_decide_eq_true k1) (kindIs.to k2).1 (kindIs.to k2).2.1 e p)
theorem ok_nBM {P : VP} (S : St c g h l) (k : bltOk fd x = true) (e : nsIn c.K mainGlobals x = some none) (hv : bootBuiltins x = some v) (p : P v h) : Ok c n (eval (.Name x pos) (mkEnv fd f L cs)) P h := by
 obtain ⟨k0, k⟩ := Bool.and_eq_true_iff.mp k
 obtain ⟨k, k3⟩ := Bool.and_eq_true_iff.mp k
 obtain ⟨k1, k2⟩ := Bool.and_eq_true_iff.mp k
 exact ok_Name (kindIs.to k2).2.2 (ok_ldBM S (of_decide_eq_true k1) (of_decide_eq_true k0) (kindIs.to k2).1 (kindIs.to k2).2.1 e hv (by simpa -iota using k3) p)
theorem ok_sM {P : Unit → Heap → Prop} (S : St c g h l) (k : kindIs fd.scope .local x = true) (U : Up l L (isFr m) (isFr m') l') (H : PutA m x av m') (r : av.rep v) (p : ∀ h', St c g h' l' → P () h') : Ok c n (storeName (mkEnv fd f L cs) x v) P h := ok_stM' S (kindIs.to k).1 (kindIs.to k).2.1 U H r p
theorem ok_sCM {P : Unit → Heap → Prop} {v₀ : Option AV} (S : St c g h l) (k : kindIs fd.scope .cell x = true) (hc : cs.lookup x = some a) (U : Up l a (isC v₀) (isC (some av)) l') (r : av.rep v) (p : ∀ h', St c g h' l' → P () h') : Ok c n (storeName (mkEnv fd f L cs) x v) P h := ok_stCM' S (kindIs.to k).1 (kindIs.to k).2.1 hc U r p
end
section
variable {c : Cx} {n : Nat} {g h : Heap} {l l' : Led} {env : Env} {scope : Scope} {cl : List (Str × Addr)} {C a : Addr} {x : Str} {v : Value} {av : AV} {m m' : AM} {pos : Pos}
theorem ok_nK {P : VP} (S : St c g h l) (kd : (x == ("__debug__" : Str)) = false) (hk : scope.kind = .function) (hl : (compEnvC scope cl C env).kindOf x = some .local) (A : At l C (isFr m)) (H : HasA m x av) (p : av.AllP P h) : Ok c n (eval (.Name x pos) (compEnvC scope cl C env)) P h := ok_Name kd (ok_ldK' S hk hl A H p)
end
noncomputable abbrev HO (h : Heap) (a : Addr) (W : Obj → Prop) : Prop := ∃ o, h.get? a = some o ∧ W o
noncomputable def Gr (g g' : Heap) : Prop := ∀ b o, g.get? b = some o → g'.get? b = some o
theorem Gr.refl (g : Heap) : Gr g g := fun u_ u_ e => e
theorem Gr.trans {g₁ g₂ g₃ : Heap} (a : Gr g₁ g₂) (b : Gr g₂ g₃) : Gr g₁ g₃ := fun x o e => b x o (a x o e)
theorem HO.gr {g g' : Heap} {a : Addr} {W : Obj → Prop} (x : HO g a W) (k : Gr g g') : HO g' a W := by obtain ⟨o, e, w⟩ := x; exact ⟨o, k _ _ e, w⟩
theorem PutA.len {m m' : AM} {x : Str} {v : AV} (H : PutA m x v m') : m'.length = m.length := by
 induction H with
 | here => rfl
 | there _ ih => simp -iota [ih]
section
variable {c : Cx} {n : Nat} {g h : Heap} {l l' : Led} {env : Env} {x : Str} {v : Value} {av : AV} {m m' : AM} {L a b d C f : Addr} {name : Str} {vs ws : List AV}
theorem St.sys (S : St c g h l) {W : Obj → Prop} (A : At l a W) : (a == sysModules) = false := by
 have h1 : 2 < a := S.low _ A.mem
 exact beq_eq_false_iff_ne.mpr fun e => by rw [e] at h1; exact absurd h1 (by decide)
theorem St.freezeL {l₁ : Led} (S : St c g h (l₁ ++ l)) : ∃ g', Gr g g' ∧ St c g' h l ∧ (∀ p ∈ l₁, HO g' p.1 p.2) := by obtain ⟨g', a, b, d⟩ := S.freeze; exact ⟨g', b, a, d⟩
theorem St.freeze1 {W : Obj → Prop} (S : St c g h ((a, W) :: l)) : ∃ g', Gr g g' ∧ HO g' a W ∧ St c g' h l := by
 obtain ⟨g', k, S', e⟩ := St.freezeL (l₁ := [(a, W)]) S
 exact ⟨g', k, e _ List.mem_cons_self, S'⟩
theorem St.fz {W : Obj → Prop} {G : Prop} (S : St c g h ((a, W) :: l)) (k : ∀ g', Gr g g' → HO g' a W → St c g' h l → G) : G := by obtain ⟨g', x, y, z⟩ := S.freeze1; exact k g' x y z
theorem ok_getAttrA {expr : Bool} {P : VP} (S : St c g h l) (PC : PlainC c.K C) (hf : findIn c.K (.ref C) name = some none) (hx : HO h a (isInst C d)) (A : HO h d (isFr m)) (H : HasA m name av)
  (p : av.All fun v => P v h) : Ok c n (getAttr (.ref a) name expr) P h := by
 have T := S.topH.k
 obtain ⟨od, hod, q⟩ := A
 obtain ⟨oi, hx, rfl⟩ := hx
 obtain ⟨m', v, hv, q, H⟩ := q.has H
 have nd := isNs.nd ⟨od, hod, q⟩
 intro A d tk r
 refine get_value T (instAt hx hod) PC.ga ?_ hv.handed ⟨rfl, rfl, p v hv⟩
 obtain ⟨cd, hc, hdd⟩ := any_some PC.hd
 unfold findObj W.ownOf
 simp -iota only [hc, hf, Option.bind_some, hdd, if_true, lookIn_of q, H.lookup nd, Option.join]
 dsimp only
 simp -iota only [hc, hf, Option.bind_some, hdd, if_true, lookIn_of q, H.lookup nd, Option.join]
 rfl
theorem ok_getMethodA {pl : Sem Bool} {P : Value × List Value → Heap → Prop} (S : St c g h l) (PC : PlainC c.K C) (hf : findIn c.K (.ref C) name = some (some (.ref f))) (ht : typeIn c.K (.ref f) = some (.type "function"))
  (hx : HO h a (isInst C d)) (A : HO h d (isFr m)) (hs : (m.map (·.1)).contains name = false) (p : P (.ref f, [.ref a]) h) : Ok c n (getMethod (.ref a) name pl) P h := by
 obtain ⟨od, hod, m', r, q⟩ := A
 obtain ⟨oi, hx, rfl⟩ := hx
 intro A d tk rm
 refine method_fn S.topH.k (instAt hx hod) PC.ga PC.gk hf ht ?_ ⟨rfl, rfl, p⟩
 unfold shadowIn
 have : m'.lookup name = none := lookup_none_of (by
  rw [r.keys]
  intro hm
  rw [List.contains_eq_mem, decide_eq_false_iff_not] at hs
  exact hs hm)
 simp only [lookIn_of q, this]; rfl
theorem ok_setAttrA {P : Unit → Heap → Prop} (S : St c g h l) (PC : PlainC c.K C) (ht : takerIn c.K C name = some none) (hx : HO h a (isInst C d)) (U : Up l d (isFr m) (isFr m') l') (H : PutA m name av m') (rv : av.rep v) (hm : m.length ≤ 1000)
  (p : ∀ h', St c g h' l' → P () h') : Ok c (n + 1) (setAttr (.ref a) name v) P h := by
 have T := S.topH.k
 obtain ⟨od, hod, m0, r0, q⟩ := S.at_ _ U.mem
 obtain ⟨oi, hx, rfl⟩ := hx
 intro A dr tk r
 refine set_plain T (instAt hx hod) PC.sa (osa_open (A := A) (s := c.at h dr (tk + 1)) T (instAt hx hod) PC.po ht fun b => ?_)
 obtain ⟨cd, hc, hd'⟩ := any_some PC.hd
 refine wpAny_bind (wpAny_pure (wpAny_bind (wpAny_bind (wpAny_loadPart hx (wpAny_bind ((looks_clsIn T hc).here ?_))))))
 rw [hd']
 refine wpAny_pure (a := some d) (wpAny_bind (wpAny_pure (wpAny_bind ?_)))
 have key : Ok c 0 (nsSet d name v) (fun u_ h' => St c g h' l') h := ok_nsSetA S U H rv fun h' S' => S'
 refine key.use (A := A.in1) (r.in1.mono (Nat.zero_le _)) fun u_ h' d' tk' S' => ?_
 obtain ⟨od', hod', m1, r1, es, ep, hd2, hk2, hm2, nd2, sz2⟩ := S'.at_ _ U.mem2
 refine wpAny_bind (wpAny_lookBehind hod' (by rw [hd2]; exact pastItsLine_dict (by
  rw [sz2, sizeLine_eq]
  have h1 := cnt_le m1
  have h2 := congrArg List.length r1.keys
  have h3 := H.len
  rw [List.length_map, List.length_map] at h2
  lia)) ?_)
 exact wpAny_pure ⟨rfl, rfl, p _ S'⟩
theorem isL.is {h : Heap} {a : Addr} (x : HO h a (isL vs)) : ∃ us, Reps vs us ∧ h.IsList a us.toArray := by obtain ⟨o, ho, us, r, q⟩ := x; exact ⟨us, r, isList.is ⟨o, ho, q⟩⟩
theorem isT.is {h : Heap} {a : Addr} (x : HO h a (isT vs)) : ∃ us, Reps vs us ∧ h.IsTuple a us.toArray := by obtain ⟨o, ho, us, r, q⟩ := x; exact ⟨us, r, isTuple.is ⟨o, ho, q⟩⟩
theorem ok_newListA {us : List Value} {P : VP} (S : St c g h l) (r : Reps vs us) (hz : vs.length ≤ 1000000) (p : ∀ a h', St c g h' ((a, isL vs) :: l) → P (.ref a) h') : Ok c n (newList us) P h :=
 fun A d tk rm => wpAny_newObj_type ⟨rfl, rfl, p _ _ (S.push rfl ⟨us, r, 0, rfl⟩)⟩ (by simp only [sizeOk, sizeLine_eq]; have := r.len; simp; lia)
theorem ok_truthy_L {P : Bool → Heap → Prop} (A : HO h a (isL vs)) (hs : vs.length ≤ 1000000) (p : P (!vs.isEmpty) h) : Ok c n (truthy (.ref a)) P h := by
 obtain ⟨us, r, q⟩ := isL.is A
 have hl := r.len
 refine fun u_ u_ u_ u_ => wpAny_truthy_list q (by simp -iota; lia) ⟨rfl, rfl, ?_⟩
 have : us.toArray.isEmpty = vs.isEmpty := by
  rw [Bool.eq_iff_iff]; simp -iota [← List.length_eq_zero_iff, hl]
 simpa -iota [this] using p
theorem ok_getMethod_L {id : String} {pl : Sem Bool} {P : Value × List Value → Heap → Prop} (A : HO h a (isL vs)) (slot : Slot "list" name id) (ht : typeOf (.builtin id) = pure (.type "method_descriptor"))
  (p : P (.builtin id, [.ref a]) h) : Ok c n (getMethod (.ref a) name pl) P h := by
 obtain ⟨o, ho, us, r, k, rfl⟩ := A
 exact fun u_ u_ u_ u_ => getMethod_builtin (s := c.at h _ _) ⟨_, ho, rfl⟩ F.plainAttrs_list slot ht (fun b e => by cases e; exact ⟨_, ho, rfl⟩) ⟨rfl, rfl, p⟩
theorem ok_appendA {P : VP} (S : St c g h l) (U : Up l a (isL vs) (isL (vs ++ [av])) l') (rv : av.rep v) (hs : vs.length ≤ 1000000) (p : ∀ h', St c g h' l' → P .none h') : Ok c n (call (.builtin "list.append") [.ref a, v]) P h := by
 obtain ⟨o, ho, us, r, k, rfl⟩ := S.at_ _ U.mem
 have hl := r.len
 refine fun A d tk rm => call_meets (s := c.at h d tk) F.slot_list_append ⟨_, ho, rfl⟩ F.entry_list_append (F.args_list_append_2 _ _) (AutoListH.list_append_list_val_0 a us.toArray k v (by rw [sizeLine_eq]; simp -iota; lia)) ⟨ho, rfl, rfl, p _ ?_⟩
 refine S.upd U (Heap.SameBut.update ..) ⟨_, Heap.get?_update_self _ ho rfl, us ++ [v], r.snoc rv, ?_⟩
 exact isList.map (by simp -iota)
theorem ok_len_L {P : VP} (A : HO h a (isL vs)) (hs : vs.length ≤ 1000000) (p : ∀ t, P (.int vs.length t) h) : Ok c n (call (.builtin "len") [.ref a]) P h := by
 obtain ⟨us, r, q⟩ := isL.is A
 have hl := r.len
 refine fun u_ u_ u_ u_ => Calls.call_len_list q (by simp -iota; lia) ⟨rfl, rfl, ?_⟩
 have := p
 simpa -iota [hl] using this _
theorem ok_len_str {ks : List Nat} {t : Tok} {P : VP} (hs : ks.length ≤ 1000000) (p : ∀ t, P (.int ks.length t) h) : Ok c n (call (.builtin "len") [.str (str ks) t]) P h := by
 have e : (str ks).length = ks.length := by simp -iota [str, Str.length]
 refine fun u_ u_ u_ u_ => PyProof.Rows.len_str (by rw [e]; lia) ⟨rfl, rfl, ?_⟩
 rw [e]; exact p _
noncomputable abbrev GetI (c : Cx) (n : Nat) (o i : Value) (P : VP) (h : Heap) : Prop := ∃ T id, (∀ d tk, (c.at h d tk).TypeIs o T) ∧ typeLookup (.type T) "__getitem__" = pure (some (.builtin id)) ∧ Ok c n (getItem o i) P h
theorem ok_item_L {i : Int} {u : Tok} {P : VP} (A : HO h a (isL vs)) (h0 : 0 ≤ i) (hi : i < 2 ^ 63) (hx : vs[i.toNat]? = some av) (p : av.All fun v => P v h) : GetI c n (.ref a) (.int i u) P h := by
 obtain ⟨us, r, q⟩ := isL.is A
 obtain ⟨v, hv, rv⟩ := r.get hx
 exact ⟨"list", _, fun d tk => q.typeIs (s := c.at h d tk), slot_list_getitem.lookup, fun A d tk rm => wpAny_getItem_list (s := c.at h d tk) q h0 hi (by simpa -iota using hv) ⟨rfl, rfl, p v rv⟩⟩
theorem ok_last_L {u : Tok} {P : VP} (A : HO h a (isL (vs ++ [av]))) (p : av.All fun v => P v h) : GetI c n (.ref a) (.int (-1) u) P h := by
 obtain ⟨us, r, q⟩ := isL.is A
 have hl := r.len
 obtain ⟨v, hv, rv⟩ := r.get (i := vs.length) (a := av) (by simp -iota)
 refine ⟨"list", _, fun d tk => q.typeIs (s := c.at h d tk), slot_list_getitem.lookup, fun A d tk rm => wpAny_getItem_list_neg (s := c.at h d tk) q (by lia) (by simp -iota at hl ⊢; lia) (by lia) ?_ ⟨rfl, rfl, p v rv⟩⟩
 have : ((-1 : Int) + (us.toArray.size : Int)).toNat = vs.length := by simp -iota at hl ⊢; lia
 rw [this]; simpa -iota using hv
theorem ok_item_T {i : Int} {u : Tok} {P : VP} (A : HO h a (isT vs)) (h0 : 0 ≤ i) (hi : i < 2 ^ 63) (hx : vs[i.toNat]? = some av) (p : av.All fun v => P v h) : GetI c n (.ref a) (.int i u) P h := by
 obtain ⟨us, r, q⟩ := isT.is A
 obtain ⟨v, hv, rv⟩ := r.get hx
 refine ⟨"tuple", _, fun d tk => q.typeIs (s := c.at h d tk), slot_tuple_getitem.lookup, fun A d tk rm => ?_⟩
 obtain ⟨o, ho, hc, k, hd⟩ := q
 refine PyProof.Rows.getItem_tuple (s := c.at h d tk) (j := i.toNat) ⟨o, ho, hc, k, hd⟩ (by lia) hi ?_ (by simpa -iota using hv) ⟨rfl, rfl, p v rv⟩
 have hl : i.toNat < us.toArray.size := by
  have := (List.getElem?_eq_some_iff.mp hv).1
  simpa -iota using this
 have e : ¬ i < 0 := by lia
 have e2 : (decide (0 ≤ i) && decide (i < (us.toArray.size : Int))) = true := by rw [Bool.and_eq_true, decide_eq_true_iff, decide_eq_true_iff]; lia
 simp -iota only [seqIndex?, if_neg e]
 rw [if_pos e2]
theorem ok_newTupleA {us : List Value} {P : VP} (S : St c g h l) (r : Reps vs us) (hz : vs.length ≤ 1000000) (p : ∀ a h', St c g h' ((a, isT vs) :: l) → P (.ref a) h') : Ok c n (newTuple us) P h :=
 fun A d tk rm => wpAny_newObj_type ⟨rfl, rfl, p _ _ (S.push rfl ⟨us, r, 0, rfl⟩)⟩ (by simp only [sizeOk, sizeLine_eq]; have := r.len; simp; lia)
inductive TupGo (c : Cx) (P : VP) (us : List Value) (h₁ : Heap) : Prop
 | mk (g : Heap) (l : Led) (vs : List AV) (S : St c g h₁ l) (r : Reps vs us) (hz : vs.length ≤ 1000000) (p : ∀ a h', St c g h' ((a, isT vs) :: l) → P (.ref a) h') : TupGo c P us h₁
theorem ok_Tuple {es : List PySem.Expr} {k : Nat} {pos : Pos} {P : VP} (z : Ok c n (spliced (backTo pos (starEach es env))) (TupGo c P) h) : Ok c n (eval (.Tuple es k pos) env) P h :=
 fun A d tk rm => wpAny_Tuple (z.use rm fun us h₁ d₁ tk₁ q1_ => (by obtain ⟨g, l, vs, S, r, hz, p⟩ := q1_; exact ⟨by rw [sizeLine_eq]; have := r.len; lia, rfl, rfl, p _ _ (S.push rfl ⟨us, r, 0, rfl⟩)⟩))
end
structure SrcA (c : Cx) (it : Addr) (W : Nat → Obj → Prop) (items : List AV) (need : Heap → Prop) : Prop where
 next : ∀ {n : Nat} {g h : Heap} {l l' : Led} {i : Nat} {av : AV} {P : Option Value → Heap → Prop}, St c g h l → need h → items[i]? = some av → Up l it (W i) (W (i + 1)) l' → (∀ h', St c g h' l' → av.All fun v => P (some v) h') → Ok c n (pyNext (.ref it)) P h
 done : ∀ {n : Nat} {g h : Heap} {l l' : Led} {P : Option Value → Heap → Prop}, St c g h l → need h → Del l it (W items.length) l' → (∀ h', St c g h' l' → P none h') → Ok c n (pyNext (.ref it)) P h
 self : ∀ {n : Nat} {g h : Heap} {l : Led} {i : Nat} {P : VP}, St c g h l → need h → At l it (W i) → P (.ref it) h → Ok c n (pyIter (.ref it)) P h
 owned : ∀ {n : Nat} {g h : Heap} {l : Led} {i : Nat} {t : PySem.Expr} {v : Value} {P : Unit → Heap → Prop}, St c g h l → At l it (W i) → P () h → Ok c n (letOwnedTupleGo t (.ref it) v) P h
section
variable {c : Cx} {n : Nat} {g h : Heap} {l l' : Led} {it a t : Addr} {vs : List AV} {v : Value} {av : AV} {env : Env}
theorem ok_owned_none {cls : String} {vs : Array Value} {target : PySem.Expr} {P : Unit → Heap → Prop} {o : Obj} (ho : h.get? it = some o) (hc : o.cls = .type cls) (hd : o.data = .fields vs)
  (hn : ["enumerate", "zip", "dict_itemiterator", "dict_reverseitemiterator", "odict_iterator", "itertools.zip_longest", "itertools.pairwise"].contains cls = false) (p : P () h) : Ok c n (letOwnedTupleGo target (.ref it) v) P h := by
 have key : ∀ (F : Obj → Sem Unit), F o = pure () → Ok c n (load it >>= F) P h := fun F e => ok_bind (ok_load ho (by rw [e]; exact ok_pure p))
 cases target with
 | Tuple es k pos => cases v with
  | ref a => exact key _ (by rw [hc, hd]; dsimp only; rw [hn]; rfl)
  | _ => exact ok_pure p
 | List es pos => cases v with
  | ref a => exact key _ (by rw [hc, hd]; dsimp only; rw [hn]; rfl)
  | _ => exact ok_pure p
 | _ => exact ok_pure p
theorem srcA_list : SrcA c it (isLI a) vs (fun h => HO h a (isL vs)) where
 next := fun {n g h l l' i av P} S hl hx U p => by
  obtain ⟨o, ho, us, r, q⟩ := hl
  obtain ⟨v, hv, rv⟩ := r.get hx
  exact ok_next_li S ⟨o, ho, q⟩ U hv fun h' S' => p _ S' v rv
 done := fun {n g h l l' P} S hl D p => by
  obtain ⟨o, ho, us, r, q⟩ := hl
  exact ok_end_li S ⟨o, ho, q⟩ D (by simp -iota [r.len]) p
 self S hl A p := ok_iter_li S A p
 owned := fun {n g h l i t v P} S A p => by obtain ⟨o, ho, hc, hd⟩ := S.get A; exact ok_owned_none ho hc hd (by decide) p
theorem srcA_tuple : SrcA c it (isTI a) vs (fun h => HO h a (isT vs)) where
 next := fun {n g h l l' i av P} S hl hx U p => by
  obtain ⟨o, ho, us, r, q⟩ := hl
  obtain ⟨v, hv, rv⟩ := r.get hx
  exact ok_next_ti S ⟨o, ho, q⟩ U hv fun h' S' => p _ S' v rv
 done := fun {n g h l l' P} S hl D p => by
  obtain ⟨o, ho, us, r, q⟩ := hl
  exact ok_end_ti S ⟨o, ho, q⟩ D (by simp -iota [r.len]) p
 self S hl A p := ok_iter_ti S A p
 owned := fun {n g h l i t v P} S A p => by obtain ⟨o, ho, hc, hd⟩ := S.get A; exact ok_owned_none ho hc hd (by decide) p
noncomputable def signsOf (ks : List Nat) : List AV := ks.map fun k => .str [k]
theorem srcA_str {ks : List Nat} {t : Tok} : SrcA c it (isSI (str ks) t) (signsOf ks) any where
 next := fun {n g h l l' i av P} S hl hx U p => by
  simp -iota only [signsOf, List.getElem?_map, Option.map_eq_some_iff] at hx
  obtain ⟨k, hk, rfl⟩ := hx
  exact ok_next_si S U (k := k) (by simpa -iota [str] using hk) fun t h' S' => p _ S' _ ⟨t, rfl⟩
 done := fun {n g h l l' P} S hl D p => ok_end_si S D (by simp -iota [signsOf, str]) p
 self S hl A p := ok_iter_si S A p
 owned := fun {n g h l i t v P} S A p => by
  obtain ⟨o, ho, hc, hd⟩ := S.get A
  refine ok_owned_none ho hc hd ?_ p
  split <;> decide
noncomputable def intsOf (x s : Int) (N : Nat) : List AV := (List.range N).map fun (i : Nat) => .int (x + (i : Int) * s)
theorem srcA_range {x s : Int} {N : Nat} : SrcA c it (fun i => isRI (x + i * s) (N - i) s) (intsOf x s N) any where
 next := fun {n g h l l' i av P} S hl hx U p => by
  simp -iota only [intsOf, List.getElem?_map, Option.map_eq_some_iff] at hx
  obtain ⟨k, hk, rfl⟩ := hx
  obtain ⟨hlt, rfl⟩ : i < N ∧ i = k := by
   rw [List.getElem?_eq_some_iff] at hk; obtain ⟨h1, h2⟩ := hk; simp -iota at h1 h2; exact ⟨h1, h2⟩
  have e1 : x + ((i + 1 : Nat) : Int) * s = x + i * s + s := by rw [Int.natCast_add, Int.add_mul, Int.natCast_one, Int.one_mul, Int.add_assoc]
  have e2 : (N : Int) - ((i + 1 : Nat) : Int) = N - i - 1 := by lia
  rw [e1, e2] at U
  exact ok_next_ri S U (by lia) fun t h' S' => p _ S' _ ⟨t, rfl⟩
 done := fun {n g h l l' P} S hl D p => ok_end_ri S (by simpa -iota [intsOf] using D) (by simp -iota) p
 self S hl A p := ok_iter_ri S A p
 owned := fun {n g h l i t v P} S A p => by obtain ⟨o, ho, rfl⟩ := S.get A; exact ok_owned_none ho rfl rfl (by decide) p
theorem St.ext0 (S : St c g h l) {h' : Heap} (hx : Heap.ExtBut h.objs.size h h') : St c g h' l :=
 S.same0 fun b o u_ e => hx b o (Nat.ne_of_lt (Heap.lt_size e)) e
theorem ok_assign_Tuple {elts : List PySem.Expr} {k : Nat} {pos : Pos} {P : Unit → Heap → Prop} (S : St c g h l) (A : HO h t (isT vs)) (hn : (assignEach elts env).length = vs.length) (hstar : (assignEach elts env).findIdx? (·.1) = none)
  (y : ∀ h' us, Reps vs us → St c g h' l → Ok c n (assignInOrder ((assignEach elts env).map (·.2)) us) P h') : Ok c n (assign (.Tuple elts k pos) env (.ref t)) P h := by
 obtain ⟨us, r, q⟩ := isT.is A
 intro A d tk rm
 refine wpAny_assign_Tuple rm.hand q (by rw [hn, List.size_toArray, r.len]) hstar fun h' hx => ?_
 exact y h' us r (S.ext0 hx) A d tk rm
theorem ok_aio_nil {P : Unit → Heap → Prop} {us : List Value} (p : P () h) : Ok c n (assignInOrder [] us) P h := ok_pure p
theorem ok_aio_cons {f : Value → Sem Unit} {fs : List (Value → Sem Unit)} {u : Value} {us : List Value} {P : Unit → Heap → Prop} (y : Ok c n (f u) (kAio fs us c n P) h) : Ok c n (assignInOrder (f :: fs) (u :: us)) P h :=
 ok_bind (ok_holding y)
theorem ok_bindName {x : Str} {P : Unit → Heap → Prop} (y : Ok c n (storeName env x v) P h) : Ok c n (bindName env x v) P h := fun A d tk r => wpAny_bindName (y A d tk r)
inductive TupsGo (c : Cx) (n : Nat) (env : Env) (names : List Str) (rest : List Stmt) (P : Flow → Heap → Prop) (v : Value) (h₁ : Heap) : Prop
 | mk (g : Heap) (l : Led) (t : Addr) (vs : List AV) (e : v = .ref t) (S : St c g h₁ l) (HT : HO h₁ t (isT vs)) (hn : names.length = vs.length)
   (z : ∀ h₂ us, Reps vs us → St c g h₂ l → Ok c n (assignInOrder (names.reverse.map fun n => bindName env n) us.reverse) (kBody c n rest env P) h₂) : TupsGo c n env names rest P v h₁
section
variable {elts : List PySem.Expr} {k : Nat} {tpos pos : Pos} {value : PySem.Expr} {rest : List Stmt} {P : Flow → Heap → Prop} {names : List Str}
theorem ok_x_tup (hs : swapsWithSole [.Tuple elts k tpos] value pos.line env = pure false) (hw : swappedStores [.Tuple elts k tpos] value env = pure none)
  (y : Ok c n (eval value env) (kAsg (.Tuple elts k tpos) rest env c n P) h) : Ok c n (exec (.Assign [.Tuple elts k tpos] value pos) env) (Then c n env rest P) h :=
 fun A d tk r => Assign_Tuple (hs := hs) (hw := hw) (y.use r fun v h₁ d₁ tk₁ z => z.use r fun u_ h₂ d₂ tk₂ z => ⟨rfl, rfl, z⟩)
theorem ok_x_tups (hs : swapsWithSole [.Tuple elts k tpos] value pos.line env = pure false) (hw : swappedStores [.Tuple elts k tpos] value env = pure (some names))
  (y : Ok c n (eval value env) (TupsGo c n env names rest P) h) :
  Ok c n (exec (.Assign [.Tuple elts k tpos] value pos) env) (Then c n env rest P) h := by
 refine fun A d tk r => Assign_Tuple_swapped (names := names) (hs := hs) (hw := hw) (y.use r fun v h₁ d₁ tk₁ q => ?_)
 obtain ⟨g, l, t, vs, e, S, HT, hn, z⟩ := q
 subst e
 obtain ⟨us, rr, q⟩ := isT.is HT
 have e2 : names.length = us.toArray.size := by rw [hn, List.size_toArray, rr.len]
 rw [e2]
 refine wpAny_unpackItems_tuple r.hand q fun h' hx => ?_
 exact (z h' us rr (S.ext0 hx)).use r fun u_ h₂ d₂ tk₂ z => ⟨rfl, rfl, z⟩
end
noncomputable abbrev ForT (c : Cx) (it : Addr) (W : Nat → Obj → Prop) (inv : Nat → Heap → Led → Prop) (P : Flow → Heap → Prop) (i : Nat) (f : Flow) (h₄ : Heap) : Prop := match f with
 | .next | .cont => ∃ g' l', inv (i + 1) g' l' ∧ St c g' h₄ ((it, W (i + 1)) :: l')
 | .brk => P .next h₄
 | .ret v => P (.ret v) h₄
theorem okC_forA {target : PySem.Expr} {body orelse : List Stmt} {P : Flow → Heap → Prop} {W : Nat → Obj → Prop} {items : List AV} {need : Heap → Prop} (src : SrcA c it W items need) (inv : Nat → Heap → Led → Prop)
  (hneed : ∀ i g h l W', inv i g l → St c g h ((it, W') :: l) → need h)
  (turn : ∀ i (T : Flow → Heap → Prop), (∀ f h₄, ForT c it W inv P i f h₄ → T f h₄) → ∀ g h l av v, items[i]? = some av → inv i g l → av.rep v → St c g h ((it, W (i + 1)) :: l) → Ok c n (assign target env v) (kBody c n body env T) h)
  (fin : ∀ g h l, inv items.length g l → St c g h l → Ok c n (execs orelse env) P h)
  (l₀ : Led) (i0 : inv 0 g l₀) (S0 : St c g h ((it, W 0) :: l₀)) : OkC c n (.forLoop target (.ref it) body orelse env) P h := by
 refine okC_for (fun k h => ∃ i g l, k = items.length - i ∧ i ≤ items.length ∧ inv i g l ∧ St c g h ((it, W i) :: l)) ?_ items.length ⟨0, g, l₀, by lia, by lia, i0, S0⟩
 rintro k T hT h ⟨i, g, l, rfl, hi, iv, S⟩
 rcases Nat.lt_or_ge i items.length with hlt | hge
 ·refine src.next S (hneed _ _ _ _ _ iv S) (List.getElem?_eq_getElem hlt) .here fun h' S => fun v rv => ?_
  refine src.owned S .here ?_
  refine (turn i _ (fun u_ u_ z => z) g h' l _ v (List.getElem?_eq_getElem hlt) iv rv S).mono fun u_ h z => z.mono fun f h z => ?_
  refine hT _ _ ?_
  cases f with
  | next => obtain ⟨g', l', iv, S⟩ := z; exact ⟨items.length - (i + 1), by lia, i + 1, g', l', rfl, hlt, iv, S⟩
  | cont => obtain ⟨g', l', iv, S⟩ := z; exact ⟨items.length - (i + 1), by lia, i + 1, g', l', rfl, hlt, iv, S⟩
  | brk => exact z
  | ret v => exact z
 ·obtain rfl : i = items.length := by lia
  exact src.done S (hneed _ _ _ _ _ iv S) .here fun h S => fin g h l iv S
noncomputable abbrev ForS (c : Cx) (g : Heap) {σ : Type} (it : Addr) (W1 : Obj → Prop) (I : σ → Prop) (Lf : σ → Led) (P : Flow → Heap → Prop) (f : Flow) (h₄ : Heap) : Prop := match f with
 | .next | .cont => ∃ s, I s ∧ St c g h₄ ((it, W1) :: Lf s)
 | .brk => P .next h₄
 | .ret v => P (.ret v) h₄
theorem okC_forS {σ : Type} {target : PySem.Expr} {body orelse : List Stmt} {P : Flow → Heap → Prop} {W : Nat → Obj → Prop} {items : List AV} {need : Heap → Prop} (src : SrcA c it W items need) (I : Nat → σ → Prop) (Lf : Nat → σ → Led)
  (hneed : ∀ i s h W', St c g h ((it, W') :: Lf i s) → need h)
  (turn : ∀ i (T : Flow → Heap → Prop), (∀ f h₄, ForS c g it (W (i + 1)) (I (i + 1)) (Lf (i + 1)) P f h₄ → T f h₄) → ∀ s h av v, items[i]? = some av → I i s → av.rep v → St c g h ((it, W (i + 1)) :: Lf i s) → Ok c n (assign target env v) (kBody c n body env T) h)
  (fin : ∀ s h, I items.length s → St c g h (Lf items.length s) → Ok c n (execs orelse env) P h)
  (s₀ : σ) (i0 : I 0 s₀) (S0 : St c g h ((it, W 0) :: Lf 0 s₀)) : OkC c n (.forLoop target (.ref it) body orelse env) P h := by
 refine okC_forA src (fun i g' l' => g' = g ∧ ∃ s, I i s ∧ l' = Lf i s) ?_ ?_ ?_ _ ⟨rfl, s₀, i0, rfl⟩ S0
 ·rintro i g' h l' W' ⟨rfl, s, _, rfl⟩ S
  exact hneed i s h W' S
 ·rintro i T hT g' h l' av v hi ⟨rfl, s, x, rfl⟩ rv S
  refine turn i T (fun f h₄ z => hT f h₄ ?_) s h av v hi x rv S
  cases f with
  | next => obtain ⟨s', x, S⟩ := z; exact ⟨_, _, ⟨rfl, s', x, rfl⟩, S⟩
  | cont => obtain ⟨s', x, S⟩ := z; exact ⟨_, _, ⟨rfl, s', x, rfl⟩, S⟩
  | brk => exact z
  | ret v => exact z
 ·rintro g' h l' ⟨rfl, s, x, rfl⟩ S
  exact fin s h x S
noncomputable abbrev ForT1 (c : Cx) (g : Heap) {σ : Type} (it : Addr) (W1 : Obj → Prop) (Lf : σ → Led) (P : Flow → Heap → Prop) (f : Flow) (h₄ : Heap) : Prop := match f with
 | .next | .cont => ∃ s, St c g h₄ ((it, W1) :: Lf s)
 | .brk => P .next h₄
 | .ret v => P (.ret v) h₄
theorem okC_forT {σ : Type} {target : PySem.Expr} {body orelse : List Stmt} {P : Flow → Heap → Prop} {W : Nat → Obj → Prop} {items : List AV} {need : Heap → Prop} (src : SrcA c it W items need) (Lf : Nat → σ → Led)
  (hneed : ∀ i s h W', St c g h ((it, W') :: Lf i s) → need h)
  (turn : ∀ i (T : Flow → Heap → Prop), (∀ f h₄, ForT1 c g it (W (i + 1)) (Lf (i + 1)) P f h₄ → T f h₄) → ∀ s h av v, items[i]? = some av → av.rep v → St c g h ((it, W (i + 1)) :: Lf i s) → Ok c n (assign target env v) (kBody c n body env T) h)
  (fin : ∀ s h, St c g h (Lf items.length s) → Ok c n (execs orelse env) P h)
  (s₀ : σ) (S0 : St c g h ((it, W 0) :: Lf 0 s₀)) : OkC c n (.forLoop target (.ref it) body orelse env) P h := by
 refine okC_forS src (fun u_ u_ => True) Lf hneed (fun i T hT s h av v hi u_ rv S => turn i T (fun f h₄ z => hT f h₄ ?_) s h av v hi rv S) (fun s h u_ S => fin s h S) s₀ trivial S0
 cases f with
 | next => obtain ⟨s', S⟩ := z; exact ⟨s', trivial, S⟩
 | cont => obtain ⟨s', S⟩ := z; exact ⟨s', trivial, S⟩
 | brk => exact z
 | ret v => exact z
theorem isFr_none {xs : List Str} {o : Obj} (q : isNs (xs.map fun k => (k, none)) o) : isFr (xs.map fun k => (k, none)) o := ⟨_, RepM.nones xs, q⟩
theorem St.toFr {C : Addr} {xs : List Str} (S : St c g h ((C, isNs (xs.map fun k => (k, none))) :: l)) : St c g h ((C, isFr (xs.map fun k => (k, none))) :: l) := S.weak .here fun o q => isFr_none q
theorem shape_cons {m : AM} {x : Str} {xs : List Str} (e : m.map (·.1) = x :: xs) : ∃ o r, m = (x, o) :: r ∧ r.map (·.1) = xs := by
 cases m with
 | nil => cases e
 | cons p r => obtain ⟨y, o⟩ := p; cases e; exact ⟨o, r, rfl, rfl⟩
theorem shape_nil {m : AM} (e : m.map (·.1) = []) : m = [] := by
 cases m with
 | nil => rfl
 | cons p r => cases e
theorem shapeA1 {m : AM} {x : Str} (e : m.map (·.1) = [x]) : ∃ o, m = [(x, o)] := by
 obtain ⟨o, r, rfl, e2⟩ := shape_cons e; cases shape_nil e2; exact ⟨o, rfl⟩
theorem shapeA2 {m : AM} {x y : Str} (e : m.map (·.1) = [x, y]) : ∃ o p, m = [(x, o), (y, p)] := by
 obtain ⟨o, r, rfl, e2⟩ := shape_cons e; obtain ⟨p, rfl⟩ := shapeA1 e2; exact ⟨o, p, rfl⟩
theorem shapeA3 {m : AM} {x y z : Str} (e : m.map (·.1) = [x, y, z]) : ∃ o p q, m = [(x, o), (y, p), (z, q)] := by
 obtain ⟨o, r, rfl, e2⟩ := shape_cons e; obtain ⟨p, q, rfl⟩ := shapeA2 e2; exact ⟨o, p, q, rfl⟩
theorem shapeA4 {m : AM} {x y z w : Str} (e : m.map (·.1) = [x, y, z, w]) : ∃ o p q r, m = [(x, o), (y, p), (z, q), (w, r)] := by
 obtain ⟨o, r, rfl, e2⟩ := shape_cons e; obtain ⟨p, q, s, rfl⟩ := shapeA3 e2; exact ⟨o, p, q, s, rfl⟩
theorem shapeE2 {x y : Str} {G : AM → Prop} (k : ∀ o p, G [(x, o), (y, p)]) : ∀ m : AM, m.map (·.1) = [x, y] → G m := fun m e => by obtain ⟨o, p, rfl⟩ := shapeA2 e; exact k o p
theorem shapeE3 {x y z : Str} {G : AM → Prop} (k : ∀ o p q, G [(x, o), (y, p), (z, q)]) : ∀ m : AM, m.map (·.1) = [x, y, z] → G m := fun m e => by obtain ⟨o, p, q, rfl⟩ := shapeA3 e; exact k o p q
theorem shapeE4 {x y z w : Str} {G : AM → Prop} (k : ∀ o p q r, G [(x, o), (y, p), (z, q), (w, r)]) : ∀ m : AM, m.map (·.1) = [x, y, z, w] → G m := fun m e => by obtain ⟨o, p, q, r, rfl⟩ := shapeA4 e; exact k o p q r
end
theorem str_app (a b : List Nat) : str a ++ str b = str (a ++ b) := by
 show (⟨a.toArray ++ b.toArray⟩ : Str) = _
 simp -iota [str]
theorem str_len (ks : List Nat) : (str ks).length = ks.length := by simp -iota [str, Str.length]
theorem str_inj {a b : List Nat} : str a = str b ↔ a = b := by simp -iota [str]
theorem str_beq (a b : List Nat) : (str a == str b) = decide (a = b) := by
 by_cases e : a = b
 ·subst e; simp -iota
 ·rw [decide_eq_false e]; exact beq_eq_false_iff_ne.mpr fun q => e (str_inj.mp q)
theorem str_bne (a b : List Nat) : (str a != str b) = !decide (a = b) := by rw [bne, str_beq]
noncomputable def glueL (s : List Nat) : List (List Nat) → List Nat
 | [] => []
 | x :: r => x ++ r.flatMap fun y => s ++ y
theorem join_str (s : List Nat) (xs : List (List Nat)) : Txt.join (str s) (xs.map str) = str (glueL s xs) := by
 cases xs with
 | nil => rfl
 | cons x r =>
  have key : ∀ (r : List (List Nat)) (acc : List Nat), (r.map str).foldl (fun acc p => acc ++ (str s).cps ++ p.cps) acc.toArray = (acc ++ r.flatMap fun y => s ++ y).toArray := by
   intro r
   induction r with
   | nil => intro acc; simp -iota
   | cons y r ih =>
    intro acc
    rw [List.map_cons, List.foldl_cons]
    have : acc.toArray ++ (str s).cps ++ (str y).cps = (acc ++ (s ++ y)).toArray := by simp -iota [str]
    rw [this, ih]
    simp -iota
  show (⟨((x :: r).map str |>.drop 1).foldl _ _⟩ : Str) = _
  exact congrArg Str.mk (key r x)
theorem glue_nil : ∀ xs : List (List Nat), glueL [] xs = xs.flatten
 | [] => rfl
 | x :: r => by
  show x ++ r.flatMap (fun y => [] ++ y) = x ++ r.flatten
  simp -iota only [List.nil_append]; rw [List.flatMap_id']
noncomputable def lo (v : Option Int) (n : Nat) : Nat := match v with
 | none => 0
 | some x => if x < 0 then n - (-x).toNat else min x.toNat n
noncomputable def hi (v : Option Int) (n : Nat) : Nat := match v with
 | none => n
 | some y => if y < 0 then n - (-y).toNat else min y.toNat n
noncomputable def piece {α : Type} (l : List α) (a b : Option Int) : List α := (l.drop (lo a l.length)).take (hi b l.length - lo a l.length)
theorem lo_le (v : Option Int) (n : Nat) : lo v n ≤ n := by unfold lo; split <;> (try split) <;> lia
theorem hi_le (v : Option Int) (n : Nat) : hi v n ≤ n := by unfold hi; split <;> (try split) <;> lia
theorem picked_one (x : Str) (a b : Option (Int × Tok)) : slicePicked x a b none = (List.range (hi (b.map (·.1)) x.length - lo (a.map (·.1)) x.length)).map (fun k => lo (a.map (·.1)) x.length + k) := by
 unfold slicePicked
 have e1 : Builtin.Str.strSliceIndices (a.map (·.1)) (b.map (·.1)) 1 x.length = sliceRange (lo (a.map (·.1)) x.length : Nat) (hi (b.map (·.1)) x.length : Nat) 1 := by
  unfold Builtin.Str.strSliceIndices
  simp only [show ((1 : Int) > 0) = True from by simp, if_true]
  congr 1
  ·cases a with
   | none => simp [lo]
   | some p => simp only [Option.map_some, lo]; split <;> lia
  ·cases b with
   | none => simp [hi]
   | some p => simp only [Option.map_some, hi]; split <;> lia
 show Builtin.Str.strSliceIndices (a.map (·.1)) (b.map (·.1)) 1 x.length = _
 rw [e1]
 unfold sliceRange
 simp only [show ((1 : Int) > 0) = True from by simp, if_true]
 generalize lo (a.map (·.1)) x.length = p
 generalize hi (b.map (·.1)) x.length = q
 by_cases hlt : (p : Int) < q
 ·have e3 : (((q : Int) - p + 1 - 1) / 1).toNat = q - p := by rw [Int.add_sub_cancel, Int.ediv_one, Int.toNat_sub]
  simp only [hlt, if_true, e3]
  refine List.map_congr_left fun k u_ => ?_
  lia
 ·have : q - p = 0 := Nat.sub_eq_zero_of_le (Int.ofNat_le.mp (Int.not_lt.mp hlt))
  simp [hlt, this]
theorem picks' {α : Type} (l : List α) : ∀ (n a : Nat), a + n ≤ l.length → ((List.range n).map fun k => a + k).filterMap (l[·]?) = (l.drop a).take n
 | 0, _, _ => by simp -iota
 | n + 1, a, h => by
  have hlt : a + n < l.length := by lia
  rw [List.range_succ, List.map_append, List.filterMap_append, picks' l n a (by lia), List.take_add_one, List.getElem?_drop]
  simp -iota [List.getElem?_eq_getElem hlt]
set_option tactic.hygienic true in
theorem cut_one (ks : List Nat) (a b : Option (Int × Tok)) : cut (str ks) a b none = str (piece ks (a.map (·.1)) (b.map (·.1))) := by
 have hn : (str ks).length = ks.length := str_len ks
 have h1 := lo_le (a.map (·.1)) ks.length
 have h2 := hi_le (b.map (·.1)) ks.length
 unfold cut
 rw [picked_one, hn]
 split
 ·rename_i h
  have hl : hi (b.map (·.1)) ks.length - lo (a.map (·.1)) ks.length = ks.length := by simpa -iota using h
  have e1 : lo (a.map (·.1)) ks.length = 0 ∨ ks.length = 0 := by lia
  unfold piece
  rw [hl]
  rcases e1 with e | e
  ·rw [e]; simp -iota
  ·have : ks = [] := List.length_eq_zero_iff.mp e
   subst this; simp -iota
 ·by_cases hle : lo (a.map (·.1)) ks.length ≤ hi (b.map (·.1)) ks.length
  ·have := picks' ks (hi (b.map (·.1)) ks.length - lo (a.map (·.1)) ks.length) (lo (a.map (·.1)) ks.length) (by lia)
   unfold piece
   rw [← this]
   simp -iota [str]
  ·have : hi (b.map (·.1)) ks.length - lo (a.map (·.1)) ks.length = 0 := by lia
   unfold piece
   rw [this]; simp -iota [str]
theorem cut_rev (ks : List Nat) (t : Tok) : cut (str ks) none none (some (-1, t)) = str ks.reverse := by
 unfold cut
 have : ((((some ((-1 : Int), t)).map (·.1)).getD 1 == 1) = false) := rfl
 rw [if_neg (by rw [this]; simp -iota)]
 have e : slicePicked (str ks) none none (some (-1, t)) = (List.range ks.length).reverse := by
  unfold slicePicked
  show Builtin.Str.strSliceIndices none none (-1) _ = _
  rw [str_len]
  show sliceRange ((ks.length : Int) - 1) (-1) (-1) = _
  unfold sliceRange
  simp -iota only [show ((-1 : Int) > 0) = False from by simp, if_false]
  by_cases h : ((ks.length : Int) - 1 > -1)
  ·have : (((ks.length : Int) - 1 - -1 - -1 - 1) / (-(-1))).toNat = ks.length := by rw [show (-(-1) : Int) = 1 from rfl, Int.ediv_one]; lia
   rw [if_pos h, this]
   apply List.ext_getElem (by simp -iota)
   intro i h1 h2
   simp -iota at h1 h2 ⊢
   lia
  ·have : ks.length = 0 := by lia
   rw [if_neg h, this]; rfl
 rw [e, List.filterMap_reverse]
 have := picks' ks ks.length 0 (by lia)
 simp -iota at this
 simp -iota [str, this]
theorem piece_to {α : Type} (l : List α) {k : Int} (h : 0 ≤ k) : piece l none (some k) = l.take k.toNat := by
 unfold piece; simp only [lo, hi, if_neg (Int.not_lt.mpr h), Nat.sub_zero, List.drop_zero]
 by_cases q : k.toNat ≤ l.length
 ·rw [Nat.min_eq_left q]
 ·rw [Nat.min_eq_right (by lia), List.take_of_length_le (Nat.le_refl _), List.take_of_length_le (by lia)]
theorem piece_from {α : Type} (l : List α) {k : Int} (h : 0 ≤ k) : piece l (some k) none = l.drop k.toNat := by
 unfold piece; simp only [lo, hi, if_neg (Int.not_lt.mpr h)]
 by_cases q : k.toNat ≤ l.length
 ·rw [Nat.min_eq_left q, List.take_of_length_le (by simp)]
 ·rw [Nat.min_eq_right (by lia)]; simp; lia
theorem piece_butlast {α : Type} (l : List α) : piece l none (some (-1)) = l.dropLast := by
 unfold piece; simp [lo, hi, List.dropLast_eq_take]
theorem piece_tail {α : Type} (l : List α) (k : Nat) (h : 0 < k) : piece l (some (-(k : Int))) none = l.drop (l.length - k) := by
 unfold piece
 have : (-(k : Int) < 0) := by lia
 simp only [lo, hi, if_pos this, Int.neg_neg, Int.toNat_natCast]
 rw [List.take_of_length_le (by simp)]
section
variable {c : Cx} {n : Nat} {g h : Heap} {l l' : Led} {env : Env} {a : Addr} {ks js : List Nat} {t u : Tok} {vs : List AV}
theorem ok_lit {x : Str} {k : Nat} {pos : Pos} {P : VP} (e : x = str ks) (p : ∀ t, P (.str (str ks) t) h) : Ok c n (eval (.Constant (.str x) k pos) env) P h := by subst e; exact ok_str p
theorem ok_eqS {P : VP} (p : P (.bool (decide (ks = js))) h) : Ok c n (compareOp .Eq (.str (str ks) t) (.str (str js) u)) P h := ok_eq_str (by rw [str_beq]; exact p)
theorem ok_neS {P : VP} (p : P (.bool (!decide (ks = js))) h) : Ok c n (compareOp .NotEq (.str (str ks) t) (.str (str js) u)) P h := ok_ne_str (by rw [str_bne]; exact p)
theorem ok_inS {k : Nat} {P : VP} (p : P (.bool (decide (k ∈ ks))) h) : Ok c n (compareOp .In (.str (str [k]) u) (.str (str ks) t)) P h := by
 refine ok_in_str ?_
 have := StrLaws.found_one (str ks) k
 have e : (Txt.contains (str ks) (str [k])) = decide (k ∈ ks) := by
  refine Eq.trans this ?_
  have : (str ks).cps.toList = ks := by simp -iota [str]
  rw [this]
 rw [e]; exact p
theorem ok_addS {P : VP} (hz : ks.length + js.length ≤ 16777216) (p : ∀ t, P (.str (str (ks ++ js)) t) h) : Ok c n (binaryOp .Add (.str (str ks) t) (.str (str js) u)) P h :=
 ok_add_str (by rw [str_len, str_len]; exact hz) fun t => by rw [str_app]; exact p t
noncomputable def strsOf (xs : List (List Nat)) : List AV := xs.map .str
theorem Reps.strs {xs : List (List Nat)} : ∀ {us : List Value}, Reps (strsOf xs) us → Strs us (xs.map str) := by
 induction xs with
 | nil => intro us h; cases us with
  | nil => exact ⟨[], rfl, rfl⟩
  | cons v vs => exact h.elim
 | cons x xs ih => intro us h; cases us with
  | nil => exact h.elim
  | cons u us => obtain ⟨⟨t, rfl⟩, h⟩ := h; exact (ih h).cons
theorem ok_joinA {xs : List (List Nat)} {P : VP} (hl : HO h a (isL (strsOf xs))) (hz : (xs.map (·.length)).sum + xs.length * ks.length ≤ 16777216) (p : ∀ t, P (.str (str (glueL ks xs)) t) h) : Ok c n (call (.builtin "str.join") [.str (str ks) t, .ref a]) P h := by
 obtain ⟨o, ho, us, r, q⟩ := hl
 refine ok_join ⟨o, ho, q⟩ r.strs ?_ fun t => ?_
 ·rw [List.map_map, str_len]; simp -iota only [Function.comp_def, str_len, List.length_map]; exact hz
 ·rw [join_str]; exact p t
theorem ok_itemS {i : Int} {k : Nat} {P : VP} (h0 : 0 ≤ i) (hi : i < 2 ^ 62) (hx : ks[i.toNat]? = some k) (p : ∀ t, P (.str (str [k]) t) h) : GetI c n (.str (str ks) t) (.int i u) P h := by
 have hlt : i.toNat < ks.length := (List.getElem?_eq_some_iff.mp hx).1
 refine ok_sub_str (k := i.toNat) (ch := k) ?_ (by simpa -iota [str] using hx) (by lia) p
 rw [str_len]
 have e : ¬ i < 0 := by lia
 have e2 : (decide (0 ≤ i) && decide (i < (ks.length : Int))) = true := by rw [Bool.and_eq_true, decide_eq_true_iff, decide_eq_true_iff]; lia
 simp -iota only [seqIndex?, if_neg e]
 rw [if_pos e2]
theorem ok_lastS {k : Nat} {P : VP} (p : ∀ t, P (.str (str [k]) t) h) : GetI c n (.str (str (ks ++ [k])) t) (.int (-1) u) P h := by
 refine ok_sub_str (k := ks.length) (ch := k) ?_ (by simp -iota [str]) (by decide) p
 rw [str_len]
 have e : ((-1 : Int) < 0) := by decide
 have e2 : (decide (0 ≤ (-1 : Int) + ((ks ++ [k]).length : Int)) && decide ((-1 : Int) + ((ks ++ [k]).length : Int) < ((ks ++ [k]).length : Int))) = true := by rw [Bool.and_eq_true, decide_eq_true_iff, decide_eq_true_iff]; simp -iota; lia
 simp -iota only [seqIndex?, if_pos e]
 rw [if_pos e2]
 simp -iota; lia
inductive PartV : Option Int → Value → Prop
 | none : PartV none .none
 | some {i : Int} {t : Tok} : PartV (some i) (.int i t)
theorem PartV.ex {i : Option Int} {v : Value} (x : PartV i v) : ∃ p : Option (Int × Tok), v = partValue p ∧ p.map (·.1) = i := by
 cases x with
 | none => exact ⟨Option.none, rfl, rfl⟩
 | some => exact ⟨Option.some (_, _), rfl, rfl⟩
theorem ok_sliceS {va vb : Value} {i j : Option Int} {P : VP} (S : St c g h ((a, fun o => o = { cls := .type "slice", data := .fields #[va, vb, .none] }) :: l)) (pa : PartV i va) (pb : PartV j vb) (hz : ks.length ≤ 1000000)
  (p : ∀ t, St c g h l → P (.str (str (piece ks i j)) t) h) : GetI c n (.str (str ks) t) (.ref a) P h := by
 obtain ⟨qa, rfl, rfl⟩ := pa.ex
 obtain ⟨qb, rfl, rfl⟩ := pb.ex
 refine ok_sub_slice (lo := qa) (up := qb) (st := none) S .here rfl ?_ fun t => ?_
 ·rw [cut_one, str_len]; unfold piece; simp -iota; lia
 ·rw [cut_one]; exact p t S.tail
theorem ok_revS {k : Tok} {P : VP} (S : St c g h ((a, fun o => o = { cls := .type "slice", data := .fields #[.none, .none, .int (-1) k] }) :: l)) (hz : ks.length ≤ 1000000)
  (p : ∀ t, St c g h l → P (.str (str ks.reverse) t) h) : GetI c n (.str (str ks) t) (.ref a) P h := by
 refine ok_sub_slice (lo := none) (up := none) (st := some (-1, k)) S .here rfl ?_ fun t => ?_
 ·rw [cut_rev, str_len]; simp -iota; lia
 ·rw [cut_rev]; exact p t S.tail
end
section
variable {K : Type} [DecidableEq K]
noncomputable abbrev DM (K : Type) := List (K × AV)
noncomputable def RepD : DM K → List (K × Value) → Prop
 | [], [] => True
 | (k, a) :: m, (k', v) :: r => k' = k ∧ a.rep v ∧ RepD m r
 | _, _ => False
theorem RepD.cons_inv {k : K} {a : AV} {m : DM K} {r : List (K × Value)} (h : RepD ((k, a) :: m) r) : ∃ v s, r = (k, v) :: s ∧ a.rep v ∧ RepD m s := by
 cases r with
 | nil => exact h.elim
 | cons p r => obtain ⟨k', v⟩ := p; obtain ⟨e, h1, h2⟩ := h; cases e; exact ⟨v, r, rfl, h1, h2⟩
theorem RepD.ind {M : DM K → List (K × Value) → Prop} (n : M [] []) (s : ∀ {k a v m r}, a.rep v → RepD m r → M m r → M ((k, a) :: m) ((k, v) :: r)) {m : DM K} : ∀ {r}, RepD m r → M m r := by
 induction m with
 | nil => intro r h; cases r with
  | nil => exact n
  | cons v vs => exact h.elim
 | cons p m ih => obtain ⟨k, a⟩ := p; intro r h; obtain ⟨v, r2, rfl, hv, h2⟩ := h.cons_inv; exact s hv h2 (ih h2)
theorem RepD.len {m : DM K} {r : List (K × Value)} (h : RepD m r) : r.length = m.length :=
 h.ind (M := fun m r => r.length = m.length) rfl fun u_ u_ q => congrArg (· + 1) q
theorem RepD.keys {m : DM K} {r : List (K × Value)} (h : RepD m r) : r.map (fun p => p.1) = m.map (fun p => p.1) := by
 refine h.ind (M := fun m r => r.map (fun p => p.1) = m.map (fun p => p.1)) rfl fun {k a v m r} _ _ q => ?_
 rw [List.map_cons, List.map_cons, q]
noncomputable def at? (m : DM K) (k : K) : Option AV := (m.find? fun p => decide (p.1 = k)).map (·.2)
noncomputable def putAt (m : DM K) (k : K) (a : AV) : DM K := if m.any (fun p => decide (p.1 = k)) then m.map (fun p => if p.1 = k then (p.1, a) else p) else m ++ [(k, a)]
theorem RepD.at_ {m : DM K} {r : List (K × Value)} (k : K) (h : RepD m r) : match at? m k with | some a => ∃ v, valueAt r k = some v ∧ a.rep v | none => valueAt r k = none := by
 refine h.ind (M := fun m r => match at? m k with | some a => ∃ v, valueAt r k = some v ∧ a.rep v | none => valueAt r k = none) rfl fun {k' a v m r} hv _ q => ?_
 unfold at? valueAt
 rw [List.find?_cons, List.find?_cons]
 by_cases e : k' = k
 ·simp -iota only [e, decide_true]; exact ⟨v, rfl, hv⟩
 ·simp -iota only [e, decide_false]; exact q
theorem RepD.map_put {k : K} {a : AV} {v : Value} (hv : a.rep v) {m : DM K} {r : List (K × Value)} (h : RepD m r) : RepD (m.map fun p => if p.1 = k then (p.1, a) else p) (r.map fun kv => if kv.1 = k then (kv.1, v) else kv) := by
 refine h.ind (M := fun m r => RepD (m.map fun p => if p.1 = k then (p.1, a) else p) (r.map fun kv => if kv.1 = k then (kv.1, v) else kv)) trivial fun {k' b u m r} hu _ q => ?_
 rw [List.map_cons, List.map_cons]
 by_cases e : k' = k
 ·rw [if_pos e, if_pos e]; exact ⟨rfl, hv, q⟩
 ·rw [if_neg e, if_neg e]; exact ⟨rfl, hu, q⟩
theorem RepD.consI {k : K} {a : AV} {v : Value} {m : DM K} {r : List (K × Value)} (hv : a.rep v) (h : RepD m r) : RepD ((k, a) :: m) ((k, v) :: r) := ⟨rfl, hv, h⟩
theorem RepD.snoc {k : K} {a : AV} {v : Value} (hv : a.rep v) {m : DM K} {r : List (K × Value)} (h : RepD m r) : RepD (m ++ [(k, a)]) (r ++ [(k, v)]) :=
 h.ind (M := fun m r => RepD (m ++ [(k, a)]) (r ++ [(k, v)])) (RepD.consI (m := []) (r := []) hv trivial) fun hu u_ q => RepD.consI hu q
theorem RepD.any_ {m : DM K} {r : List (K × Value)} (k : K) (h : RepD m r) : r.any (fun kv => decide (kv.1 = k)) = m.any (fun p => decide (p.1 = k)) :=
 h.ind (M := fun m r => r.any (fun kv => decide (kv.1 = k)) = m.any (fun p => decide (p.1 = k))) rfl fun u_ u_ q => congrArg (_ || ·) q
theorem RepD.put {k : K} {a : AV} {v : Value} {m : DM K} {r : List (K × Value)} (h : RepD m r) (hv : a.rep v) : RepD (putAt m k a) (stored r k v) := by
 unfold putAt stored
 rw [RepD.any_ k h]
 split
 ·exact h.map_put hv
 ·exact h.snoc hv
theorem RepD.get {m : DM K} {r : List (K × Value)} {i : Nat} {k : K} {a : AV} (h : RepD m r) : m[i]? = some (k, a) → ∃ v, r[i]? = some (k, v) ∧ a.rep v :=
 h.ind (M := fun m r => ∀ i, m[i]? = some (k, a) → ∃ v, r[i]? = some (k, v) ∧ a.rep v) (fun i e => by cases e) (fun hv u_ q i e => by
  cases i with
  | zero => cases e; exact ⟨_, rfl, hv⟩
  | succ i => exact q i e) i
theorem at?_none {m : DM K} {k : K} : at? m k = none ↔ k ∉ m.map (·.1) := by
 unfold at?
 rw [Option.map_eq_none_iff, List.find?_eq_none]
 constructor
 ·intro h hm
  obtain ⟨p, hp, e⟩ := List.mem_map.mp hm
  exact h p hp (decide_eq_true e)
 ·intro h p hp e
  exact h (List.mem_map.mpr ⟨p, hp, of_decide_eq_true e⟩)
theorem putAt_new {m : DM K} {k : K} {a : AV} (h : at? m k = none) : putAt m k a = m ++ [(k, a)] := by
 unfold putAt
 rw [if_neg]
 intro hc
 obtain ⟨p, hp, e⟩ := List.any_eq_true.mp hc
 exact at?_none.mp h (List.mem_map.mpr ⟨p, hp, of_decide_eq_true e⟩)
set_option tactic.hygienic true in
theorem at?_putAt (m : DM K) (k : K) (a : AV) (j : K) : at? (putAt m k a) j = if j = k then some a else at? m j := by
 unfold putAt
 split
 ·rename_i hc
  induction m with
  | nil => simp at hc
  | cons p m ih =>
   obtain ⟨q, b⟩ := p
   unfold at? at ih ⊢
   simp only [List.map_cons, List.find?_cons]
   by_cases e : q = k
   ·subst e
    simp only [if_true]
    by_cases ej : q = j
    ·subst ej; simp
    ·have ej' : ¬ j = q := fun x => ej x.symm
     simp only [ej, decide_false, if_neg ej']
     by_cases hc' : (m.any fun p => decide (p.1 = q)) = true
     ·have := ih hc'; rw [if_neg ej'] at this; exact this
     ·have : (m.map fun p => if p.1 = q then (p.1, a) else p) = m := by
       conv => rhs; rw [← List.map_id m]
       refine List.map_congr_left fun p hp => ?_
       rw [if_neg fun e => hc' (List.any_eq_true.mpr ⟨p, hp, decide_eq_true e⟩)]; rfl
      rw [this]
   ·simp only [e, if_false]
    by_cases ej : q = j
    ·subst ej; simp [e]
    ·simp only [ej, decide_false]
     refine ih ?_
     simpa [e] using hc
 ·rename_i hc
  unfold at?
  rw [List.find?_append]
  by_cases ej : j = k
  ·subst ej
   have : m.find? (fun p => decide (p.1 = j)) = none := by
    rw [List.find?_eq_none]; intro p hp e; exact hc (List.any_eq_true.mpr ⟨p, hp, e⟩)
   simp [this]
  ·have ej' : ¬ k = j := fun x => ej x.symm
   simp [ej, ej']
end
section
variable {prog : Program} {w : World} {K : Type} [DecidableEq K]
noncomputable def isDk (knd : KeyKind prog w K) (m : DM K) : Obj → Prop := fun o => ∃ kvs, RepD m kvs ∧ o.IsDictOf knd kvs
noncomputable abbrev isD (c : Cx) (m : DM Str) : Obj → Prop := isDk (strKind c.prog c.w) m
class Keyed (K : Type) [DecidableEq K] where
 av : K → AV
 knd : ∀ prog w, KeyKind prog w K
 is : ∀ {prog w k v}, (av k).rep v → (knd prog w).is k v = true
 back : ∀ {prog w k v}, (knd prog w).is k v = true → (av k).rep v
theorem str_list (x : Str) : str x.cps.toList = x := by cases x; simp -iota [str]
noncomputable instance : Keyed Str where
 av x := .str x.cps.toList
 knd := strKind
 is := fun {prog w k v} r => by
  obtain ⟨t, rfl⟩ := r; rw [str_list]; exact strKind_is ..
 back := fun {prog w k v} h => by
  obtain ⟨t, rfl⟩ := Value.isStrOf_shape h; exact ⟨t, by rw [str_list]⟩
noncomputable instance : Keyed Int where
 av x := .int x
 knd := intKind
 is := fun {prog w k v} r => by obtain ⟨t, rfl⟩ := r; exact intKind_is ..
 back := fun {prog w k v} h => by obtain ⟨t, rfl⟩ := Value.isInt_shape h; exact ⟨t, rfl⟩
end
section
variable {c : Cx} {n : Nat} {g h : Heap} {l l' : Led} {env : Env} {d a : Addr} {v key : Value} {av : AV} {K : Type} [DecidableEq K] [Keyed K] {m : DM K} {k : K} {t u : Tok}
noncomputable abbrev isDic (c : Cx) (m : DM K) : Obj → Prop := isDk (Keyed.knd (K := K) c.prog c.w) m
theorem isDk.of {h : Heap} (x : HO h d (isDic c m)) : ∃ kvs, RepD m kvs ∧ h.DictOf (Keyed.knd (K := K) c.prog c.w) d kvs := by obtain ⟨o, ho, kvs, r, q⟩ := x; exact ⟨kvs, r, Heap.dictOf_iff.mpr ⟨o, ho, q⟩⟩
theorem isDk.to {h : Heap} {kvs : List (K × Value)} (r : RepD m kvs) (x : h.DictOf (Keyed.knd (K := K) c.prog c.w) d kvs) : HO h d (isDic c m) := by obtain ⟨o, ho, q⟩ := Heap.dictOf_iff.mp x; exact ⟨o, ho, kvs, r, q⟩
theorem isDic.new : isDic c (K := K) [] { cls := .type "dict", data := .dict #[] } := ⟨[], trivial, #[], 0, ⟨rfl, rfl, rfl⟩, rfl, fun u_ he => by simp -iota at he, Pairs.nil, List.nodup_nil⟩
theorem ok_newDictA {P : VP} (S : St c g h l) (p : ∀ a h', St c g h' ((a, isDic (K := K) c []) :: l) → P (.ref a) h') : Ok c n newDict P h :=
 fun A d tk rm => wpAny_newObj_type ⟨rfl, rfl, p _ _ (S.push rfl isDic.new)⟩ (by size_fits)
noncomputable def NotSys (a : Addr) : Prop := (a == sysModules) = false
theorem ok_inD {P : VP} (A : HO h d (isDic c m)) (hd : NotSys d) (rk : (Keyed.av k).rep key) (p : P (.bool (at? m k).isSome) h) : Ok c n (compareOp .In key (.ref d)) P h := by
 obtain ⟨kvs, r, q⟩ := isDk.of A
 refine fun u_ u_ u_ u_ => wpAny_in_of (Keyed.is rk) hd q.mapOf ⟨rfl, rfl, ?_⟩
 have := r.at_ k
 cases e : at? m k with
 | none => rw [e] at this p; rw [this]; exact p
 | some a => rw [e] at this p; obtain ⟨v, hv, _⟩ := this; rw [hv]; exact p
theorem ok_notInD {P : VP} (A : HO h d (isDic c m)) (hd : NotSys d) (rk : (Keyed.av k).rep key) (p : P (.bool (!(at? m k).isSome)) h) : Ok c n (compareOp .NotIn key (.ref d)) P h := by
 obtain ⟨kvs, r, q⟩ := isDk.of A
 refine fun u_ u_ u_ u_ => wpAny_notIn_of (Keyed.is rk) hd q.mapOf ⟨rfl, rfl, ?_⟩
 have := r.at_ k
 cases e : at? m k with
 | none => rw [e] at this p; rw [this]; exact p
 | some a => rw [e] at this p; obtain ⟨v, hv, _⟩ := this; rw [hv]; exact p
theorem ok_itemD {P : VP} (A : HO h d (isDic c m)) (rk : (Keyed.av k).rep key) (e : at? m k = some av) (p : av.All fun v => P v h) : GetI c n (.ref d) key P h := by
 obtain ⟨kvs, r, q⟩ := isDk.of A
 have := r.at_ k
 rw [e] at this
 obtain ⟨v, hv, rv⟩ := this
 exact ⟨"dict", _, fun u_ u_ => Heap.MapOf.typeIs (s := c.at h _ _) q.mapOf, slot_dict_getitem.lookup, fun u_ u_ u_ u_ => wpAny_getItem_of (Keyed.is rk) q.mapOf hv ⟨rfl, rfl, p v rv⟩⟩
theorem putD_of {h' : Heap} (S : St c g h l) (U : Up l d (isDic c m) (isDic c (putAt m k av)) l') {kvs : List (K × Value)} (r : RepD m kvs) (rv : av.rep v) (hd : h'.DictOf (Keyed.knd (K := K) c.prog c.w) d (stored kvs k v)) (hs : Heap.SameBut d h h') : St c g h' l' :=
 S.upd U hs (isDk.to (r.put rv) hd)
theorem ok_setItemD {P : Unit → Heap → Prop} (S : St c g h l) (U : Up l d (isDic c m) (isDic c (putAt m k av)) l') (rk : (Keyed.av k).rep key) (rv : av.rep v) (hz : m.length ≤ 1000000) (p : ∀ h', St c g h' l' → P () h') : Ok c n (setItem (.ref d) key v) P h := by
 obtain ⟨kvs, r, q⟩ := isDk.of (S.at_ _ U.mem)
 exact fun u_ u_ u_ u_ => wpAny_setItem_pairs (Keyed.is rk) q (fun h' hd hs => ⟨rfl, rfl, p _ (putD_of S U r rv hd hs)⟩) (by rw [r.len, sizeLine_eq]; lia)
theorem ok_dictSetA {P : Unit → Heap → Prop} (S : St c g h l) (U : Up l d (isDic c m) (isDic c (putAt m k av)) l') (rk : (Keyed.av k).rep key) (rv : av.rep v) (hz : m.length ≤ 1000000) (p : ∀ h', St c g h' l' → P () h') : Ok c n (dictSet d key v) P h := by
 obtain ⟨kvs, r, q⟩ := isDk.of (S.at_ _ U.mem)
 exact fun u_ u_ u_ u_ => wpAny_dictSet_pairs (Keyed.is rk) q (fun h' hd hs => ⟨rfl, rfl, p _ (putD_of S U r rv hd hs)⟩) (by rw [r.len, sizeLine_eq]; lia)
theorem ok_truthyD {P : Bool → Heap → Prop} (A : HO h d (isDic c m)) (hd : NotSys d) (hz : m.length ≤ 1000000) (p : P (!m.isEmpty) h) : Ok c n (truthy (.ref d)) P h := by
 obtain ⟨kvs, r, q⟩ := isDk.of A
 refine fun u_ u_ u_ u_ => wpAny_truthy_dict hd q (by rw [r.len]; lia) ⟨rfl, rfl, ?_⟩
 have : kvs.isEmpty = m.isEmpty := by rw [Bool.eq_iff_iff]; simp -iota [← List.length_eq_zero_iff, r.len]
 rw [this]; exact p
theorem ok_getMethodD {name : Str} {id : String} {pl : Sem Bool} {P : Value × List Value → Heap → Prop} (A : HO h d (isDic c m)) (slot : Slot "dict" name id) (ht : typeOf (.builtin id) = pure (.type "method_descriptor"))
  (p : P (.builtin id, [.ref d]) h) : Ok c n (getMethod (.ref d) name pl) P h := by
 obtain ⟨kvs, r, q⟩ := isDk.of A
 exact fun u_ dr tk u_ => getMethod_builtin (s := c.at h dr tk) (Heap.MapOf.typeIs (s := c.at h dr tk) q.mapOf) PySem.F.plainAttrs_dict slot ht q.mapOf.noDict ⟨rfl, rfl, p⟩
theorem ok_x_setItem {o i : PySem.Expr} {p' pos : Pos} {value : PySem.Expr} {rest : List Stmt} {P : Flow → Heap → Prop} (hs : swapsWith value (some (.Subscript o i p')) pos.line env = pure false)
  (y : Ok c n (eval value env) (kSI1 o i rest env c n P) h) :
  Ok c n (exec (.Assign [.Subscript o i p'] value pos) env) (Then c n env rest P) h := by
 exact fun A d tk r => wpAny_Assign_Subscript (hs := hs) (y.use r fun v h₁ d₁ tk₁ z => z.use r fun ov h₂ d₂ tk₂ z => z.use r fun iv h₃ d₃ tk₃ z => z.use r fun u_ h₄ d₄ tk₄ z => ⟨rfl, rfl, z⟩)
end
section
variable {c : Cx} {n : Nat} {g h : Heap} {l l' : Led} {env : Env} {d it a : Addr} {v key : Value} {av : AV} {K : Type} [DecidableEq K] [Keyed K] {m : DM K} {k : K} {t u : Tok}
noncomputable def DictFix (c : Cx) (h : Heap) (d : Addr) (m : DM K) (ep : Nat) : Prop := ∃ kvs, RepD m kvs ∧ h.DictAt (Keyed.knd (K := K) c.prog c.w) d kvs ep
theorem DictFix.gr {g g' : Heap} {ep : Nat} (x : DictFix c g d m ep) (k : Gr g g') : DictFix c g' d m ep := by obtain ⟨kvs, r, q⟩ := x; exact ⟨kvs, r, q.keep k⟩
theorem HO.fix (x : HO g d (isDic c m)) : ∃ ep, DictFix c g d m ep := by obtain ⟨kvs, r, q⟩ := isDk.of x; obtain ⟨ep, q⟩ := q.dictAt; exact ⟨ep, kvs, r, q⟩
noncomputable def isKI (d : Addr) (n ep : Nat) (i : Nat) : Obj → Prop := fun o => o.cls = .type "dict_keyiterator" ∧ o.data = .fields #[.ref d, .int i 0, .int n 0, .int ep 0]
theorem ok_iterD {ep : Nat} {P : VP} (S : St c g h l) (hd : NotSys d) (x : DictFix c h d m ep) (p : ∀ it h', St c g h' ((it, isKI d m.length ep 0) :: l) → P (.ref it) h') : Ok c n (pyIter (.ref d)) P h := by
 obtain ⟨kvs, r, q⟩ := x
 refine fun A dr tk rm => wpAny_pyIter_dict hd q ⟨rfl, rfl, ?_⟩
 have := r.len
 exact p _ _ (S.push rfl ⟨rfl, by rw [this]; rfl⟩)
noncomputable def keysOf (m : DM K) : List AV := m.map fun p => Keyed.av p.1
theorem srcA_dict {ep : Nat} : SrcA c it (isKI d m.length ep) (keysOf m) (fun h => DictFix c h d m ep) where
 next := fun {n g h l l' i av P} S hl hx U p => by
  obtain ⟨kvs, r, q⟩ := hl
  simp -iota only [keysOf, List.getElem?_map, Option.map_eq_some_iff] at hx
  obtain ⟨⟨k, a⟩, hk, rfl⟩ := hx
  obtain ⟨v, hv, rv⟩ := r.get hk
  obtain ⟨o, ho, hc, hd⟩ := S.get U.at_
  refine fun A dr tk rm => wpAny_pyNext_dict_item (kvs := kvs) (ep := ep) ⟨o, ho, hc, by rw [r.len]; exact hd⟩ q hv fun key h' hkey hi hs => ⟨rfl, rfl, p _ (S.upd U hs ?_) key (Keyed.back hkey)⟩
  obtain ⟨o', ho', hc', hd'⟩ := hi
  rw [r.len] at hd'
  exact ⟨o', ho', hc', hd'⟩
 done := fun {n g h l l' P} S hl D p => by
  obtain ⟨kvs, r, q⟩ := hl
  obtain ⟨o, ho, hc, hd⟩ := (S.perm D.perm).get .here
  refine fun A dr tk rm => wpAny_pyNext_dict_end (kvs := kvs) (ep := ep) (i := (keysOf m).length) rm.hand ⟨o, ho, hc, by rw [r.len]; exact hd⟩ q (by simp -iota [keysOf, r.len]) fun h' hs => ⟨rfl, rfl, p _ (S.del D (same_of_ext hs))⟩
 self := fun {n g h l i P} S hl A p => fun u_ dr tk rm => wpAny_pyIter_keyiter (S.get A) ⟨rfl, rfl, p⟩
 owned := fun {n g h l i t v P} S A p => by obtain ⟨o, ho, hc, hd⟩ := S.get A; exact ok_owned_none ho hc hd (by decide) p
end
noncomputable abbrev byText (c : Cx) : Bool := c.w.params.followText "set-order"
structure SetIn (c : Cx) (ks : List (List Nat)) (es : Array (Int × Value)) (t : SetTable) : Prop where
 el : ElemsOf (strKind c.prog c.w) es.toList
 mem : ∀ x : Str, (∃ k ∈ ks, x = str k) ↔ ∃ e ∈ es.toList, (strKind c.prog c.w).is x e.2 = true
 room : es.size < scanBound
 fits : t.fits es.size = true
 led : t.led = !byText c
 drawn : es.size ≤ 1 ∨ t.plain = false
 le : es.size ≤ ks.length
noncomputable def isSet (c : Cx) (ks : List (List Nat)) : Obj → Prop := fun o => ∃ es ep t, o = { cls := .type "set", dict := none, data := .set es ep t, slots := #[] } ∧ SetIn c ks es t
section
variable {c : Cx} {n : Nat} {g h : Heap} {l l' : Led} {env : Env} {s it a : Addr} {v : Value} {k : List Nat} {ks : List (List Nat)} {t u : Tok}
theorem isSet.of {h : Heap} (x : HO h s (isSet c ks)) : ∃ m, h.SetOf (strKind c.prog c.w) s (fun x => decide (∃ k ∈ ks, x = str k)) m := by
 obtain ⟨o, ho, es, ep, t, rfl, q⟩ := x
 refine ⟨es.size, _, es, ep, t, ho, ⟨rfl, rfl, rfl⟩, rfl, q.el, fun x => ?_, q.room, q.fits, rfl⟩
 rw [decide_eq_true_iff]; exact q.mem x
theorem ok_inSet {P : VP} (A : HO h s (isSet c ks)) (p : P (.bool (decide (k ∈ ks))) h) : Ok c n (compareOp .In (.str (str k) t) (.ref s)) P h := by
 obtain ⟨m, q⟩ := isSet.of A
 refine fun u_ u_ u_ u_ => wpAny_inSet_of (strKind_is _ _ _ _) rfl q ⟨rfl, rfl, ?_⟩
 have e : decide (∃ k' ∈ ks, str k = str k') = decide (k ∈ ks) := by
  rw [decide_eq_decide]
  exact ⟨fun q1_ => (by obtain ⟨k', h1, h2⟩ := q1_; exact str_inj.mp h2 ▸ h1), fun h => ⟨k, h, rfl⟩⟩
 rw [e]; exact p
theorem setIn_new : SetIn c [] #[] (.fresh 0 0 (!byText c)) := ⟨fun e he => by simp -iota at he, fun x => by simp, by decide, rfl, rfl, .inl (by simp -iota), by simp⟩
theorem layNew_led (t : SetTable) (es : Array (Int × Value)) (h : Int) (x : Value) : (layNew t es h x).2.1.led = t.led := by
 unfold layNew
 split
 ·dsimp only
  unfold SetTable.orStandIn
  split <;> rfl
 ·rfl
set_option tactic.hygienic true in
theorem relayAll_led (t : SetTable) (es : Array (Int × Value)) (m : Nat) : (relayAll t es m).2.1.led = t.led ∧ (t.plain = false → (relayAll t es m).2.1.plain = false) := by
 unfold relayAll
 split
 ·rename_i t' order e
  unfold SetTable.relaid SetTable.laid at e
  simp -iota only [Option.bind_eq_bind, Option.bind_eq_some_iff, Option.pure_def, Option.some.injEq, Prod.mk.injEq] at e
  obtain ⟨owner, _, rfl, _⟩ := e
  dsimp only
  split
  ·exact ⟨rfl, fun h => h⟩
  ·exact ⟨rfl, fun u_ => rfl⟩
 ·exact ⟨rfl, fun u_ => rfl⟩
theorem plainKind_str {x : Str} {t : Tok} : hashByValue 8 (.str x t) = pure false := rfl
set_option tactic.hygienic true in
theorem ok_setAdd {P : Bool → Heap → Prop} (S : St c g h l) (U : Up l s (isSet c ks) (isSet c (ks ++ [k])) l') (hz : ks.length ≤ 1000) (p : ∀ b h', St c g h' l' → P b h') : Ok c n (setAdd s (.str (str k) t)) P h := by
 obtain ⟨o, ho, es, ep, tb, rfl, q⟩ := S.at_ _ U.mem
 have hkey : (strKind c.prog c.w).is (str k) (.str (str k) t) = true := strKind_is _ _ _ _
 have hb1 : es.size + 1 < scanBound := by have := q.le; show _ < 4096; lia
 intro A d tk r
 unfold setAdd
 refine wpAny_holding (wpAny_bind ((strKind c.prog c.w).pyHash hkey ?_))
 unfold setAddHashed setAddHashedIn
 refine wpAny_holding (wpAny_bind (wpAny_setState_of (s := c.at h d (tk + 1)) ho rfl q.fits ?_))
 dsimp only
 rw [byScan_of rfl q.room q.el]
 simp -iota only [↓reduceIte]
 unfold setAddByScan
 refine wpAny_bind ?_
 refine wpAny_bind (wpAny_rule ?_)
 refine wpAny_bind (wpAny_setScan_of hkey ho rfl q.fits q.el ?_)
 cases hr : List.findIdx? (fun e => (strKind c.prog c.w).is (str k) e.2) es.toList with
 | some j =>
  dsimp only
  obtain ⟨hj, hpj, _⟩ := List.findIdx?_eq_some_iff_getElem.mp hr
  refine wpAny_pure (wpAny_pure ⟨rfl, rfl, p _ _ (S.upd U (Heap.SameBut.refl ..) ⟨_, ho, es, ep, tb, rfl, q.el, fun x => ?_, q.room, q.fits, q.led, q.drawn, by have := q.le; simp -iota; lia⟩)⟩)
  rw [← q.mem x]
  constructor
  ·rintro ⟨k', hk, rfl⟩
   rcases List.mem_append.mp hk with hk | hk
   ·exact ⟨k', hk, rfl⟩
   ·rw [List.mem_singleton.mp hk]
    exact (q.mem _).mpr ⟨_, List.getElem_mem hj, hpj⟩
  ·rintro ⟨k', hk, rfl⟩; exact ⟨k', List.mem_append_left _ hk, rfl⟩
 | none =>
  dsimp only
  have hgw : ∀ (b : Bool) {s₁ : Shared} {Q' : Unit → Shared → Prop}, Q' () s₁ → wpAny c.M A (match b with | true => rule "set.scan.the-table-gave-way" | false => pure ()) Q' NoE s₁ :=
   fun b s₁ Q' hq => by cases b <;> first | exact wpAny_pure hq | exact wpAny_rule hq
  have hperm := layNew_perm tb es ((strKind c.prog c.w).hash (str k)) (.str (str k) t)
  have hfits := layNew_fits tb es ((strKind c.prog c.w).hash (str k)) (.str (str k) t)
  have hled := layNew_led tb es ((strKind c.prog c.w).hash (str k)) (.str (str k) t)
  generalize hL : layNew tb es ((strKind c.prog c.w).hash (str k)) (.str (str k) t) = L at hperm hfits hled ⊢
  obtain ⟨es1, t1, wasDummy, gave⟩ := L
  dsimp only at hperm hfits hled ⊢
  rw [Array.toList_push] at hperm
  have hsz1 : es1.size = es.size + 1 := by rw [← Array.length_toList, hperm.length_eq, List.length_append, Array.length_toList]; rfl
  have mk : ∀ (es2 : Array (Int × Value)) (t2 : SetTable), List.Perm es2.toList es1.toList → t2.fits es2.size = true → t2.led = tb.led → t2.plain = false → SetIn c (ks ++ [k]) es2 t2 := by
   intro es2 t2 hp hf hl hpl
   have hsz2 : es2.size = es.size + 1 := by rw [← hsz1, ← Array.length_toList, ← Array.length_toList, hp.length_eq]
   refine ⟨((q.el.push hkey rfl).perm hperm).perm hp, fun x => ?_, by rw [hsz2]; exact hb1, hf, by rw [hl, q.led], .inr hpl, by have := q.le; rw [hsz2]; simp -iota; lia⟩
   have hm := q.mem x
   constructor
   ·rintro ⟨k', hk, rfl⟩
    rcases List.mem_append.mp hk with hk | hk
    ·obtain ⟨e, he, hi⟩ := hm.mp ⟨k', hk, rfl⟩
     exact ⟨e, hp.mem_iff.mpr (hperm.mem_iff.mpr (List.mem_append_left _ he)), hi⟩
    ·rw [List.mem_singleton.mp hk]
     exact ⟨_, hp.mem_iff.mpr (hperm.mem_iff.mpr (List.mem_append_right _ (List.mem_singleton.mpr rfl))), hkey⟩
   ·rintro ⟨e, he, hi⟩
    rcases List.mem_append.mp (hperm.mem_iff.mp (hp.mem_iff.mp he)) with he | he
    ·obtain ⟨k', hk, e⟩ := hm.mpr ⟨e, he, hi⟩; exact ⟨k', List.mem_append_left _ hk, e⟩
    ·rw [List.mem_singleton.mp he] at hi
     exact ⟨k, List.mem_append_right _ (List.mem_singleton.mpr rfl), ((strKind c.prog c.w).inj _ _ _ hi hkey)⟩
  have hroom1 : es1.size ≤ sizeLine := by rw [hsz1, sizeLine_eq]; have : es.size + 1 < 4096 := hb1; lia
  refine wpAny_bind (hgw _ ?_)
  have key : ∀ t2 : SetTable, t2.fits es1.size = true → t2.led = tb.led → t2.plain = false → wpAny c.M A (do
    storeSet s es1 t2
    if (!wasDummy && t2.tooFull) = true then do
     let (es, t, gave) := relayAll t2 es1 (SetTable.grown es1.size)
     (match gave with | true => rule "set.scan.the-table-gave-way" | false => pure ())
     storeSet s es t
    return some true) (fun r s' => wpAny c.M A (match r with | some added => pure added | none => setAddHashedIn s (.str (str k) t) ((strKind c.prog c.w).hash (str k)) 99999) (c.Q P) NoE s') NoE (c.at h d (tk + 1)) := by
   intro t2 hf2 hl2 hp2
   have he1 := Heap.get?_update_self (Obj.putSet es1 t2) ho (o := { cls := .type "set", dict := none, data := .set es ep tb, slots := #[] }) rfl
   refine wpAny_bind (wpAny_storeSet_of ho rfl ?_ hroom1)
   split
   ·have hp := relayAll_perm t2 es1 (SetTable.grown es1.size)
    have hf := relayAll_fits t2 es1 (SetTable.grown es1.size)
    have hl := relayAll_led t2 es1 (SetTable.grown es1.size)
    generalize relayAll t2 es1 (SetTable.grown es1.size) = R at hp hf hl ⊢
    obtain ⟨es2, t3, gave2⟩ := R
    dsimp only at hp hf hl ⊢
    have hroom2 : es2.size ≤ sizeLine := by rw [← Array.length_toList, hp.length_eq, Array.length_toList]; exact hroom1
    refine wpAny_bind (hgw _ ?_)
    refine wpAny_bind (wpAny_storeSet_of he1 rfl ?_ hroom2)
    refine wpAny_pure (wpAny_pure ⟨rfl, rfl, p _ _ (S.upd U ((Heap.SameBut.update ..).trans (Heap.SameBut.update ..)) ⟨_, Heap.get?_update_self _ he1 rfl, es2, _, t3, rfl, mk es2 t3 hp hf (hl.1.trans hl2) (hl.2 hp2)⟩)⟩)
   ·exact wpAny_pure (wpAny_pure ⟨rfl, rfl, p _ _ (S.upd U (Heap.SameBut.update ..) ⟨_, he1, es1, _, t2, rfl, mk es1 t2 (List.Perm.refl _) hf2 hl2 hp2⟩)⟩)
  split
  ·refine wpAny_bind ?_
   rw [plainKind_str]
   refine wpAny_pure ?_
   simp -iota only [Bool.false_eq_true, if_false]
   exact key _ (SetTable.fits_plain_off hfits) hled rfl
  ·rename_i hpl
   refine wpAny_bind (wpAny_pure ?_)
   simp -iota only [↓reduceIte]
   exact key _ hfits hled (by simpa -iota using hpl)
theorem entry_set_loop : entryFor table "set.update.loop" = some Builtin.«set.update.loop» := entryFor_of_tree (by kernel_rfl)
theorem plain_set_loop : plainId "set.update.loop" = true := by decide +kernel
theorem okC_setLoop {vs : List (List Nat)} {Q : Flow → Heap → Prop} (need : Heap → Prop) (src : SrcA c it (isLI a) (strsOf vs) need) (hn : ∀ h l, St c g h l → need h) (hv : vs.length ≤ 900) (q : ∀ h, St c g h ((s, isSet c vs) :: l) → Q (.ret .none) h) :
  ∀ (m i : Nat) (h : Heap), vs.length - i = m → i ≤ vs.length → St c g h ((it, isLI a i) :: (s, isSet c (vs.take i)) :: l) → OkC c (n + 1) (.builtin "set.update.loop" ⟨[.ref s, .ref it], []⟩) Q h := by
 intro m
 induction m with
 | zero =>
  intro i h hm hi S A d tk r
  obtain rfl : i = vs.length := by lia
  refine codeAny_builtin entry_set_loop ?_
  rw [Around.under_plainId plain_set_loop _]
  show wpAny _ A.in1 (pyNext (.ref it) >>= _) _ _ _
  have key : Ok c n (pyNext (.ref it)) (fun r h => r = none ∧ Q (.ret .none) h) h := by
   have : (strsOf vs).length = vs.length := by simp -iota [strsOf]
   refine src.done (l' := (s, isSet c vs) :: l) S (hn _ _ S) ?_ fun h' S' => ⟨rfl, q _ S'⟩
   rw [this, List.take_of_length_le (Nat.le_refl _)]
   exact .here
  refine wpAny_bind (key.use r.in1 fun x h' d' tk' z => ?_)
  obtain ⟨rfl, z⟩ := z
  exact wpAny_pure ⟨rfl, rfl, z⟩
 | succ m ih =>
  intro i h hm hi S A d tk r
  have hlt : i < vs.length := by lia
  refine codeAny_builtin entry_set_loop ?_
  rw [Around.under_plainId plain_set_loop _]
  show wpAny _ A.in1 (pyNext (.ref it) >>= _) _ _ _
  have key : Ok c n (pyNext (.ref it)) (fun x h => ∃ t, x = some (.str (str vs[i]) t) ∧ St c g h ((it, isLI a (i + 1)) :: (s, isSet c (vs.take i)) :: l)) h :=
   src.next S (hn _ _ S) (av := .str vs[i]) (by simp -iota [strsOf, hlt]) .here fun h' S' v rv => by
    obtain ⟨t, rfl⟩ := rv
    exact ⟨t, rfl, S'⟩
  refine wpAny_bind (key.use r.in1 fun x h' d' tk' z => ?_)
  obtain ⟨t, rfl, S'⟩ := z
  have key2 : Ok c n (setAdd s (.str (str vs[i]) t)) (fun u_ h => St c g h ((it, isLI a (i + 1)) :: (s, isSet c (vs.take (i + 1))) :: l)) h' := by
   rw [List.take_add_one, List.getElem?_eq_getElem hlt]
   exact ok_setAdd S' (.i1) (by simp -iota; lia) fun u_ h S => S
  refine wpAny_bind (wpAny_holding (key2.use r.in1 fun u_ h2 d2 tk2 S2 => ?_))
  refine wpAny_pure ⟨plainId_quiet plain_set_loop _, ?_⟩
  exact ih (i + 1) h2 (by lia) (by lia) S2 A d2 tk2 r
theorem newCall_set_1 (a : Value) : checkBuiltinCall "set.__new__" ⟨[.type "set", a], []⟩ = pure () := by kernel_rfl
theorem typeCall_set_1 (a : Value) : checkTypeCall "set" ⟨[a], []⟩ = pure () := by kernel_rfl
theorem check_set_init1 {A : Around} {E : Value → Shared → Prop} {s : Shared} {M : Model} {self x : Value} {Q : Unit → Shared → Prop} (hT : s.TypeIs self "set") (hQ : Q () s) :
  wpAny M A (checkBuiltinCall "set.__init__" ⟨[self, x], []⟩) Q E s := by
 simp -iota only [checkBuiltinCall, kind_set_init, split_set_init, sig_set_init]
 refine wpAny_bind (wpAny_isInstance hT sub_set_self ?_)
 simp -iota only [Bool.not_true, Bool.false_eq_true, if_false]
 unfold Bind.checkArgs
 dsimp only
 refine wpAny_bind (m := Bind.printed "set" true _ _) (PyProof.Rows.printed_name (by decide) ?_)
 refine wpAny_bind (m := Bind.printed "*" false _ _) (PyProof.Rows.printed_star (self := self) rfl hT fun short => ?_)
 have hn : (if (Manifest.Receiver.self == Manifest.Receiver.none) = true then [self, x].length else [self, x].length - 1) = 1 := by
  rw [if_neg (by decide)]; rfl
 rw [hn]
 simp -iota only [List.map_nil]
 have hc : Bind.check ⟨.positional, "set", "*", .self, [⟨"iterable", .posOnly, false⟩]⟩ "set" short 1 [] = pure () := by kernel_rfl
 rw [hc]
 exact wpAny_pure hQ
theorem code_set_new1 {w : World} {prog : Program} {A : Around} {E : Value → Shared → Prop} {s : Shared} (a : Value) {Q₁ : Value → Shared → Prop}
  (h : Q₁ (.ref s.heap.objs.size) { s with heap := s.heap.push { cls := .type "set", dict := none, data := .set #[] 0 (.fresh 0 0 (!w.params.followText "set-order")) } }) :
  codeAny (model prog w) A (.call (.builtin "set.__new__") ⟨[.type "set", a], []⟩) (wants Q₁ E) s := by
 refine codeAny_of_tree ?_
 show wpAny _ A.in1 (do checkBuiltinCall "set.__new__" ⟨[.type "set", a], []⟩; again (.builtin "set.__new__" ⟨[.type "set", a], []⟩)) _ _ s
 refine wpAny_bind (wpAny_of_eq (newCall_set_1 a) (wpAny_pure ⟨plainId_quiet F.plain_set_new _, codeAny_builtin F.entry_set_new ?_⟩))
 rw [Around.under_plainId F.plain_set_new _]
 unfold Builtin.«set.__new__» Builtin.Frozenset.newClass
 have hsub := sub_set_self
 obtain ⟨hp, g, d, tk, os⟩ := s
 dsimp only
 wp_walk
 refine wpAny_askSetting (wpAny_pure ?_)
 dsimp only
 simp -iota only [newObj]
 refine wpAny_bind (wpAny_alloc (wpAny_pure ?_))
 exact wpAny_pure h
set_option maxHeartbeats 1000000 in
theorem ok_setOf {vs : List (List Nat)} {P : VP} (S : St c g h l) (hl : HO g a (isL (strsOf vs))) (hv : vs.length ≤ 900) (p : ∀ s h', St c g h' ((s, isSet c vs) :: l) → P (.ref s) h') : Ok c (n + 4) (call (.type "set") [.ref a]) P h := by
 intro A d tk r
 have hmade := F.called_set.made
 have hsub := F.called_set.sub
 obtain ⟨cc, tl, hmro⟩ := F.called_set.mro
 refine wpAny_call (codeAny_of_tree ?_)
 show wpAny _ _ (callAny (.type "set") _) _ _ _
 refine wpAny_pure ⟨Code.quiet_builtin _ (by decide +kernel), codeAny_builtin F.entry_type_call ?_⟩
 rw [Around.under_plain (weight_type_call_type "set" [.ref a] []) rfl]
 have h1 := F.called_set.notType
 have h2 := F.called_set.canCreate
 have hct := typeCall_set_1 (.ref a)
 repeat (any_goals (first | assumption | wp_step))
 refine codeAny_mono (code_set_new1 (.ref a) (E := NoE) (Q₁ := fun obj s₁ => obj = .ref h.objs.size ∧ s₁ = c.at (h.push { cls := .type "set", dict := none, data := .set #[] 0 (.fresh 0 0 (!byText c)) }) d tk) ⟨rfl, rfl⟩) fun r₁ s₁ hr => ?_
 cases r₁ with
 | error e => exact hr.elim
 | ok fl =>
  cases fl with
  | ret obj =>
   obtain ⟨rfl, rfl⟩ := hr
   have S1 : St c g (h.push { cls := .type "set", dict := none, data := .set #[] 0 (.fresh 0 0 (!byText c)) }) ((h.objs.size, isSet c []) :: l) := S.push rfl ⟨_, _, _, rfl, setIn_new⟩
   have ho1 : (h.push { cls := .type "set", dict := none, data := .set #[] 0 (.fresh 0 0 (!byText c)) }).get? h.objs.size = some { cls := .type "set", dict := none, data := .set #[] 0 (.fresh 0 0 (!byText c)) } := Heap.get?_push_size _ rfl
   generalize h.push { cls := .type "set", dict := none, data := .set #[] 0 (.fresh 0 0 (!byText c)) } = hp at S1 ho1
   generalize h.objs.size = sa at S1 ho1
   have hT : Shared.TypeIs (c.at hp d tk) (.ref sa) "set" := ⟨_, ho1, rfl⟩
   have hli := F.called_set.init.lookup
   have hbi := F.called_set.init.bind (.ref sa)
   repeat (any_goals (first | assumption | wp_step))
   refine codeAny_mono (codeAny_call_builtin (R := wants (fun r s₂ => r = .none ∧ c.Q P (.ref sa) s₂) NoE) F.called_set.init.plain F.entry_set_init (check_set_init1 hT ?_)) fun r₂ s₂ hr₂ => ?_
   ·unfold Builtin.«set.__init__» noKeywords
    have hL := HO.gr hl S1.keep
    obtain ⟨us, rus, qus⟩ := isL.is hL
    have hTa : Shared.TypeIs (c.at hp d tk) (.ref a) "list" := qus.typeIs
    have key : Ok c n (pyIter (.ref a)) (fun v h' => ∃ it, v = .ref it ∧ OkC c (n + 1) (.builtin "set.update.loop" ⟨[.ref sa, v], []⟩) (fun f h => f = .ret .none ∧ P (.ref sa) h) h') hp := by
     obtain ⟨o, ho, us, r', q⟩ := hL
     refine ok_iter_list S1 ⟨o, ho, q⟩ fun it h' S2 => ⟨it, rfl, ?_⟩
     exact okC_setLoop (vs := vs) (fun h => HO h a (isL (strsOf vs))) srcA_list (fun h l S => HO.gr hl S.keep) hv (fun h S => ⟨rfl, p _ _ S⟩) vs.length 0 h' rfl (Nat.zero_le _) S2
    obtain ⟨oa, hoa, hca, -⟩ := qus
    wp_walk
    refine wpAny_of_eq (a := false) (by rw [isSubtype_type]; kernel_rfl) ?_
    refine wpAny_isInstance hTa (b := false) (by rw [isSubtype_type]; kernel_rfl) ?_
    simp -iota only [Bool.false_eq_true, if_false]
    refine wpAny_bind (wpAny_typeOf hTa ?_)
    rw [if_neg (by decide)]
    refine wpAny_bind (key.use (A := A.in1.in1) (r.in1.in1.mono (by lia)) fun v h' d' tk' z => ?_)
    obtain ⟨it, rfl, z⟩ := z
    refine wpAny_bind (wpAny_runValue (codeAny_mono (z A.in1.in1 d' tk' (r.in1.in1.mono (by lia))) fun rr s' q => ?_))
    cases rr with
    | error e => exact q.elim
    | ok f => obtain ⟨q1, q2, rfl, q3⟩ := q; exact wpAny_pure (wpAny_pure ⟨rfl, q1, q2, q3⟩)
   ·cases r₂ with
    | error e => exact hr₂.elim
    | ok fl₂ =>
     cases fl₂ with
     | ret r =>
      obtain ⟨rfl, hq⟩ := hr₂
      repeat (any_goals (first | assumption | wp_step))
     | _ => exact hr₂.elim
  | _ => exact hr.elim
end
theorem perm_erase {α : Type} (l : List α) : ∀ (i : Nat) (h : i < l.length), (l[i] :: l.eraseIdx i).Perm l := by
 induction l with
 | nil => intro i h; exact (Nat.not_lt_zero i h).elim
 | cons x r ih => intro i h; cases i with
  | zero => exact .refl _
  | succ i => exact (List.Perm.swap ..).trans (.cons _ (ih i (Nat.lt_of_succ_lt_succ h)))
theorem go_eq {α : Type} (next : Nat → Nat) (fuel k : Nat) (left : List α) (out : Array α) : pickOrder.go next (fuel + 1) k left out = match left[next k % left.length]? with | some x => pickOrder.go next fuel (k + 1) (left.eraseIdx (next k % left.length)) (out.push x) | none => out := rfl
theorem pick_go {α : Type} (next : Nat → Nat) (fuel : Nat) : ∀ (k : Nat) (left : List α) (out : Array α), left.length ≤ fuel → (pickOrder.go next fuel k left out).toList.Perm (out.toList ++ left) := by
 induction fuel with
 | zero =>
  intro k left out h
  have : left = [] := List.length_eq_zero_iff.mp (Nat.le_zero.mp h)
  subst this
  show out.toList.Perm (out.toList ++ [])
  rw [List.append_nil]
 | succ fuel ih =>
  intro k left out h
  rw [go_eq]
  cases left with
  | nil => show out.toList.Perm (out.toList ++ []); rw [List.append_nil]
  | cons x r =>
   have hlt : next k % (x :: r).length < (x :: r).length := Nat.mod_lt _ (Nat.succ_pos _)
   rw [List.getElem?_eq_getElem hlt]
   dsimp only
   refine (ih (k + 1) _ _ ?_).trans ?_
   ·rw [List.length_eraseIdx_of_lt hlt]; exact Nat.le_of_succ_le_succ h
   ·rw [Array.toList_push, List.append_assoc]
    refine List.Perm.append_left _ ?_
    show (([(x :: r)[next k % (x :: r).length]] ++ (x :: r).eraseIdx _).Perm _)
    exact perm_erase _ _ hlt
theorem pick_perm {α : Type} (next : Nat → Nat) (xs : Array α) : (pickOrder next xs).toList.Perm xs.toList := by
 have := pick_go next xs.size 0 xs.toList #[] (by simp -iota)
 rw [List.nil_append] at this
 exact this
section
variable {prog : Program} {w : World} {A : Around} {E : Value → Shared → Prop} {s : Shared}
theorem wpAny_choose {src : Source} {n : Nat} {Q : Nat → Shared → Prop} (hn : n ≠ 0) (h : ∀ i d, i < n → Q i { s with drawn := d }) : wpAny (model prog w) A (choose src n) Q E s := fun Γ p hΓ => by
 show Sem.wp _ _ (Sem.choose src n .pure) _ _ _ _
 rw [Sem.wp_choose]
 exact ⟨hn, by rw [Sem.wp]; exact h _ _ (Nat.mod_lt _ (Nat.pos_of_ne_zero hn))⟩
theorem draw_eq {α : Type} (n : Nat) (x : α) (r : List α) : drawOrder (n + 1) (x :: r) = (do
  let i ← choose .order (x :: r).length
  match (x :: r)[i]? with
  | some y => return y :: (← drawOrder n ((x :: r).eraseIdx i))
  | none => unsupported "internal:drawOrder") := rfl
theorem wpAny_drawOrder {α : Type} (n : Nat) : ∀ (xs : List α) (s : Shared) (Q : List α → Shared → Prop), xs.length = n → (∀ ys d, ys.Perm xs → Q ys { s with drawn := d }) → wpAny (model prog w) A (drawOrder n xs) Q E s := by
 induction n with
 | zero =>
  intro xs s Q h q
  have : xs = [] := List.length_eq_zero_iff.mp h
  subst this
  exact wpAny_pure (q [] s.drawn (.refl _))
 | succ n ih => intro xs s Q h q; cases xs with
  | nil => cases h
  | cons x r =>
   rw [draw_eq]
   refine wpAny_bind (wpAny_choose (Nat.succ_ne_zero _) fun i d hi => ?_)
   rw [List.getElem?_eq_getElem hi]
   dsimp only
   refine wpAny_bind (ih _ _ _ ?_ fun ys d' hp => ?_)
   ·rw [List.length_eraseIdx_of_lt hi]; exact Nat.succ.inj h
   ·refine wpAny_pure (q _ d' ?_)
    exact (List.Perm.cons _ hp).trans (perm_erase _ _ hi)
end
theorem slot_si_next : Slot "set_iterator" "__next__" "set_iterator.__next__" :=
 .of (owner := "set_iterator") (n := "__next__") (by rw [typeLookup_type, builtinLookup_eq_fast]; kernel_rfl) (by decide +kernel) (by decide +kernel) (by decide +kernel)
  (by first | exact .inl (by decide +kernel) | exact .inr (by decide +kernel)) (by rw [isSubtype_type]; kernel_rfl)
theorem entry_si_next : entryFor table "set_iterator.__next__" = some Builtin.«set_iterator.__next__» := entryFor_of_tree (by kernel_rfl)
theorem args_si_next (a : Value) : argsOk "set_iterator.__next__" ⟨[a], []⟩ := by unfold argsOk; kernel_rfl
theorem slot_si_iter : Slot "set_iterator" "__iter__" "set_iterator.__iter__" :=
 .of (owner := "set_iterator") (n := "__iter__") (by rw [typeLookup_type, builtinLookup_eq_fast]; kernel_rfl) (by decide +kernel) (by decide +kernel) (by decide +kernel)
  (by first | exact .inl (by decide +kernel) | exact .inr (by decide +kernel)) (by rw [isSubtype_type]; kernel_rfl)
theorem entry_si_iter : entryFor table "set_iterator.__iter__" = some Builtin.«dict_keyiterator.__iter__» := entryFor_alias (id' := "dict_keyiterator.__iter__") (by kernel_rfl) rfl (by decide +kernel) (by kernel_rfl)
theorem args_si_iter (a : Value) : argsOk "set_iterator.__iter__" ⟨[a], []⟩ := by unfold argsOk; kernel_rfl
theorem entry_set_iter : entryFor table "set.__iter__" = some Builtin.«frozenset.__iter__» := entryFor_alias (id' := "frozenset.__iter__") (by kernel_rfl) rfl (by decide +kernel) (by kernel_rfl)
noncomputable def isSetIt (f : Value) (i : Int) (s : Addr) (n ep : Nat) : Obj → Prop := fun o => o = { cls := .type "set_iterator", dict := none, data := .fields #[f, rawInt i, .ref s, rawInt n, rawInt ep], slots := #[] }
noncomputable abbrev setObj (es : Array (Int × Value)) (ep : Nat) (t : SetTable) : Obj := { cls := .type "set", dict := none, data := .set es ep t, slots := #[] }
section
variable {c : Cx} {n : Nat} {g h : Heap} {l l' : Led} {env : Env} {s it a : Addr} {v f : Value} {i : Int} {t : SetTable} {es : Array (Int × Value)} {ep : Nat} {W : Obj → Prop}
theorem ok_iter_seti {m : Nat} {P : VP} (S : St c g h l) (A : At l it W) (hw : ∀ o, W o → ∃ f i, isSetIt f i s m ep o) (p : P (.ref it) h) : Ok c n (pyIter (.ref it)) P h := by
 obtain ⟨o, ho, w⟩ := S.get A
 obtain ⟨f, i, rfl⟩ := hw o w
 intro A' dr tk r
 have hT : (c.at h dr tk).TypeIs (.ref it) "set_iterator" := ⟨_, ho, rfl⟩
 refine wpAny_pyIter_slot hT slot_si_iter (wpAny_call_entry slot_si_iter hT entry_si_iter ?_ (args_si_iter _))
 show wpAny _ _ (ret (.ref it)) _ _ _
 exact wpAny_pure ⟨_, rfl, "set_iterator", _, hT, slot_si_next.lookup, rfl, rfl, p⟩
theorem ok_next_seti {P : Option Value → Heap → Prop} (S : St c g h l) (A : At l it (isSetIt f i s es.size ep)) (hs : h.get? s = some (setObj es ep t)) (hf : t.fits es.size = true)
  (y : ∀ A d tk, Room A n → wpAny c.M A.in1 (if let .int slot _ := f then (do
    match ← setNext s slot.toNat i.toNat ep with
    | some (x, next) =>
     setField (.ref it) 0 (rawInt next)
     setField (.ref it) 1 (rawInt (i + 1))
     ret x
    | none => setField (.ref it) 2 .none; raiseNew (← newExc (.type "StopIteration") []))
   else do
    let some places ← seqItems? f | unsupported "internal:set_iterator"
    match places[i.toNat]? with
    | some (.int place _) =>
     let x ← setNextDrawn s place.toNat ep
     setField (.ref it) 1 (rawInt (i + 1))
     ret x
    | some _ => unsupported "internal:set_iterator"
    | none => setField (.ref it) 0 (rawInt 0); setField (.ref it) 2 .none; raiseNew (← newExc (.type "StopIteration") [])) (fun fin s' => ∃ v, fin = .done (.ret v) ∧ c.Q (fun v h => P (some v) h) v s') (fun e s' => ∃ a o, e = .ref a ∧ s'.heap.get? a = some o ∧ o.cls = .type "StopIteration" ∧ c.Q (fun u_ h => P none h) () s') (c.at h d tk)) : Ok c n (pyNext (.ref it)) P h := by
 obtain ⟨o, ho, rfl⟩ := S.get A
 intro A d tk r
 have hT : (c.at h d tk).TypeIs (.ref it) "set_iterator" := ⟨_, ho, rfl⟩
 have y := y A d tk r
 unfold pyNext
 refine wpAny_bind (wpAny_attempt (wpAny_callSpecial?_slot (name := Str.ofString "__next__") hT slot_si_next (wpAny_call_entry slot_si_next hT entry_si_next ?_ (args_si_next _))))
 unfold Builtin.«set_iterator.__next__»
 refine wpAny_bind (wpAny_pure ?_)
 refine wpAny_bind (wpAny_fieldsOf ho rfl ?_)
 dsimp only
 refine wpAny_bind ?_
 unfold setEntries
 refine wpAny_bind (wpAny_setState_of hs rfl hf (wpAny_pure ?_))
 dsimp only [rawInt]
 rw [if_neg (by simp -iota)]
 refine wpAny_mono y (fun fin s' z => ?_) fun e s' z => ?_
 ·obtain ⟨v, rfl, z⟩ := z
  exact ⟨v, rfl, wpAny_pure z⟩
 ·obtain ⟨a, o, rfl, ho, hc, z⟩ := z
  refine wpAny_bind (wpAny_isInstance (T := "StopIteration") (b := true) ⟨o, ho, hc⟩ isSubtype_stop ?_)
  exact wpAny_pure z
theorem below_go (xs : Array Nat) (j fuel lo hi : Nat) : SetTable.below.go xs j (fuel + 1) lo hi = if lo < hi then (if xs.getD ((lo + hi) / 2) j < j then SetTable.below.go xs j fuel ((lo + hi) / 2 + 1) hi else SetTable.below.go xs j fuel lo ((lo + hi) / 2)) else lo := rfl
theorem below_one (j : Nat) : SetTable.below #[j] 0 = 0 := rfl
theorem below_two (j : Nat) : SetTable.below #[j] (j + 1) = 1 := (below_go #[j] (j + 1) 0 0 1).trans ((if_pos Nat.zero_lt_one).trans ((if_pos (Nat.lt_succ_self j)).trans rfl))
noncomputable def textOf (v : Value) : List Nat := if h : v.ctorIdx = 6 then Value.str.elim (motive := fun u_ => List Nat) v h fun x u_ => x.cps.toList else []
theorem SetIn.text {ks : List (List Nat)} (q : SetIn c ks es t) {e : Int × Value} (he : e ∈ es.toList) : (AV.str (textOf e.2)).rep e.2 ∧ textOf e.2 ∈ ks := by
 obtain ⟨⟨x, hx, _⟩, _⟩ := q.el e he
 obtain ⟨u, hu⟩ := Value.isStrOf_shape hx
 obtain ⟨k, hk, rfl⟩ := (q.mem x).mpr ⟨e, he, hx⟩
 rw [hu]
 have : textOf (.str (str k) u) = k := by show (str k).cps.toList = k; simp [str]
 rw [this]
 exact ⟨⟨u, rfl⟩, hk⟩
theorem SetIn.back {ks : List (List Nat)} (q : SetIn c ks es t) {k : List Nat} (hk : k ∈ ks) : ∃ e ∈ es.toList, textOf e.2 = k := by
 obtain ⟨e, he, hx⟩ := (q.mem (str k)).mp ⟨k, hk, rfl⟩
 obtain ⟨u, hu⟩ := Value.isStrOf_shape hx
 exact ⟨e, he, by rw [hu]; show (str k).cps.toList = k; simp [str]⟩
noncomputable def textsOf (xs : List (Int × Value)) : List (List Nat) := xs.map fun e => textOf e.2
theorem setNext_T {A : Around} {d : Drawn} {tk : Tok} {Q : Option (Value × Nat) → Shared → Prop} {E : Value → Shared → Prop} {slot k : Nat} (hl : h.get? s = some (setObj es ep t)) (hf : t.fits es.size = true) (hb : byText c = true)
  (z : Q ((pickOrder (c.w.params.setOrder s ep) es)[k]?.map fun e => (e.2, slot)) (c.at h d tk)) : wpAny c.M A (setNext s slot k ep) Q E (c.at h d tk) := by
 unfold setNext setsByText
 refine wpAny_bind (wpAny_setState_of (s := c.at h d tk) hl rfl hf ?_)
 dsimp only
 refine wpAny_bind (wpAny_bind (wpAny_askSetting (wpAny_pure ?_)))
 dsimp only
 rw [show c.M.w.params.followText "set-order" = true from hb]
 simp -iota only [if_true, bne_self_eq_false, Bool.false_eq_true, if_false]
 unfold setWalk setsByText
 refine wpAny_bind (wpAny_bind (wpAny_setState_of (s := c.at h d tk) hl rfl hf ?_))
 dsimp only
 refine wpAny_bind (wpAny_bind (wpAny_askSetting (wpAny_pure ?_)))
 dsimp only
 rw [show c.M.w.params.followText "set-order" = true from hb]
 simp -iota only [if_true]
 exact wpAny_bind (wpAny_askSetting (wpAny_pure (wpAny_pure z)))
noncomputable def slotAt (es : Array (Int × Value)) (t : SetTable) (slot : Nat) : Option (Value × Nat) := match es[SetTable.below t.place slot]?, t.place[SetTable.below t.place slot]? with
 | some (_, x), some j => some (x, j + 1)
 | _, _ => none
theorem setNext_F {ks : List (List Nat)} {A : Around} {d : Drawn} {tk : Tok} {Q : Option (Value × Nat) → Shared → Prop} {E : Value → Shared → Prop} {slot k : Nat} (hl : h.get? s = some (setObj es ep t)) (q : SetIn c ks es t) (hb : byText c = false) (h1 : es.size ≤ 1)
  (z : Q (slotAt es t slot) (c.at h d tk)) : wpAny c.M A (setNext s slot k ep) Q E (c.at h d tk) := by
 unfold setNext setsByText
 refine wpAny_bind (wpAny_setState_of (s := c.at h d tk) hl rfl q.fits ?_)
 dsimp only
 refine wpAny_bind (wpAny_bind (wpAny_askSetting (wpAny_pure ?_)))
 dsimp only
 rw [show c.M.w.params.followText "set-order" = false from hb]
 simp -iota only [Bool.false_eq_true, if_false]
 show wpAny _ _ (if (!t.plain && decide (es.size > 1)) = true then _ else _) _ _ _
 rw [if_neg (show ¬ (!t.plain && decide (es.size > 1)) = true from by simp -iota; lia)]
 refine wpAny_bind ?_
 show wpAny _ _ (if (!t.led && !es.isEmpty) = true then _ else pure ()) _ _ _
 rw [if_neg (by rw [q.led, hb]; simp -iota)]
 exact wpAny_pure (wpAny_pure z)
theorem srcA_seT {ks : List (List Nat)} (q : SetIn c ks es t) (hb : byText c = true) : SrcA c it (fun i => isSetIt (rawInt 0) i s es.size ep) (strsOf (textsOf (pickOrder (c.w.params.setOrder s ep) es).toList)) (fun h => h.get? s = some (setObj es ep t)) where
 next := fun {n g h l l' i av P} S hl hx U p => by
  simp -iota only [strsOf, textsOf, List.map_map, List.getElem?_map, Option.map_eq_some_iff, Function.comp] at hx
  obtain ⟨e, he, rfl⟩ := hx
  have hm : e ∈ es.toList := (pick_perm _ es).mem_iff.mp (List.mem_of_getElem? he)
  obtain ⟨o, ho, rfl⟩ := S.get U.at_
  refine ok_next_seti S U.at_ hl q.fits fun A d tk r => ?_
  refine wpAny_bind (m := setNext s 0 (i : Int).toNat ep) (setNext_T hl q.fits hb ?_)
  rw [Int.toNat_natCast, ← Array.getElem?_toList, show (pickOrder (c.w.params.setOrder s ep) es).toList[i]? = some e from he]
  dsimp only [Option.map]
  refine wpAny_bind (wpAny_setField_rec ho (by simp -iota) fun h2 e2 s2 => ?_)
  refine wpAny_bind (wpAny_setField_rec e2 (by simp -iota) fun h3 e3 s3 => ?_)
  refine wpAny_pure ⟨_, rfl, rfl, rfl, p _ (S.upd U (s2.trans s3) ⟨_, e3, ?_⟩) _ (q.text hm).1⟩
  simp -iota [isSetIt, rawInt]
 done := fun {n g h l l' P} S hl D p => by
  have S0 := S.perm D.perm
  obtain ⟨o, ho, rfl⟩ := S0.get .here
  have e0 : (strsOf (textsOf (pickOrder (c.w.params.setOrder s ep) es).toList)).length = (pickOrder (c.w.params.setOrder s ep) es).size := by simp -iota [strsOf, textsOf]
  refine ok_next_seti S0 .here hl q.fits fun A d tk r => ?_
  refine wpAny_bind (m := setNext s 0 ((strsOf (textsOf (pickOrder (c.w.params.setOrder s ep) es).toList)).length : Int).toNat ep) (setNext_T hl q.fits hb ?_)
  rw [Int.toNat_natCast, e0, show (pickOrder (c.w.params.setOrder s ep) es)[(pickOrder (c.w.params.setOrder s ep) es).size]? = none from Array.getElem?_eq_none (Nat.le_refl _)]
  dsimp only [Option.map]
  refine wpAny_bind (wpAny_setField_rec ho (by simp -iota) fun h2 e2 s2 => ?_)
  refine wp_stop r.hand fun h3 e k3 q1_ => (by obtain ⟨oe, he, hc⟩ := q1_; exact ⟨e, oe, rfl, he, hc, rfl, rfl, p _ (S.del D fun b o nb eb => k3 _ _ (s2.extBut b o (fun q => nb (List.mem_singleton.mpr q)) eb))⟩)
 self := fun {n g h l i P} S hl A p => ok_iter_seti S A (fun o w => ⟨_, _, w⟩) p
 owned := fun {n g h l i t v P} S A p => by obtain ⟨o, ho, rfl⟩ := S.get A; exact ok_owned_none ho rfl rfl (by decide) p
theorem srcA_seD {ks : List (List Nat)} {ys : List Nat} {tp : Addr} {k0 : Nat} (q : SetIn c ks es t) (hy : ∀ y ∈ ys, y < es.size) : SrcA c it (fun i => isSetIt (.ref tp) i s es.size ep) (strsOf (textsOf (ys.filterMap fun y => es.toList[y]?)))
  (fun h => h.get? s = some (setObj es ep t) ∧ h.get? tp = some { cls := .type "tuple", data := .seq (ys.map fun (i : Nat) => rawInt i).toArray k0 }) where
 next := fun {n g h l l' i av P} S hl hx U p => by
  obtain ⟨hl, htp⟩ := hl
  have hlen : (ys.filterMap fun y => es.toList[y]?) = ys.attach.map fun y => es.toList[y.1]'(by simpa -iota using hy y.1 y.2) := by
   clear hx p U
   have : ∀ (zs : List Nat) (hz : ∀ y ∈ zs, y < es.toList.length), (zs.filterMap fun y => es.toList[y]?) = zs.attach.map fun y => es.toList[y.1]'(hz y.1 y.2) := by
    intro zs
    induction zs with
    | nil => intro _; rfl
    | cons z zs ih =>
     intro hz
     rw [List.filterMap_cons, List.getElem?_eq_getElem (hz z List.mem_cons_self)]
     simp -iota only [List.attach_cons, List.map_cons, List.map_map]
     rw [ih fun y hy => hz y (List.mem_cons_of_mem _ hy)]
     rfl
   exact this ys _
  rw [hlen] at hx
  simp -iota only [strsOf, textsOf, List.map_map, List.getElem?_map, Option.map_eq_some_iff, Function.comp] at hx
  obtain ⟨⟨y, hym⟩, he, rfl⟩ := hx
  have hy' : ys[i]? = some y := by
   have := congrArg (Option.map Subtype.val) he
   rw [← List.getElem?_map, List.attach_map_subtype_val] at this
   simpa -iota using this
  have hlt : y < es.toList.length := by simpa -iota using hy y hym
  obtain ⟨o, ho, rfl⟩ := S.get U.at_
  refine ok_next_seti S U.at_ hl q.fits fun A d tk r => ?_
  refine wpAny_bind (wpAny_seqItems (s := c.at h d tk) htp rfl ?_)
  dsimp only
  rw [Int.toNat_natCast, show (ys.map fun (i : Nat) => rawInt i).toArray[i]? = some (rawInt y) from by simp -iota [hy']]
  dsimp only [rawInt]
  refine wpAny_bind ?_
  unfold setNextDrawn
  refine wpAny_bind (wpAny_setState_of (s := c.at h d tk) hl rfl q.fits ?_)
  dsimp only
  simp -iota only [bne_self_eq_false, Bool.false_eq_true, if_false]
  rw [Int.toNat_natCast, ← Array.getElem?_toList, List.getElem?_eq_getElem hlt]
  refine wpAny_pure ?_
  refine wpAny_bind (wpAny_setField_rec ho (by simp -iota) fun h2 e2 s2 => ?_)
  refine wpAny_pure ⟨_, rfl, rfl, rfl, p _ (S.upd U s2 ⟨_, e2, ?_⟩) _ (q.text (List.getElem_mem hlt)).1⟩
  simp -iota [isSetIt, rawInt]
 done := fun {n g h l l' P} S hl D p => by
  obtain ⟨hl, htp⟩ := hl
  have S0 := S.perm D.perm
  obtain ⟨o, ho, rfl⟩ := S0.get .here
  have hall : ∀ (zs : List Nat), (∀ y ∈ zs, y < es.toList.length) → (zs.filterMap fun y => es.toList[y]?).length = zs.length := by
   intro zs
   induction zs with
   | nil => intro _; rfl
   | cons z zs ih =>
    intro hz
    rw [List.filterMap_cons, List.getElem?_eq_getElem (hz z List.mem_cons_self)]
    exact congrArg (· + 1) (ih fun y hy => hz y (List.mem_cons_of_mem _ hy))
  have e0 : (strsOf (textsOf (ys.filterMap fun y => es.toList[y]?))).length = ys.length := by simp -iota only [strsOf, textsOf, List.length_map]; exact hall ys (by simpa -iota using hy)
  refine ok_next_seti S0 .here hl q.fits fun A d tk r => ?_
  refine wpAny_bind (wpAny_seqItems (s := c.at h d tk) htp rfl ?_)
  dsimp only
  rw [Int.toNat_natCast, e0, show (ys.map fun (i : Nat) => rawInt i).toArray[ys.length]? = none from by simp]
  refine wpAny_bind (wpAny_setField_rec ho (by simp -iota) fun h1 e1 s1 => ?_)
  refine wpAny_bind (wpAny_setField_rec e1 (by simp -iota) fun h2 e2 s2 => ?_)
  refine wp_stop r.hand fun h3 e k3 q1_ => (by obtain ⟨oe, he, hc⟩ := q1_; exact ⟨e, oe, rfl, he, hc, rfl, rfl, p _ (S.del D fun b o nb eb => k3 _ _ (s2.extBut b o (fun q => nb (List.mem_singleton.mpr q)) (s1.extBut b o (fun q => nb (List.mem_singleton.mpr q)) eb)))⟩)
 self := fun {n g h l i P} S hl A p => ok_iter_seti S A (fun o w => ⟨_, _, w⟩) p
 owned := fun {n g h l i t v P} S A p => by obtain ⟨o, ho, rfl⟩ := S.get A; exact ok_owned_none ho rfl rfl (by decide) p
noncomputable def isSetI1 (t : SetTable) (s : Addr) (n ep : Nat) (i : Nat) : Obj → Prop := fun o => isSetIt (rawInt (if i = 0 then 0 else (t.place.getD 0 0 + 1 : Nat))) i s n ep o
theorem srcA_se1 {ks : List (List Nat)} (q : SetIn c ks es t) (hb : byText c = false) (h1 : es.size ≤ 1) : SrcA c it (isSetI1 t s es.size ep) (strsOf (textsOf es.toList)) (fun h => h.get? s = some (setObj es ep t)) where
 next := fun {n g h l l' i av P} S hl hx U p => by
  simp -iota only [strsOf, textsOf, List.map_map, List.getElem?_map, Option.map_eq_some_iff, Function.comp] at hx
  obtain ⟨e, he, rfl⟩ := hx
  have hlt : i < es.toList.length := (List.getElem?_eq_some_iff.mp he).1
  have hi0 : i = 0 := by simp -iota at hlt; lia
  subst hi0
  have hs1 : es.size = 1 := by simp -iota at hlt; lia
  have hps : t.place.size = 1 := by have := q.fits; simp -iota only [SetTable.fits, Bool.and_eq_true, beq_iff_eq] at this; rw [this.1, hs1]
  obtain ⟨j, hj⟩ : ∃ j, t.place = #[j] := by
   obtain ⟨pl⟩ : ∃ pl, pl = t.place := ⟨_, rfl⟩
   match h : t.place.toList, hps with
   | [j], _ => exact ⟨j, by rw [← Array.toList_inj, h]⟩
   | [], hp => rw [← Array.length_toList, h] at hp; cases hp
   | _ :: _ :: _, hp => rw [← Array.length_toList, h] at hp; simp -iota at hp
  have hm : e ∈ es.toList := List.mem_of_getElem? he
  obtain ⟨o, ho, rfl⟩ := S.get U.at_
  refine ok_next_seti S (f := rawInt 0) (i := 0) U.at_ hl q.fits fun A d tk r => ?_
  refine wpAny_bind (m := setNext s 0 0 ep) (setNext_F hl q hb h1 ?_)
  rw [show slotAt es t 0 = some (e.2, j + 1) from by unfold slotAt; rw [hj, below_one, ← Array.getElem?_toList, he]; rfl]
  refine wpAny_bind (wpAny_setField_rec ho (by simp -iota) fun h2 e2 s2 => ?_)
  refine wpAny_bind (wpAny_setField_rec e2 (by simp -iota) fun h3 e3 s3 => ?_)
  refine wpAny_pure ⟨_, rfl, rfl, rfl, p _ (S.upd U (s2.trans s3) ⟨_, e3, ?_⟩) _ (q.text hm).1⟩
  simp -iota [isSetI1, isSetIt, rawInt, hj]
 done := fun {n g h l l' P} S hl D p => by
  have S0 := S.perm D.perm
  obtain ⟨o, ho, hw⟩ := S0.get .here
  have e0 : (strsOf (textsOf es.toList)).length = es.size := by simp -iota [strsOf, textsOf]
  rw [e0] at hw
  refine ok_next_seti S0 (f := rawInt (if es.size = 0 then 0 else (t.place.getD 0 0 + 1 : Nat))) (i := es.size) (by rw [e0]; exact .here) hl q.fits fun A d tk r => ?_
  cases hw
  refine wpAny_bind (m := setNext s (Int.toNat (if es.size = 0 then 0 else (t.place.getD 0 0 + 1 : Nat))) (es.size : Int).toNat ep) (setNext_F hl q hb h1 ?_)
  have hps : t.place.size = es.size := by have := q.fits; simp -iota only [SetTable.fits, Bool.and_eq_true, beq_iff_eq] at this; exact this.1
  have hbl : SetTable.below t.place (Int.toNat (if es.size = 0 then 0 else (t.place.getD 0 0 + 1 : Nat))) = es.size := by
   match h : t.place.toList, h1 with
   | [], _ =>
    have hp : t.place = #[] := by rw [← Array.toList_inj, h]
    have : es.size = 0 := by rw [← hps, hp]; rfl
    rw [this, hp]; rfl
   | [j], _ =>
    have hp : t.place = #[j] := by rw [← Array.toList_inj, h]
    have : es.size = 1 := by rw [← hps, hp]; rfl
    rw [this, hp]
    exact below_two j
   | _ :: _ :: _, hh => rw [← hps, ← Array.length_toList, h] at hh; simp -iota at hh
  rw [show slotAt es t _ = none from by unfold slotAt; rw [hbl, Array.getElem?_eq_none (Nat.le_refl _)]]
  refine wpAny_bind (wpAny_setField_rec ho (by simp -iota) fun h2 e2 s2 => ?_)
  refine wp_stop r.hand fun h3 e k3 q1_ => (by obtain ⟨oe, he, hc⟩ := q1_; exact ⟨e, oe, rfl, he, hc, rfl, rfl, p _ (S.del D fun b o nb eb => k3 _ _ (s2.extBut b o (fun q => nb (List.mem_singleton.mpr q)) eb))⟩)
 self := fun {n g h l i P} S hl A p => ok_iter_seti S A (fun o w => ⟨_, _, w⟩) p
 owned := fun {n g h l i t v P} S A p => by obtain ⟨o, ho, rfl⟩ := S.get A; exact ok_owned_none ho rfl rfl (by decide) p
theorem SrcA.need_of {W : Nat → Obj → Prop} {items : List AV} {need need' : Heap → Prop} (x : SrcA c it W items need) (k : ∀ h, need' h → need h) : SrcA c it W items need' where
 next S hl hx U p := x.next S (k _ hl) hx U p
 done S hl D p := x.done S (k _ hl) D p
 self S hl A p := x.self S (k _ hl) A p
 owned S A p := x.owned S A p
set_option tactic.hygienic true in
theorem ok_iterSet {ks : List (List Nat)} {P : VP} (S : St c g h l) (X : HO g s (isSet c ks))
  (p : ∀ g' it h' W xs, Gr g g' → (∀ x, x ∈ xs ↔ x ∈ ks) → xs.length ≤ ks.length → SrcA c it W (strsOf xs) (Gr g') → St c g' h' ((it, W 0) :: l) → P (.ref it) h') : Ok c n (pyIter (.ref s)) P h := by
 obtain ⟨o, hg, es, ep, t, rfl, q⟩ := X
 have hs := S.keep _ _ hg
 have hmem : ∀ zs : List (Int × Value), zs.Perm es.toList → (∀ x, x ∈ textsOf zs ↔ x ∈ ks) ∧ (textsOf zs).length ≤ ks.length := by
  intro zs hp
  refine ⟨fun x => ?_, ?_⟩
  ·unfold textsOf
   rw [List.mem_map]
   constructor
   ·rintro ⟨e, he, rfl⟩
    exact (q.text (hp.mem_iff.mp he)).2
   ·intro hx
    obtain ⟨e, he, rfl⟩ := q.back hx
    exact ⟨e, hp.mem_iff.mpr he, rfl⟩
  ·unfold textsOf
   rw [List.length_map, hp.length_eq, Array.length_toList]; exact q.le
 intro A d tk r
 have hT : (c.at h d tk).TypeIs (.ref s) "set" := ⟨_, hs, rfl⟩
 refine wpAny_pyIter_slot hT F.slot_set_iter (wpAny_call_entry F.slot_set_iter hT entry_set_iter ?_ (F.args_set_iter_1 _))
 unfold Builtin.«frozenset.__iter__»
 refine wpAny_bind ?_
 unfold Builtin.Frozenset.slot0
 refine wpAny_bind (wpAny_pure ?_)
 refine wpAny_pure ?_
 refine wpAny_bind ?_
 unfold Builtin.Frozenset.sizeOf setEntries
 refine wpAny_bind (wpAny_bind (wpAny_setState_of hs rfl q.fits (wpAny_pure ?_)))
 refine wpAny_pure ?_
 dsimp only
 refine wpAny_bind ?_
 unfold setDrawn setsByText
 refine wpAny_bind (wpAny_setState_of (s := c.at h d tk) hs rfl q.fits ?_)
 dsimp only
 refine wpAny_bind (wpAny_bind (wpAny_askSetting (wpAny_pure ?_)))
 refine wpAny_pure ?_
 dsimp only
 show wpAny _ _ (if (!c.M.w.params.followText "set-order" && (!t.plain && decide (es.size > 1))) = true then _ else _) _ _ _
 have fin : ∀ (f : Value) (h : Heap) (d : Drawn), h.get? s = some (setObj es ep t) → (∀ it h', h' = h.push { cls := .type "set_iterator", data := .fields #[f, rawInt 0, .ref s, rawInt es.size, rawInt ep] } → it = h.objs.size → P (.ref it) h') →
   wpAny c.M A.in1 (setEpoch s >>= fun e => newFields "set_iterator" [f, rawInt 0, .ref s, rawInt es.size, rawInt e] >>= fun v => ret v)
    (fun fin s' => ∃ v, fin = .done (.ret v) ∧ ∃ T nx, s'.TypeIs v T ∧ typeLookup (.type T) "__next__" = pure (some nx) ∧ c.Q P v s') NoE (c.at h d tk) := by
  intro f h d hs k
  refine wpAny_bind (wpAny_setEpoch_of hs rfl q.fits ?_)
  refine wpAny_bind (wpAny_newObj_type ?_ (by size_fits))
  exact wpAny_pure ⟨_, rfl, "set_iterator", _, ⟨_, Heap.get?_push_size _ rfl, rfl⟩, slot_si_next.lookup, rfl, rfl, k _ _ rfl rfl⟩
 split
 ·rename_i hc
  have hsz : (h.push { cls := .type "tuple", data := .seq ((List.range 0).map fun (i : Nat) => rawInt i).toArray }).objs.size = h.objs.size + 1 := Heap.size_push ..
  refine wpAny_bind (wpAny_drawOrder _ _ _ _ (by simp -iota) fun ys d' hp => ?_)
  refine wpAny_bind (wpAny_newTuple ?_ (by rw [List.length_map, hp.length_eq, List.length_range, sizeLine_eq]; have : es.size < 4096 := q.room; lia))
  have S1 := S.push (o := { cls := .type "tuple", data := .seq (ys.map fun (i : Nat) => rawInt i).toArray }) (P := fun o => o = { cls := .type "tuple", data := .seq (ys.map fun (i : Nat) => rawInt i).toArray }) rfl rfl
  obtain ⟨g', k', ⟨ot, hot, rfl⟩, S2⟩ := S1.freeze1
  have hs2 := S2.keep _ _ (k' _ _ hg)
  have hall : ∀ y ∈ ys, y < es.size := fun y hy => by have := hp.mem_iff.mp hy; simpa -iota using this
  have hpp : (ys.filterMap fun y => es.toList[y]?).Perm es.toList := by
   have := hp.filterMap (fun y => es.toList[y]?)
   refine this.trans ?_
   have e := filterMap_getElem?_range es
   simp -iota only [← Array.getElem?_toList] at e
   rw [e]
  refine fin _ _ _ hs2 fun it h' e1 e2 => ?_
  subst e1 e2
  refine p g' _ _ (fun i => isSetIt (.ref h.objs.size) i s es.size ep) (textsOf (ys.filterMap fun y => es.toList[y]?)) k' (hmem _ hpp).1 (hmem _ hpp).2 ((srcA_seD q hall).need_of fun h hk => ⟨hk _ _ (k' _ _ hg), hk _ _ hot⟩) ?_
  exact S2.push rfl rfl
 ·rename_i hc
  refine wpAny_bind (wpAny_pure ?_)
  refine fin _ _ _ hs fun it h' e1 e2 => ?_
  subst e1 e2
  cases hb : byText c with
  | true =>
   refine p g _ _ (fun i => isSetIt (rawInt 0) i s es.size ep) (textsOf (pickOrder (c.w.params.setOrder s ep) es).toList) (Gr.refl _) (hmem _ (pick_perm _ _)).1 (hmem _ (pick_perm _ _)).2 ((srcA_seT q hb).need_of fun h hk => hk _ _ hg) ?_
   exact S.push rfl rfl
  | false =>
   have h1 : es.size ≤ 1 := by
    rcases q.drawn with h | h
    ·exact h
    ·have hb' : c.M.w.params.followText "set-order" = false := hb
     rw [hb', h] at hc
     simp -iota at hc
     exact hc
   refine p g _ _ (isSetI1 t s es.size ep) (textsOf es.toList) (Gr.refl _) (hmem _ (.refl _)).1 (hmem _ (.refl _)).2 ((srcA_se1 q hb h1).need_of fun h hk => hk _ _ hg) ?_
   exact S.push rfl rfl
end
noncomputable def cutAt (k : Nat) : List Nat → List (List Nat)
 | [] => [[]]
 | x :: r => if x = k then [] :: cutAt k r else match cutAt k r with
  | [] => [[x]]
  | p :: q => (x :: p) :: q
theorem cutAt_cons (k x : Nat) (r : List Nat) : cutAt k (x :: r) = if x = k then [] :: cutAt k r else match cutAt k r with | [] => [[x]] | p :: q => (x :: p) :: q := rfl
theorem cutAt_ne (k : Nat) (ks : List Nat) : ∃ p q, cutAt k ks = p :: q := by
 induction ks with
 | nil => exact ⟨_, _, rfl⟩
 | cons x r ih =>
  obtain ⟨p, q, e⟩ := ih
  rw [cutAt_cons, e]
  by_cases h : x = k
  ·rw [if_pos h]; exact ⟨_, _, rfl⟩
  ·rw [if_neg h]; exact ⟨_, _, rfl⟩
theorem cutAt_free {k : Nat} : ∀ {x : List Nat}, k ∉ x → cutAt k x = [x]
 | [], _ => rfl
 | y :: x, h => by
  simp -iota only [List.mem_cons, not_or] at h
  unfold cutAt
  rw [if_neg (fun e => h.1 e.symm), cutAt_free h.2]
theorem cutAt_app {k : Nat} (r : List Nat) : ∀ {x : List Nat}, k ∉ x → cutAt k (x ++ k :: r) = x :: cutAt k r
 | [], _ => by simp -iota [cutAt]
 | y :: x, h => by
  simp -iota only [List.mem_cons, not_or] at h
  have ih := cutAt_app r h.2
  rw [List.cons_append]
  conv => lhs; unfold cutAt
  rw [if_neg (fun e => h.1 e.symm), ih]
theorem cutAt_glue {k : Nat} {xs : List (List Nat)} : xs ≠ [] → (∀ x ∈ xs, k ∉ x) → cutAt k (glueL [k] xs) = xs := by
 induction xs with
 | nil => intro h; exact (h rfl).elim
 | cons x r ih =>
  intro _ h
  cases r with
  | nil => rw [show glueL [k] [x] = x ++ [] from rfl, List.append_nil]; exact cutAt_free (h x List.mem_cons_self)
  | cons y r =>
   have ih := ih (by simp -iota) fun z hz => h z (List.mem_cons_of_mem _ hz)
   have e : glueL [k] (x :: y :: r) = x ++ k :: glueL [k] (y :: r) := rfl
   rw [e, cutAt_app _ (h x List.mem_cons_self), ih]
theorem split_cut (k : Nat) (ks : List Nat) : Txt.split (str ks) (str [k]) = (cutAt k ks).map str := by
 have h1 := StrLaws.join_split (str ks) (str [k])
 have h2 := StrLaws.split_free (str ks) k
 have h2 : ∀ p ∈ Txt.split (str ks) (str [k]), k ∉ p.cps.toList := h2
 have h0 : Txt.split (str ks) (str [k]) ≠ [] := by
  unfold Txt.split
  split
  ·simp -iota
  ·split
   ·simp -iota
   ·intro e
    have := congrArg List.length e
    rw [length_partsBetween] at this
    simp -iota at this
 generalize Txt.split (str ks) (str [k]) = ps at h0 h1 h2
 have e : ps = (ps.map fun p => p.cps.toList).map str := by
  rw [List.map_map]
  conv => lhs; rw [← List.map_id ps]
  refine List.map_congr_left fun p u_ => (str_list p).symm
 rw [e] at h1 ⊢
 have h3 : ∀ x ∈ ps.map (fun p => p.cps.toList), k ∉ x := fun x hx => by
  obtain ⟨p, hp, rfl⟩ := List.mem_map.mp hx
  exact h2 p hp
 have hne : ps.map (fun p => p.cps.toList) ≠ [] := by simpa -iota using h0
 generalize ps.map (fun p => p.cps.toList) = xs at h1 h3 hne
 rw [← StrLaws.glued_eq_join] at h1
 have h1 : Txt.join (str [k]) (xs.map str) = str ks := h1
 rw [join_str, str_inj] at h1
 rw [← h1, cutAt_glue hne h3]
section
variable {c : Cx} {n : Nat} {g h : Heap} {l l' : Led} {env : Env} {a b : Addr} {v u : Value} {av : AV} {ks js : List Nat} {t t' : Tok} {x y : Bool} {vs ws : List AV}
theorem ok_eqB {P : VP} (p : P (.bool (x == y)) h) : Ok c n (compareOp .Eq (.bool x) (.bool y)) P h := fun u_ u_ u_ u_ => eq_bool ⟨rfl, rfl, p⟩
theorem ok_truthyS {P : Bool → Heap → Prop} (hz : ks.length ≤ 1000000000) (p : P (!ks.isEmpty) h) : Ok c n (truthy (.str (str ks) t)) P h := by
 refine fun u_ u_ u_ u_ => PySem.P.truthy_str (by rw [str_len]; lia) ⟨rfl, rfl, ?_⟩
 have : (((str ks).length : Int) != 0) = !ks.isEmpty := by rw [str_len]; cases ks <;> simp -iota <;> lia
 rw [this]; exact p
theorem starts_pre (ks js : List Nat) : Txt.startswith (str ks) (str js) = decide (js <+: ks) := by
 unfold Txt.startswith
 rw [Bool.eq_iff_iff, Bool.and_eq_true, decide_eq_true_iff, decide_eq_true_iff, StrLaws.subAt_eq]
 simp -iota only [str_len, List.drop_zero, beq_iff_eq]
 have e1 : (str ks).cps.toList = ks := by simp -iota [str]
 have e2 : (str js).cps.toList = js := by simp -iota [str]
 rw [e1, e2]
 constructor
 ·rintro ⟨_, h⟩
  rw [← h]; exact List.take_prefix _ _
 ·intro h
  exact ⟨by have := h.length_le; lia, (List.prefix_iff_eq_take.mp h).symm⟩
theorem ok_startswith {P : VP} (p : P (.bool (decide (js <+: ks))) h) : Ok c n (call (.builtin "str.startswith") [.str (str ks) t, .str (str js) t']) P h :=
 fun u_ u_ u_ u_ => SC.startswith (by rw [starts_pre]; exact ⟨rfl, rfl, p⟩)
theorem numbered_reps (l : List (Str × Tok)) : ∀ (xs : List (List Nat)), l.map (·.1) = xs.map str → Reps (strsOf xs) (strValues l) := by
 induction l with
 | nil => intro xs h; cases xs with
  | nil => trivial
  | cons k xs => cases h
 | cons p l ih => intro xs h; cases xs with
  | nil => cases h
  | cons k xs =>
   rw [List.map_cons, List.map_cons] at h
   injection h with h1 h2
   exact ⟨⟨p.2, by rw [← h1]⟩, ih xs h2⟩
theorem ok_splitA {k : Nat} {P : VP} (S : St c g h l) (hz : ks.length ≤ 1000000) (p : ∀ a h', St c g h' ((a, isL (strsOf (cutAt k ks))) :: l) → P (.ref a) h') : Ok c n (call (.builtin "str.split") [.str (str ks) t, .str (str [k]) t']) P h := by
 intro A d tk r
 have hs := split_cut k ks
 have hz' : (str ks).length ≤ sizeLine := by rw [str_len, sizeLine_eq]; lia
 have hy : ((str [k]).length == 0) = false := rfl
 have hn : (Builtin.Str.partsBetween (str ks) (Builtin.Str.occurrences (str ks) (str [k]) 0 (str ks).length ((str ks).length + 1)) (str [k]).length).length ≤ sizeLine := by
  have e1 := StrLaws.occ_length_le (str ks) (str [k]) 0 (str ks).length ((str ks).length + 1)
  rw [length_partsBetween, sizeLine_eq]
  rw [str_len] at e1 ⊢; lia
 have fin : ∀ (lv : List (Str × Tok)) (tk' : Nat), lv.map (·.1) = Txt.split (str ks) (str [k]) → c.Q P (.ref h.objs.size) (c.at (h.push { cls := .type "list", data := .seq (strValues lv).toArray }) d tk') := fun lv tk' e =>
  ⟨rfl, rfl, p _ _ (S.push rfl ⟨strValues lv, numbered_reps lv _ (e.trans hs), 0, rfl⟩)⟩
 cases h1 : (decide ((str ks).length < (str [k]).length) || decide (Builtin.Str.strKind (str ks) < Builtin.Str.strKind (str [k])))
 ·cases hf : (Builtin.Str.occurrences (str ks) (str [k]) 0 (str ks).length ((str ks).length + 1)).isEmpty
  ·refine call_meets F.slot_str_split (typeIs_str _ _ _) F.entry_str_split (F.args_str_split_2 _ _) (meets_str_split_sep (str ks) (str [k]) t t' h1 hy hf hz' hn) ?_
   have := fin (numbered tk (Builtin.Str.partsBetween (str ks) (Builtin.Str.occurrences (str ks) (str [k]) 0 (str ks).length ((str ks).length + 1)) (str [k]).length)) (tk + (Builtin.Str.partsBetween (str ks) (Builtin.Str.occurrences (str ks) (str [k]) 0 (str ks).length ((str ks).length + 1)) (str [k]).length).length) ((numbered_texts _ _).trans ((if_neg (ne_true_of_eq_false h1)).trans (if_neg (ne_true_of_eq_false hf))).symm)
   rw [← strsFrom_eq] at this
   exact this
  ·exact call_meets F.slot_str_split (typeIs_str _ _ _) F.entry_str_split (F.args_str_split_2 _ _) (meets_str_split_not_found (str ks) (str [k]) t t' h1 hy hf)
    (fin [(str ks, t)] tk ((if_neg (ne_true_of_eq_false h1)).trans (if_pos hf)).symm)
 ·exact call_meets F.slot_str_split (typeIs_str _ _ _) F.entry_str_split (F.args_str_split_2 _ _) (meets_str_split_cannot_occur (str ks) (str [k]) t t' h1)
   (fin [(str ks, t)] tk (if_pos h1).symm)
theorem ok_isP {P : VP} (hp : plainIs v u = true) (p : P (.bool (v == u)) h) : Ok c n (compareOp .Is v u) P h := fun u_ u_ u_ u_ => wpAny_is_plain hp ⟨rfl, rfl, p⟩
theorem ok_type_str {P : VP} (p : P (.type "str") h) : Ok c n (call (.type "type") [.str (str ks) t]) P h := fun A d tk u_ => call_type_of (s := c.at h d tk) (typeIs_str _ _ _) (by decide) ⟨rfl, rfl, p⟩
theorem ok_bo_one {op : BoolOp} {e : PySem.Expr} {pos : Pos} {P : VP} (y : Ok c n (eval e env) P h) : Ok c n (eval (.BoolOp op [e] pos) env) P h := fun A d tk r => BoolOp_one (y A d tk r)
theorem ok_bo_or {e₁ e₂ : PySem.Expr} {rest : List PySem.Expr} {pos : Pos} {P : VP} (y : Ok c n (eval e₁ env) (fun v h₁ => Ok c n (truthy v) (fun b h₂ => (b = true → P v h₂) ∧ (b = false → Ok c n (eval (.BoolOp .Or (e₂ :: rest) pos) env) P h₂)) h₁) h) :
  Ok c n (eval (.BoolOp .Or (e₁ :: e₂ :: rest) pos) env) P h :=
 fun A d tk r => BoolOp_or (y.use r fun v h₁ d₁ tk₁ z => z.use r fun b h₂ d₂ tk₂ z => by
  cases b
  ·simp -iota only [Bool.false_eq_true, if_false]; exact z.2 rfl _ _ _ r
  ·simp -iota only [if_true]; exact ⟨rfl, rfl, z.1 rfl⟩)
end
theorem Reps.nil' : Reps [] [] := trivial
theorem Reps.cons' {a : AV} {v : Value} {as : List AV} {vs : List Value} (x : a.rep v) (y : Reps as vs) : Reps (a :: as) (v :: vs) := ⟨x, y⟩
section
variable {c : Cx} {n : Nat} {g h : Heap} {l l' : Led} {env : Env} {a b it : Addr} {v u : Value} {av : AV} {vs : List AV}
theorem ok_unary {op : UnaryOp} {e : PySem.Expr} {pos : Pos} {P : VP} (y : Ok c n (eval e env) (kUn op c n P) h) : Ok c n (eval (.UnaryOp op e pos) env) P h :=
 fun A d tk r => wpAny_UnaryOp (y.use r fun v h₁ d₁ tk₁ z => z _ _ _ r)
theorem ok_neg {i : Int} {t : Tok} {P : VP} (p : ∀ t, P (.int (-i) t) h) : Ok c n (unaryOp .USub (.int i t)) P h := fun u_ u_ u_ u_ => neg_int ⟨rfl, rfl, p _⟩
theorem ok_IfExpA {test body orelse : PySem.Expr} {pos : Pos} {P : VP} (S : St c g h l) (av : AV)
  (z : Ok c n (isTrue test env (eval test env)) (fun b h₁ => (b = true → Ok c n (eval body env) (fun v h₂ => av.rep v ∧ St c g h₂ l) h₁) ∧ (b = false → Ok c n (eval orelse env) (fun v h₂ => av.rep v ∧ St c g h₂ l) h₁)) h)
  (k : ∀ v h', av.rep v → St c g h' l → P v h') : Ok c n (eval (.IfExp test body orelse pos) env) P h :=
 ok_IfExp (z.mono fun b h₁ z => ⟨fun e => (z.1 e).mono fun v h₂ q => k v h₂ q.1 q.2, fun e => (z.2 e).mono fun v h₂ q => k v h₂ q.1 q.2⟩)
theorem St.back {g' h0 : Heap} {l0 : Led} (S : St c g' h l) (S0 : St c g h0 l0) (k : Gr g g') : St c g h l := by
 refine ⟨S0.top, fun b o e => S.keep b o (k b o e), S.at_, S.nd, fun p hp => ?_, S.low⟩
 cases e : g.get? p.1 with
 | none => rfl
 | some o => have := S.off p hp; rw [k _ _ e] at this; cases this
theorem ok_len_T {P : VP} (A : HO h a (isT vs)) (hs : vs.length ≤ 1000000) (p : ∀ t, P (.int vs.length t) h) : Ok c n (call (.builtin "len") [.ref a]) P h := by
 obtain ⟨us, r, q⟩ := isT.is A
 have hl := r.len
 refine fun A d tk u_ => PyProof.Rows.len_tuple (s := c.at h d tk) q (by simp -iota; lia) ⟨rfl, rfl, ?_⟩
 have := p
 simpa -iota [hl] using this _
theorem ok_iterLA {P : VP} (S : St c g h l) (A : HO h a (isL vs)) (p : ∀ it h', St c g h' ((it, isLI a 0) :: l) → P (.ref it) h') : Ok c n (pyIter (.ref a)) P h := by
 obtain ⟨o, ho, us, r, q⟩ := A
 exact ok_iter_list S ⟨o, ho, q⟩ p
theorem fold_take {α β : Type} (f : β → α → β) (b : β) (xs : List α) (i : Nat) (x : α) (h : xs[i]? = some x) : (xs.take (i + 1)).foldl f b = f ((xs.take i).foldl f b) x := by
 rw [List.take_add_one, h, List.foldl_append]; rfl
theorem ok_popA {P : VP} (S : St c g h l) (U : Up l a (isL (vs ++ [av])) (isL vs) l') (hs : vs.length ≤ 1000000) (p : ∀ h', St c g h' l' → av.All fun v => P v h') : Ok c n (call (.builtin "list.pop") [.ref a]) P h := by
 obtain ⟨o, ho, us, r, k, rfl⟩ := S.at_ _ U.mem
 have hl := r.len
 obtain ⟨v, hv, rv⟩ := r.get (i := vs.length) (a := av) (by simp -iota)
 have ht := r.take vs.length
 rw [List.take_left' rfl] at ht
 simp -iota only [List.length_append, List.length_singleton] at hl
 refine fun A d tk rm => call_meets (s := c.at h d tk) F.slot_list_pop ⟨_, ho, rfl⟩ F.entry_list_pop (F.args_list_pop_1 _) (MeetsSeq.list_pop_last a us.toArray k v (by rw [List.size_toArray, hl]; simpa -iota using hv) (by rw [sizeLine_eq]; simp -iota; lia)) ⟨ho, rfl, rfl, p _ ?_ v rv⟩
 refine S.upd U (Heap.SameBut.update ..) ⟨_, Heap.get?_update_self _ ho rfl, us.take vs.length, ht, ?_⟩
 refine isList.map ?_
 rw [← Array.toList_inj]
 have e : us.eraseIdx vs.length = us.take vs.length := by
  rw [List.eraseIdx_eq_take_drop_succ, List.drop_of_length_le (by lia), List.append_nil]
 simp -iota [hl, e]
theorem ok_x_ifT {test : PySem.Expr} {body orelse rest : List Stmt} {pos : Pos} {P : Flow → Heap → Prop} (S : St c g h l) (b : Bool) (z : Ok c n (isTrue test env (eval test env)) (fun b' h₁ => b' = b ∧ St c g h₁ l) h)
  (y1 : ∀ h, St c g h l → b = true → Ok c n (execs body env) (Then c n env rest P) h) (y2 : ∀ h, St c g h l → b = false → Ok c n (execs orelse env) (Then c n env rest P) h) : Ok c n (exec (.If test body orelse pos) env) (Then c n env rest P) h :=
 ok_x_if (z.mono fun b' h₁ q1_ => by obtain ⟨e, S⟩ := q1_; subst e; exact ⟨y1 _ S, y2 _ S⟩)
theorem signs_get {ks : List Nat} {i : Nat} {av : AV} (e : (signsOf ks)[i]? = some av) : ∃ k, ks[i]? = some k ∧ av = .str [k] := by
 simp -iota only [signsOf, List.getElem?_map, Option.map_eq_some_iff] at e
 obtain ⟨k, hk, rfl⟩ := e
 exact ⟨k, hk, rfl⟩
theorem turn_signs {ks : List Nat} {i : Nat} {G : Value → Prop} (k : ∀ x t, ks[i]? = some x → G (.str (str [x]) t)) : ∀ (av : AV) (v : Value), (signsOf ks)[i]? = some av → av.rep v → G v := fun av v e rv => by
 obtain ⟨x, hx, rfl⟩ := signs_get e; exact rep_eS rv fun t => k x t hx
theorem strs_get {xs : List (List Nat)} {i : Nat} {av : AV} (e : (strsOf xs)[i]? = some av) : ∃ k, xs[i]? = some k ∧ av = .str k := by
 simp -iota only [strsOf, List.getElem?_map, Option.map_eq_some_iff] at e
 obtain ⟨k, hk, rfl⟩ := e
 exact ⟨k, hk, rfl⟩
theorem turn_strs {xs : List (List Nat)} {i : Nat} {G : Value → Prop} (k : ∀ x t, xs[i]? = some x → G (.str (str x) t)) : ∀ (av : AV) (v : Value), (strsOf xs)[i]? = some av → av.rep v → G v := fun av v e rv => by
 obtain ⟨x, hx, rfl⟩ := strs_get e; exact rep_eS rv fun t => k x t hx
theorem step_lt {a b k : Nat} (h : a < b) (hk : b ≤ k) : k - 1 < k := by lia
theorem step_le {a b k : Nat} (h : a < b) (hk : b ≤ k) : a ≤ k - 1 := by lia
theorem step_memo {a b k m m' N : Nat} (h : a < b) (hk : b ≤ k) (h1 : m' ≤ m + 1) (h2 : m + k ≤ N) : m' + (k - 1) ≤ N := by lia
theorem iteB {b b' : Bool} {A B : Prop} (e : b = b') (p : b' = true → A) (q : b' = false → B) : (b = true → A) ∧ (b = false → B) := by subst e; exact ⟨p, q⟩
theorem pkT {b : Bool} {P Q : Prop} (e : b = true) (p : P) : (b = true → P) ∧ (b = false → Q) := by subst e; exact ⟨fun u_ => p, fun e => by cases e⟩
theorem pkF {b : Bool} {P Q : Prop} (e : b = false) (q : Q) : (b = true → P) ∧ (b = false → Q) := by subst e; exact ⟨fun e => (by cases e), fun u_ => q⟩
theorem pkT' {b : Bool} {P Q : Prop} (e : b = true) (p : P) : (b = false → Q) ∧ (b = true → P) := by subst e; exact ⟨fun e => (by cases e), fun u_ => p⟩
theorem pkF' {b : Bool} {P Q : Prop} (e : b = false) (q : Q) : (b = false → Q) ∧ (b = true → P) := by subst e; exact ⟨fun u_ => q, fun e => (by cases e)⟩
theorem strs_snoc (xs : List (List Nat)) (x : List Nat) : strsOf (xs ++ [x]) = strsOf xs ++ [.str x] := by simp -iota [strsOf]
theorem signs_len (ks : List Nat) : (signsOf ks).length = ks.length := by simp -iota [signsOf]
theorem strs_len (xs : List (List Nat)) : (strsOf xs).length = xs.length := by simp -iota [strsOf]
noncomputable def mapT (f : List Nat → List Nat) : AV → AV
 | .str k => .str (f k)
 | a => a
theorem mapT_signs (f : List Nat → List Nat) (ks : List Nat) : (signsOf ks).map (mapT f) = strsOf (ks.map fun k => f [k]) := by simp [signsOf, strsOf, mapT, Function.comp_def]
theorem mapT_strs (f : List Nat → List Nat) (xs : List (List Nat)) : (strsOf xs).map (mapT f) = strsOf (xs.map f) := by simp [strsOf, mapT, Function.comp_def]
end
section
variable {c : Cx} {n : Nat} {g h : Heap} {l l' : Led} {env : Env} {a b d it : Addr} {v u : Value} {av : AV} {vs : List AV} {K : Type} [DecidableEq K] [Keyed K] {m : DM K} {k : K}
theorem rep_key {ks : List Nat} {t : Tok} : (Keyed.av (K := Str) (str ks)).rep (.str (str ks) t) := ⟨t, by rw [str_list]⟩
theorem key_av {ks : List Nat} : Keyed.av (K := Str) (str ks) = .str ks := by show AV.str (str ks).cps.toList = _; simp -iota [str]
noncomputable def RepP : DM K → List (Value × Value) → Prop
 | [], [] => True
 | (k, a) :: m, (x, v) :: r => (Keyed.av k).rep x ∧ a.rep v ∧ RepP m r
 | _, _ => False
theorem RepP.nil : RepP (K := K) [] [] := trivial
theorem RepP.cons {k : K} {a : AV} {m : DM K} {x v : Value} {r : List (Value × Value)} (h1 : (Keyed.av k).rep x) (h2 : a.rep v) (h3 : RepP m r) : RepP ((k, a) :: m) ((x, v) :: r) := ⟨h1, h2, h3⟩
theorem RepP.to (c : Cx) {m : DM K} : ∀ {r : List (Value × Value)}, RepP m r → ∃ kvs, Carries (Keyed.knd (K := K) c.prog c.w) r kvs ∧ RepD m kvs := by
 induction m with
 | nil => intro r h; cases r with
  | nil => exact ⟨[], trivial, trivial⟩
  | cons p r => exact h.elim
 | cons p m ih =>
  obtain ⟨k, a⟩ := p
  intro r h
  cases r with
  | nil => exact h.elim
  | cons q r =>
   obtain ⟨x, v⟩ := q
   obtain ⟨h0, h1, h2⟩ := h
   obtain ⟨kvs, q1, q2⟩ := ih h2
   exact ⟨(k, v) :: kvs, ⟨Keyed.is h0, rfl, q1⟩, rfl, h1, q2⟩
theorem ok_pairs_nil {P : List (Value × Value) → Heap → Prop} (p : P [] h) : Ok c n (evalPairs []) P h := ok_pure p
theorem ok_pairs_cons {kx vx : PySem.Expr} {pos : Pos} {rest : List (Sem Value × Sem Value)} {P : List (Value × Value) → Heap → Prop}
  (y : Ok c n (eval kx env) (fun kv h₁ => Ok c n (eval vx env) (fun vv h₂ => Ok c n (evalPairs rest) (fun vs h₃ => P ((kv, vv) :: vs) h₃) h₂) h₁) h) :
  Ok c n (evalPairs ((eval kx env, (do let x ← eval vx env; standAt pos; pure x)) :: rest)) P h :=
 fun A dr tk r => evalPairs_cons (y.use r fun kv h₁ d₁ t₁ z => wpAny_bind (z.use r fun vv h₂ d₂ t₂ z => wpAny_bind (wpAny_standAt (wpAny_pure (z.use r fun vs h₃ d₃ t₃ z => ⟨rfl, rfl, z⟩)))))
noncomputable def pairsOf (env : Env) (pos : Pos) : List (PySem.Expr × PySem.Expr) → List (Sem Value × Sem Value)
 | [] => []
 | (k, v) :: r => (eval k env, (do let x ← eval v env; standAt pos; pure x)) :: pairsOf env pos r
theorem ok_DictP (K : Type) [DecidableEq K] [Keyed K] {keys : List (Option PySem.Expr)} {values : List PySem.Expr} {pos : Pos} {P : VP} (kv : List (PySem.Expr × PySem.Expr)) (S : St c g h l)
  (hshape : (evalEachOpt keys env).zip ((evalEach values env).map fun v => do let x ← v; standAt pos; pure x) = (pairsOf env pos kv).map fun p => (some p.1, p.2)) (h0 : pairsOf env pos kv ≠ []) (hlen : (pairsOf env pos kv).length ≤ 15)
  (y : ∀ d h', St c g h' ((d, isDic (K := K) c []) :: l) → Ok c n (evalPairs (pairsOf env pos kv)) (fun vs h₁ => ∃ (m : DM K) (l₁ : Led), St c g h₁ ((d, isDic (K := K) c []) :: l₁) ∧ RepP m vs ∧ (m.map (·.1)).Nodup ∧ ∀ h₂, St c g h₂ ((d, isDic c m) :: l₁) → P (.ref d) h₂) h') :
  Ok c n (eval (.Dict keys values pos) env) P h := by
 intro A dr tk r
 refine wpAny_Dict_pairs (knd := Keyed.knd (K := K) c.prog c.w) (pairs := pairsOf env pos kv) hshape h0 hlen ?_
 have S1 := S.push (o := { cls := .type "dict", data := .dict #[] }) (P := isDic (K := K) c []) rfl isDic.new
 refine (y _ _ S1).use r fun vs h₁ d₁ t₁ q1_ => ?_
 obtain ⟨m, l₁, S2, rp, nd, z⟩ := q1_
 obtain ⟨kvs, hc, hr⟩ := rp.to c
 obtain ⟨kvs0, r0, q0⟩ := isDk.of (S2.get .here)
 have : kvs0 = [] := List.length_eq_zero_iff.mp r0.len
 subst this
 refine ⟨kvs, hc, q0, fun h' hd hs => ⟨rfl, rfl, z h' ?_⟩⟩
 rw [merged_nil_of_nodup _ (by rw [hr.keys]; exact nd)] at hd
 exact S2.upd .here hs (isDk.to hr hd)
theorem ok_Dict1 (K : Type) [DecidableEq K] [Keyed K] {k1 v1 : PySem.Expr} {pos : Pos} {P : VP} (S : St c g h l)
  (y : ∀ d h', St c g h' ((d, isDic (K := K) c []) :: l) → Ok c n (evalPairs (pairsOf env pos [(k1, v1)])) (fun vs h₁ => ∃ (m : DM K) (l₁ : Led), St c g h₁ ((d, isDic (K := K) c []) :: l₁) ∧ RepP m vs ∧ (m.map (·.1)).Nodup ∧ ∀ h₂, St c g h₂ ((d, isDic c m) :: l₁) → P (.ref d) h₂) h') :
  Ok c n (eval (.Dict [some k1] [v1] pos) env) P h := ok_DictP K [(k1, v1)] S rfl (List.cons_ne_nil _ _) (Nat.le_of_ble_eq_true rfl) y
set_option maxHeartbeats 1000000 in
theorem code_set_new0 {w : World} {prog : Program} {A : Around} {E : Value → Shared → Prop} {s : Shared} {Q₁ : Value → Shared → Prop}
  (h : Q₁ (.ref s.heap.objs.size) { s with heap := s.heap.push { cls := .type "set", dict := none, data := .set #[] 0 (.fresh 0 0 (!w.params.followText "set-order")) } }) :
  codeAny (model prog w) A (.call (.builtin "set.__new__") ⟨[.type "set"], []⟩) (wants Q₁ E) s := by
 refine codeAny_of_tree ?_
 show wpAny _ A.in1 (do checkBuiltinCall "set.__new__" ⟨[.type "set"], []⟩; again (.builtin "set.__new__" ⟨[.type "set"], []⟩)) _ _ s
 refine wpAny_bind (wpAny_of_eq F.newCall_set_0 (wpAny_pure ⟨plainId_quiet F.plain_set_new _, codeAny_builtin F.entry_set_new ?_⟩))
 rw [Around.under_plainId F.plain_set_new _]
 unfold Builtin.«set.__new__» Builtin.Frozenset.newClass
 have hsub := sub_set_self
 obtain ⟨hp, g, d, tk, os⟩ := s
 dsimp only
 wp_walk
 refine wpAny_askSetting (wpAny_pure ?_)
 dsimp only
 simp -iota only [newObj]
 refine wpAny_bind (wpAny_alloc (wpAny_pure ?_))
 exact wpAny_pure h
set_option maxHeartbeats 1000000 in
theorem ok_setNew {P : VP} (S : St c g h l) (p : ∀ s h', St c g h' ((s, isSet c []) :: l) → P (.ref s) h') : Ok c (n + 4) (call (.type "set") []) P h := by
 intro A d tk r
 have hmade := F.called_set.made
 have hsub := F.called_set.sub
 obtain ⟨cc, tl, hmro⟩ := F.called_set.mro
 refine wpAny_call (codeAny_of_tree ?_)
 show wpAny _ _ (callAny (.type "set") _) _ _ _
 refine wpAny_pure ⟨Code.quiet_builtin _ (by decide +kernel), codeAny_builtin F.entry_type_call ?_⟩
 rw [Around.under_plain (weight_type_call_type "set" [] []) rfl]
 have h1 := F.called_set.notType
 have h2 := F.called_set.canCreate
 have hct := F.typeCall_set_0
 repeat (any_goals (first | assumption | wp_step))
 refine codeAny_mono (code_set_new0 (E := NoE) (Q₁ := fun obj s₁ => obj = .ref h.objs.size ∧ s₁ = c.at (h.push { cls := .type "set", dict := none, data := .set #[] 0 (.fresh 0 0 (!byText c)) }) d tk) ⟨rfl, rfl⟩) fun r₁ s₁ hr => ?_
 cases r₁ with
 | error e => exact hr.elim
 | ok fl =>
  cases fl with
  | ret obj =>
   obtain ⟨rfl, rfl⟩ := hr
   have S1 : St c g (h.push { cls := .type "set", dict := none, data := .set #[] 0 (.fresh 0 0 (!byText c)) }) ((h.objs.size, isSet c []) :: l) := S.push rfl ⟨_, _, _, rfl, setIn_new⟩
   have ho1 : (h.push { cls := .type "set", dict := none, data := .set #[] 0 (.fresh 0 0 (!byText c)) }).get? h.objs.size = some { cls := .type "set", dict := none, data := .set #[] 0 (.fresh 0 0 (!byText c)) } := Heap.get?_push_size _ rfl
   generalize h.push { cls := .type "set", dict := none, data := .set #[] 0 (.fresh 0 0 (!byText c)) } = hp at S1 ho1
   generalize h.objs.size = sa at S1 ho1
   have hT : Shared.TypeIs (c.at hp d tk) (.ref sa) "set" := ⟨_, ho1, rfl⟩
   have hli := F.called_set.init.lookup
   have hbi := F.called_set.init.bind (.ref sa)
   repeat (any_goals (first | assumption | wp_step))
   refine codeAny_mono (codeAny_call_builtin (R := wants (fun r s₂ => r = .none ∧ c.Q P (.ref sa) s₂) NoE) F.called_set.init.plain F.entry_set_init (check_set_init hT ?_)) fun r₂ s₂ hr₂ => ?_
   ·unfold Builtin.«set.__init__» noKeywords
    wp_walk
    exact ⟨rfl, rfl, rfl, p _ _ S1⟩
   ·cases r₂ with
    | error e => exact hr₂.elim
    | ok fl₂ =>
     cases fl₂ with
     | ret r =>
      obtain ⟨rfl, hq⟩ := hr₂
      repeat (any_goals (first | assumption | wp_step))
     | _ => exact hr₂.elim
  | _ => exact hr.elim
section
variable {name qual : Str} {params : Arguments} {body : List Stmt} {scope : Scope} {cc P : Addr} {ps : List Value} {pos : Pos} {firstLine : Nat} {clos : List (Str × Addr)}
theorem ok_makeFnU {R : VP} (S : St c g h l) (hcl : closureFor scope env = pure clos) (hge : env.globals = mainGlobals) (hcode : env.code = .ref cc) (C : CodeHd g cc P) {lf : (Obj → Prop) → Led} (U : ∀ W, Up l P (isTab ps) W (lf W)) (ht : TriplesOk ps)
  (hnf : codeAmong pos ps = none)
  (p : ∀ q c' ctv doc pm h', St c g h' ((q, isFn (fnX name qual params body scope clos .none .none doc pm none (.ref c') ctv) none) :: (c', isCode qual) :: lf (isTab (ps ++ [rawInt pos.line, rawInt pos.col, .ref c']))) → R (.ref q) h') :
  Ok c n (makeFunction name qual params (.stmts body) scope env [] [] [] pos firstLine) R h := by
 obtain ⟨o, hP, rfl⟩ := S.at_ _ (U (isTab ps)).mem
 obtain ⟨mg, hns, b⟩ := S.topH.gl
 obtain ⟨hgP, hb⟩ := builtinsAt_of' hP hns b
 intro A' dr tk r
 refine makeFunction_K (ps := ps.toArray) hcl hge hns hcode (C.keeps S.keep) hP (by simpa -iota using ht) (by simpa -iota using hnf) hgP hb fun c' ctv doc h' tk' hx hge' hlt hrec htb => ?_
 have S1 : St c g h' (lf (isTab (ps ++ [rawInt pos.line, rawInt pos.col, .ref c']))) := S.frame1 (U _) hx ⟨_, htb, by simp -iota [isTab]⟩
 refine ⟨rfl, rfl, p _ c' ctv doc ((mg "__name__").getD .none) _ ?_⟩
 obtain ⟨c₂, oc, vs, t, e2, hoc, hd, hv⟩ := hrec
 cases e2
 have S2 := S1.add S (U _).keys hoc (W := isCode qual) ⟨vs, t, hd, hv⟩ hge'
 exact S2.push rfl ⟨#[], rfl⟩
theorem ok_makeLamU {R : VP} {e : PySem.Expr} (S : St c g h l) (hcl : closureFor scope env = pure clos) (hge : env.globals = mainGlobals) (hcode : env.code = .ref cc) (C : CodeHd g cc P) {lf : (Obj → Prop) → Led} (U : ∀ W, Up l P (isTab ps) W (lf W)) (ht : TriplesOk ps)
  (hnf : codeAmong pos ps = none)
  (p : ∀ q c' ctv pm h', St c g h' ((q, isFn (kla_fn name qual params e scope clos pm (.ref c') ctv) none) :: (c', isCode qual) :: lf (isTab (ps ++ [rawInt pos.line, rawInt pos.col, .ref c']))) → R (.ref q) h') :
  Ok c n (makeFunction name qual params (.expr e) scope env [] [] [] pos firstLine) R h := by
 obtain ⟨o, hP, rfl⟩ := S.at_ _ (U (isTab ps)).mem
 obtain ⟨mg, hns, b⟩ := S.topH.gl
 obtain ⟨hgP, hb⟩ := builtinsAt_of' hP hns b
 intro A' dr tk r
 refine kla_makeFunction (ps := ps.toArray) hcl hge hns hcode (C.keeps S.keep) hP (by simpa -iota using ht) (by simpa -iota using hnf) hgP hb fun c' ctv h' tk' hx hge' hlt hrec htb => ?_
 have S1 : St c g h' (lf (isTab (ps ++ [rawInt pos.line, rawInt pos.col, .ref c']))) := S.frame1 (U _) hx ⟨_, htb, by simp -iota [isTab]⟩
 refine ⟨rfl, rfl, p _ c' ctv ((mg "__name__").getD .none) _ ?_⟩
 obtain ⟨c₂, oc, vs, t, e2, hoc, hd, hv⟩ := hrec
 cases e2
 have S2 := S1.add S (U _).keys hoc (W := isCode qual) ⟨vs, t, hd, hv⟩ hge'
 exact S2.push rfl ⟨#[], rfl⟩
end
noncomputable def loadK {α : Type} (t : Sem α) : Obj → Sem α := if h : t.ctorIdx = 6 then Sem.load.elim (motive := fun u_ => Obj → Sem α) t h fun u_ u_ k => k else fun u_ => t
theorem ok_loadRaw {α : Type} {t : Sem α} {a : Addr} {p : Option Value} {o : Obj} {P : α → Heap → Prop} (e : t = Sem.load a p (loadK t)) (ho : h.get? a = some o) (y : Ok c n (loadK t o) P h) : Ok c n t P h := by
 rw [e]
 exact fun A d tk r Γ q hΓ => by rw [Sem.wp_load]; exact ⟨o, ho, y A d tk r Γ q hΓ⟩
end
section
variable {c : Cx} {n : Nat} {g h : Heap} {l l' : Led} {env : Env} {a b d it : Addr} {v u : Value} {av : AV} {vs ws : List AV} {t u' : Tok} {i j : Int}
theorem fmap_congr {α β : Type} {f g : α → Option β} : ∀ {l : List α}, (∀ a ∈ l, f a = g a) → l.filterMap f = l.filterMap g
 | [], _ => rfl
 | a :: l, h => by rw [List.filterMap_cons, List.filterMap_cons, h a List.mem_cons_self, fmap_congr fun b hb => h b (List.mem_cons_of_mem _ hb)]
theorem range_fmap {α β : Type} (f : α → Option β) : ∀ (xs : List α), (List.range xs.length).filterMap (fun i => (xs[i]?).bind f) = xs.filterMap f := by
 intro xs
 have : ∀ (pre xs : List α), ((List.range xs.length).filterMap fun i => ((pre ++ xs)[pre.length + i]?).bind f) = xs.filterMap f := by
  intro pre xs
  induction xs generalizing pre with
  | nil => rfl
  | cons x r ih =>
   rw [List.length_cons, List.range_succ_eq_map, List.filterMap_cons, List.filterMap_cons]
   have e0 : ((pre ++ x :: r)[pre.length + 0]?).bind f = f x := by simp -iota
   rw [e0, List.filterMap_map]
   have e1 : (List.range r.length).filterMap ((fun i => ((pre ++ x :: r)[pre.length + i]?).bind f) ∘ Nat.succ) = r.filterMap f := by
    rw [← ih (pre ++ [x])]
    refine fmap_congr fun i u_ => ?_
    have e : pre.length + i.succ = (pre ++ [x]).length + i := by rw [List.length_append, List.length_singleton]; lia
    have e' : pre ++ x :: r = (pre ++ [x]) ++ r := by rw [List.append_assoc]; rfl
    simp -iota only [Function.comp]
    rw [e, e']
   rw [e1]
 simpa -iota using this [] xs
noncomputable def PairsAt (g : Heap) : List Addr → List (List Nat × List Nat) → Prop
 | [], [] => True
 | a :: as, r :: rs => HO g a (isT [.str r.1, .str r.2]) ∧ PairsAt g as rs
 | _, _ => False
theorem PairsAt.ind {g : Heap} {M : List Addr → List (List Nat × List Nat) → Prop} (n : M [] []) (s : ∀ {a as r rs}, HO g a (isT [.str r.1, .str r.2]) → PairsAt g as rs → M as rs → M (a :: as) (r :: rs)) {as : List Addr} : ∀ {rs}, PairsAt g as rs → M as rs := by
 induction as with
 | nil => intro rs h; cases rs with
  | nil => exact n
  | cons r rs => exact h.elim
 | cons a as ih => intro rs h; cases rs with
  | nil => exact h.elim
  | cons r rs => exact s h.1 h.2 (ih h.2)
theorem PairsAt.len {g : Heap} {as : List Addr} {rs : List (List Nat × List Nat)} (h : PairsAt g as rs) : as.length = rs.length := h.ind (M := fun as rs => as.length = rs.length) rfl fun u_ u_ q => congrArg (· + 1) q
theorem PairsAt.gr {g g' : Heap} (k : Gr g g') {as : List Addr} {rs : List (List Nat × List Nat)} (h : PairsAt g as rs) : PairsAt g' as rs := h.ind (M := PairsAt g') trivial fun x u_ q => ⟨x.gr k, q⟩
theorem PairsAt.get {g : Heap} {as : List Addr} {rs : List (List Nat × List Nat)} {i : Nat} {a : Addr} (h : PairsAt g as rs) : as[i]? = some a → ∃ r, rs[i]? = some r ∧ HO g a (isT [.str r.1, .str r.2]) :=
 h.ind (M := fun as rs => ∀ i, as[i]? = some a → ∃ r, rs[i]? = some r ∧ HO g a (isT [.str r.1, .str r.2])) (fun i e => by cases e) (fun x u_ q i e => by
  cases i with
  | zero => cases e; exact ⟨_, rfl, x⟩
  | succ i => exact q i e) i
theorem PairsAt.snoc {g : Heap} {a : Addr} {r : List Nat × List Nat} (x : HO g a (isT [.str r.1, .str r.2])) {as : List Addr} {rs : List (List Nat × List Nat)} (h : PairsAt g as rs) : PairsAt g (as ++ [a]) (rs ++ [r]) :=
 h.ind (M := fun as rs => PairsAt g (as ++ [a]) (rs ++ [r])) ⟨x, trivial⟩ fun y u_ q => ⟨y, q⟩
inductive GrInv (g : Heap) (rs : List (List Nat × List Nat)) (Lf : List Addr → Option AV → Option AV → Option AV → Option AV → Led) (g' : Heap) : Led → Prop
 | mk (as : List Addr) (o3 o4 o5 o6 : Option AV) (kg : Gr g g') (PA : PairsAt g' as rs) : GrInv g rs Lf g' (Lf as o3 o4 o5 o6)
noncomputable def refs (as : List Addr) : List AV := as.map .ref
theorem refs_get {as : List Addr} {i : Nat} {av : AV} (e : (refs as)[i]? = some av) : ∃ a, as[i]? = some a ∧ av = .ref a := by
 simp -iota only [refs, List.getElem?_map, Option.map_eq_some_iff] at e
 obtain ⟨a, ha, rfl⟩ := e
 exact ⟨a, ha, rfl⟩
theorem turn_refs {as : List Addr} {i : Nat} {G : Value → Prop} (k : ∀ a, as[i]? = some a → G (.ref a)) : ∀ (av : AV) (v : Value), (refs as)[i]? = some av → av.rep v → G v := fun av v e rv => by
 obtain ⟨x, hx, rfl⟩ := refs_get e; cases rv; exact k x hx
theorem refs_len (as : List Addr) : (refs as).length = as.length := by simp -iota [refs]
theorem refs_snoc (as : List Addr) (a : Addr) : refs (as ++ [a]) = refs as ++ [.ref a] := by simp -iota [refs]
end
inductive FinN (c : Cx) (P : Heap → Prop) (C : Addr) (h : Heap) : Prop
 | mk (g' : Heap) (l' : Led) (m : List (Str × Option Value)) (S : St c g' h ((C, isNs m) :: l')) (k : ∀ h₆, St c g' h₆ l' → P h₆) : FinN c P C h
noncomputable abbrev FinU (c : Cx) (n : Nat) (use : Option (Value → Sem Unit)) (P : VP) (acc : Value) (C : Addr) (h₅ : Heap) : Prop := match use with
 | none => FinN c (P acc) C h₅
 | some u => Ok c n (u acc) (fun u_ h₆ => FinN c (P .none) C h₆) h₅
noncomputable abbrev kIter (c : Cx) (n : Nat) (G : VP) : Value → Heap → Prop := fun x h₁ => Ok c n (pyIter x) G h₁
noncomputable abbrev kTests (c : Cx) (n : Nat) (ifs : List PySem.Expr) (env : Env) (Q : Bool → Heap → Prop) : Unit → Heap → Prop := fun u_ h => Ok c n (testsOf ifs env) Q h
noncomputable abbrev kEval (c : Cx) (n : Nat) (e : PySem.Expr) (env : Env) (Q : VP) : Unit → Heap → Prop := fun u_ h => Ok c n (eval e env) Q h
noncomputable abbrev kEval2 (c : Cx) (n : Nat) (e : PySem.Expr) (env : Env) (Q : Value → Value → Heap → Prop) : Value → Heap → Prop := fun v h => Ok c n (eval e env) (Q v) h
noncomputable abbrev FinL (c : Cx) (n : Nat) (g : Heap) (use : Option (Value → Sem Unit)) (P : VP) (W : Obj → Prop) (l : Led) : Prop := ∀ D C m h, St c g h ((C, isNs m) :: (D, W) :: l) → FinU c n use P (.ref D) C h
theorem Reps.two {a b : List Nat} {us : List Value} (r : Reps [.str a, .str b] us) : ∃ t1 t2, us = [.str (str a) t1, .str (str b) t2] := by
 obtain ⟨v1, r1, rfl, ⟨t1, rfl⟩, q1⟩ := r.cons_inv
 obtain ⟨v2, r2, rfl, ⟨t2, rfl⟩, q2⟩ := q1.cons_inv
 cases q2.nil_inv
 exact ⟨t1, t2, rfl⟩
section
variable {c : Cx} {n : Nat} {g h : Heap} {l l' : Led} {env : Env}
theorem Reps.e2 {a b : List Nat} {G : List Value → Prop} (k : ∀ t1 t2, G [.str (str a) t1, .str (str b) t2]) : ∀ us, Reps [.str a, .str b] us → G us := fun us r => by
 obtain ⟨t1, t2, rfl⟩ := r.two; exact k t1 t2
theorem ok_compEnvX {scope : Scope} {cl : List (Str × Addr)} {P : Env → Heap → Prop} (S : St c g h l) (nd : ((localsOf scope).map (·.1)).Nodup)
  (x : ∀ C h', St c g h' (cellLed (C + 1) scope.names ((C, isNs (localsOf scope)) :: l)) → P { scope, locals := C, globals := env.globals, cells := cellsFrom (C + 1) scope.names cl, qual := env.qual, func := none, code := env.code, frame := env.frame, builtins := env.builtins } h') :
  Ok c n (newFunctionEnv scope env.globals cl [] env.qual none .none (some env)) P h := by
 simp only [newFunctionEnv, Option.isSome_some, if_true]
 refine ok_bind (ok_alloc (isNs (localsOf scope)) S rfl (isNs_new _ nd _) fun h' e S' => ?_)
 refine ok_bind (ok_layCells _ (fun name kind cells => by cases hkc : kind == NameKind.cell <;> simp [hkc]) _ _ _ _ _ _ S' e fun h'' S'' => ?_)
 exact ok_bind (ok_pure (ok_pure (x _ _ S'')))
theorem ok_compUX {e : PySem.Expr} {use : Option (Value → Sem Unit)} {scope : Scope} {pos : Pos} {newAcc first : Sem Value} {G : Comprehension} {gs : List Comprehension} {cl : List (Str × Addr)} {P : VP}
  (hcl : clausesOf e = G :: gs) (h0 : G.is_async = 0) (hs : ∀ x, foldedSetIterable G.iter env x = pure x) (hclos : closureFor scope env = pure cl) (hkind : scope.kind = .function)
  (hu : ∀ (it acc : Value) (env : Env) (A : Around), A.under (.compStart e 0 it acc env) = A)
  (hden : ∀ it acc env, c.M.den (.compStart e 0 it acc env) = (compStart e 0 it acc env).onRaise (fun x => do noteFrame x env; standAt theWindowsPlace))
  (hnames : scope.names.all (fun x => x.2 != .local || scope.names.lookup x.1 == some .local) = true) (nd : ((localsOf scope).map (·.1)).Nodup)
  (x : Ok c n first (fun x h₁ => Ok c n (pyIter x) (fun it h₂ => Ok c n newAcc (fun acc h₃ => ∃ g l, St c g h₃ l ∧ ∀ C h₄, St c g h₄ (cellLed (C + 1) scope.names ((C, isNs (localsOf scope)) :: l)) →
   (Ok c n (pyIter it) (fun it' h' => it' = it ∧ h' = h₄) h₄ ∧ OkC c n (.compLoop e 0 it acc (compEnvC scope (cellsFrom (C + 1) scope.names cl) C env)) (fun u_ h₅ => FinU c n use P acc C h₅) h₄)) h₂) h₁) h) :
  Ok c n (comprehension e scope env pos newAcc false first use) P h := by
 have hn2 : ∀ x ∈ scope.names, x.2 = .local → scope.names.lookup x.1 = some .local := fun x hx hl => by
  have := List.all_eq_true.mp hnames x hx
  simp -iota only [bne_iff_ne, Bool.or_eq_true, beq_iff_eq] at this
  exact this.resolve_left fun q => q hl
 intro A d tk r
 refine wpAny_comprehension_free hcl hs hclos hkind hn2 (x.use r fun v h₁ d₁ tk₁ z => z.use r fun it h₂ d₂ tk₂ z => z.use r fun acc h₃ d₃ tk₃ z => ?_)
 obtain ⟨g, l, S, z⟩ := z
 refine (ok_compEnvX (cl := cl) (env := env) (P := fun cenv h₄ => cenv.locals ≠ cenv.locals + 1 ∧ OkC c n (.compStart e 0 it acc { cenv with scope := relabel scope env }) (fun u_ h₅ => FinU c n use P acc cenv.locals h₅) h₄) S nd fun C h₄ S₄ => ?_).use r fun cenv h₄ d₄ tk₄ z => ?_
 ·refine ⟨by simp, okC_compStart (by rw [hcl]; rfl) h0 (hu _ _ _) (hden _ _ _) (z C h₄ S₄).1 (z C h₄ S₄).2⟩
 ·refine codeAny_mono (z.2 A d₄ tk₄ r) fun rr s' q => ?_
  cases rr with
  | error e => exact q.elim
  | ok f =>
   obtain ⟨q1, q2, q⟩ := q
   obtain ⟨h5, g5, d5, t5, o5⟩ := s'
   obtain rfl := q1
   obtain rfl := q2
   cases use with
   | none =>
    obtain ⟨g', l', m, S', k⟩ := q
    refine ⟨_, isNs.ns (S'.get .here), fun h₆ hb => ⟨rfl, rfl, k _ ?_⟩⟩
    exact S'.drop1 fun b o nb e => hb.extBut b o (fun q => nb (List.mem_singleton.mpr q)) e
   | some u =>
    refine Ok.use (P := fun u_ h₆ => FinN c (P .none) cenv.locals h₆) q r fun u_ h₆ d₆ t₆ z => ?_
    obtain ⟨g', l', m, S', k⟩ := z
    refine ⟨_, isNs.ns (S'.get .here), fun h₇ hb => ⟨rfl, rfl, k _ ?_⟩⟩
    exact S'.drop1 fun b o nb e => hb.extBut b o (fun q => nb (List.mem_singleton.mpr q)) e
theorem ok_compU {e : PySem.Expr} {use : Option (Value → Sem Unit)} {scope : Scope} {pos : Pos} {newAcc first : Sem Value} {G : Comprehension} {gs : List Comprehension} {cl : List (Str × Addr)} {P : VP}
  (hcl : clausesOf e = G :: gs) (h0 : G.is_async = 0) (hs : ∀ x, foldedSetIterable G.iter env x = pure x) (hclos : closureFor scope env = pure cl) (hkind : scope.kind = .function)
  (hu : ∀ (it acc : Value) (env : Env) (A : Around), A.under (.compStart e 0 it acc env) = A)
  (hden : ∀ it acc env, c.M.den (.compStart e 0 it acc env) = (compStart e 0 it acc env).onRaise (fun x => do noteFrame x env; standAt theWindowsPlace))
  (hnames : scope.names.all (fun x => x.2 != .cell && (x.2 != .local || scope.names.lookup x.1 == some .local)) = true) (nd : ((localsOf scope).map (·.1)).Nodup)
  (x : Ok c n first (fun x h₁ => Ok c n (pyIter x) (fun it h₂ => Ok c n newAcc (fun acc h₃ => ∃ g l, St c g h₃ l ∧ ∀ C h₄, St c g h₄ ((C, isNs (localsOf scope)) :: l) →
   (Ok c n (pyIter it) (fun it' h' => it' = it ∧ h' = h₄) h₄ ∧ OkC c n (.compLoop e 0 it acc (compEnvC scope cl C env)) (fun u_ h₅ => FinU c n use P acc C h₅) h₄)) h₂) h₁) h) :
  Ok c n (comprehension e scope env pos newAcc false first use) P h := by
 have hn1 : ∀ x ∈ scope.names, x.2 ≠ .cell := fun x hx => by have := List.all_eq_true.mp hnames x hx; simp -iota at this; exact this.1
 refine ok_compUX hcl h0 hs hclos hkind hu hden (List.all_eq_true.mpr fun x hx => (Bool.and_eq_true_iff.mp (List.all_eq_true.mp hnames x hx)).2) nd (x.mono fun u_ u_ z => z.mono fun u_ u_ z => z.mono fun acc h₃ z => ?_)
 obtain ⟨g, l, S, z⟩ := z
 refine ⟨g, l, S, fun C h₄ S₄ => ?_⟩
 rw [cellLed_none _ _ _ hn1] at S₄
 rw [cellsFrom_none _ _ _ hn1]
 exact z C h₄ S₄
end
section
variable {c : Cx} {n : Nat} {g h : Heap} {l l' : Led} {it a : Addr} {vs : List Value} {v : Value}
theorem ok_ListCompU {env : Env} {use : Option (Value → Sem Unit)} {elt target iter : PySem.Expr} {ifs : List PySem.Expr} {rest : List Comprehension} {scope : Scope} {pos : Pos} {cl : List (Str × Addr)} {P : VP} (xs : List Str)
  (hs : ∀ x, foldedSetIterable iter env x = pure x) (hclos : closureFor scope env = pure cl) (hkind : scope.kind = .function)
  (hnames : scope.names.all (fun x => x.2 != .cell && (x.2 != .local || scope.names.lookup x.1 == some .local)) = true) (hloc : localsOf scope = xs.map fun k => (k, none)) (nd : xs.Nodup)
  (x : Ok c n (eval iter env) (fun x h₁ => Ok c n (pyIter x) (fun it h₂ => ∃ g l, St c g h₂ l ∧ ∀ D C h₄, St c g h₄ ((C, isNs (xs.map fun k => (k, none))) :: (D, isList []) :: l) →
   (Ok c n (pyIter it) (fun it' h' => it' = it ∧ h' = h₄) h₄ ∧ OkC c n (.compLoop (.ListComp elt (⟨target, iter, ifs, 0⟩ :: rest) scope pos) 0 it (.ref D) (compEnvC scope cl C env)) (fun u_ h₅ => FinU c n use P (.ref D) C h₅) h₄)) h₁) h) :
  Ok c n (comprehension (.ListComp elt (⟨target, iter, ifs, 0⟩ :: rest) scope pos) scope env (firstIterPos (⟨target, iter, ifs, 0⟩ :: rest) pos) (newList []) false (eval iter env) use) P h := by
 refine ok_compU rfl rfl hs hclos hkind (fun u_ u_ u_ u_ => rfl) (fun u_ u_ u_ => rfl) hnames (by rw [hloc]; simpa -iota [Function.comp_def] using nd) (x.mono fun v h₁ z => z.mono fun it h₂ q1_ => ?_)
 obtain ⟨g, l, S, z⟩ := q1_
 refine ok_newList S (by simp -iota) fun D h₃ S₃ => ⟨g, _, S₃, fun C h₄ S₄ => ?_⟩
 rw [hloc] at S₄
 exact z D C h₄ S₄
theorem ok_DictCompU {env : Env} {use : Option (Value → Sem Unit)} {kx vx target iter : PySem.Expr} {ifs : List PySem.Expr} {rest : List Comprehension} {scope : Scope} {pos : Pos} {cl : List (Str × Addr)} {P : VP} (xs : List Str)
  (hs : ∀ x, foldedSetIterable iter env x = pure x) (hclos : closureFor scope env = pure cl) (hkind : scope.kind = .function)
  (hnames : scope.names.all (fun x => x.2 != .cell && (x.2 != .local || scope.names.lookup x.1 == some .local)) = true) (hloc : localsOf scope = xs.map fun k => (k, none)) (nd : xs.Nodup)
  (x : Ok c n (eval iter env) (fun x h₁ => Ok c n (pyIter x) (fun it h₂ => Ok c n newDict (fun D h₃ => ∃ g l, St c g h₃ l ∧ ∀ C h₄, St c g h₄ ((C, isNs (xs.map fun k => (k, none))) :: l) →
   (Ok c n (pyIter it) (fun it' h' => it' = it ∧ h' = h₄) h₄ ∧ OkC c n (.compLoop (.DictComp kx vx (⟨target, iter, ifs, 0⟩ :: rest) scope pos) 0 it D (compEnvC scope cl C env)) (fun u_ h₅ => FinU c n use P D C h₅) h₄)) h₂) h₁) h) :
  Ok c n (comprehension (.DictComp kx vx (⟨target, iter, ifs, 0⟩ :: rest) scope pos) scope env (firstIterPos (⟨target, iter, ifs, 0⟩ :: rest) pos) newDict false (eval iter env) use) P h := by
 refine ok_compU rfl rfl hs hclos hkind (fun u_ u_ u_ u_ => rfl) (fun u_ u_ u_ => rfl) hnames (by rw [hloc]; simpa -iota [Function.comp_def] using nd) (x.mono fun v h₁ z => z.mono fun it h₂ z => z.mono fun D h₃ z => ?_)
 obtain ⟨g, l, S, z⟩ := z
 refine ⟨g, l, S, fun C h₄ S₄ => ?_⟩
 rw [hloc] at S₄
 exact z C h₄ S₄
end
section
variable {c : Cx} {n : Nat} {g h : Heap} {l l' : Led} {it a t : Addr} {vs : List AV} {v : Value} {av : AV} {env : Env}
inductive CuVal (c : Cx) (xs : List Str) (C D it : Addr) (ys : List AV) (Wi : Obj → Prop) (inv : List AV → Heap → Led → Prop) (v : Value) (h : Heap) : Prop
 | mk (g' : Heap) (l' : Led) (m' : AM) (av' : AV) (hm : m'.map (·.1) = xs) (rv : av'.rep v) (S : St c g' h ((C, isFr m') :: (D, isL ys) :: (it, Wi) :: l')) (iv : inv (ys ++ [av']) g' l') : CuVal c xs C D it ys Wi inv v h
inductive CuNo (c : Cx) (xs : List Str) (C D it : Addr) (ys : List AV) (Wi : Obj → Prop) (inv : List AV → Heap → Led → Prop) (h : Heap) : Prop
 | mk (g' : Heap) (l' : Led) (m' : AM) (hm : m'.map (·.1) = xs) (S : St c g' h ((C, isFr m') :: (D, isL ys) :: (it, Wi) :: l')) (iv : inv ys g' l') : CuNo c xs C D it ys Wi inv h
noncomputable abbrev kCu (c : Cx) (n : Nat) (elt : PySem.Expr) (env : Env) (xs : List Str) (C D it : Addr) (ys : List AV) (Wi : Obj → Prop) (inv : List AV → Heap → Led → Prop) : Bool → Heap → Prop := fun b h =>
 (b = true → Ok c n (eval elt env) (CuVal c xs C D it ys Wi inv) h) ∧ (b = false → CuNo c xs C D it ys Wi inv h)
inductive CuGo (c : Cx) (n : Nat) (env : Env) (elt target : PySem.Expr) (ifs : List PySem.Expr) (scope : Scope) (cl : List (Str × Addr)) (xs : List Str) (use : Option (Value → Sem Unit)) (P : VP) (itv : Value) (h₂ : Heap) : Prop
 | mk (g : Heap) (it : Addr) (W : Nat → Obj → Prop) (items : List AV) (need : Heap → Prop) (l : Led) (e : itv = .ref it) (src : SrcA c it W items need) (hN : items.length ≤ 1000000) (S : St c g h₂ ((it, W 0) :: l))
   (inv : Nat → List AV → Heap → Led → Prop) (i0 : inv 0 [] g l)
   (hneed : ∀ i ys g h C D m W' l, inv i ys g l → St c g h ((C, isFr m) :: (D, isL ys) :: (it, W') :: l) → need h)
   (step : ∀ i ys g h C D m l av v, items[i]? = some av → inv i ys g l → av.rep v → ys.length ≤ i → m.map (·.1) = xs → St c g h ((C, isFr m) :: (D, isL ys) :: (it, W (i + 1)) :: l) →
    Ok c n (assign target (compEnvC scope cl C env) v) (kTests c n ifs (compEnvC scope cl C env) (kCu c n elt (compEnvC scope cl C env) xs C D it ys (W (i + 1)) (inv (i + 1)))) h)
   (fin : ∀ g D C m ys h l, inv items.length ys g l → ys.length ≤ items.length → St c g h ((C, isNs m) :: (D, isL ys) :: l) → FinU c n use P (.ref D) C h) : CuGo c n env elt target ifs scope cl xs use P itv h₂
inductive CuJ (c : Cx) (xs : List Str) (C D it : Addr) (W : Nat → Obj → Prop) (inv : Nat → List AV → Heap → Led → Prop) (i : Nat) (h : Heap) : Prop
 | mk (ys : List AV) (m : AM) (g : Heap) (l : Led) (iv : inv i ys g l) (hy : ys.length ≤ i) (hm : m.map (·.1) = xs) (S : St c g h ((C, isFr m) :: (D, isL ys) :: (it, W i) :: l)) : CuJ c xs C D it W inv i h
theorem St.toNs {C : Addr} {m : AM} {r : Led} (S : St c g h ((C, isFr m) :: r)) : ∃ m', St c g h ((C, isNs m') :: r) := by
 obtain ⟨o, ho, m', x, q⟩ := S.get .here
 exact ⟨m', S.upd .here (Heap.SameBut.refl ..) ⟨o, ho, q⟩⟩
theorem ok_compAU {use : Option (Value → Sem Unit)} {elt target iter : PySem.Expr} {ifs : List PySem.Expr} {scope : Scope} {pos : Pos} {cl : List (Str × Addr)} {P : VP} (xs : List Str)
  (hs : ∀ x, foldedSetIterable iter env x = pure x) (hclos : closureFor scope env = pure cl) (hkind : scope.kind = .function)
  (hnames : scope.names.all (fun x => x.2 != .cell && (x.2 != .local || scope.names.lookup x.1 == some .local)) = true) (hloc : localsOf scope = xs.map fun k => (k, none)) (nd : xs.Nodup)
  (x : Ok c n (eval iter env) (kIter c n (CuGo c n env elt target ifs scope cl xs use P)) h) :
  Ok c n (comprehension (.ListComp elt [⟨target, iter, ifs, 0⟩] scope pos) scope env (firstIterPos [⟨target, iter, ifs, 0⟩] pos) (newList []) false (eval iter env) use) P h := by
 refine ok_ListCompU xs hs hclos hkind hnames hloc nd (x.mono fun v h₁ z => z.mono fun itv h₂ z => ?_)
 obtain ⟨g, it, W, items, need, l, rfl, src, hN, S, inv, i0, hneed, step, fin⟩ := z
 refine ⟨g, _, S, fun D C h₄ S₄ => ?_⟩
 have S₄ : St c g h₄ ((C, isFr (xs.map fun k => (k, none))) :: (D, isL []) :: (it, W 0) :: l) := (S₄.weak (.i1) (P' := isL []) fun o q => ⟨[], trivial, q⟩).toFr
 refine ⟨src.self S₄ (hneed _ _ _ _ _ _ _ _ _ i0 S₄) (.i2) ⟨rfl, rfl⟩, ?_⟩
 refine okC_compL (d := 0) (target := target) (iter := iter) (ifs := ifs) rfl rfl items.length (CuJ c xs C D it W inv) ?_ ⟨[], _, g, l, i0, Nat.le_refl _, by simp -iota [Function.comp_def], S₄⟩
 rintro i T hT h hi ⟨ys, m, g, l, iv, hy, hm, S⟩
 rcases Nat.lt_or_ge i items.length with hlt | hge
 ·refine src.next S (hneed _ _ _ _ _ _ _ _ _ iv S) (List.getElem?_eq_getElem hlt) (.i2) fun h' S => fun v rv => ?_
  refine src.owned S (.i2) ?_
  refine (step i ys g h' C D m l _ v (List.getElem?_eq_getElem hlt) iv rv hy hm S).mono fun u_ h z => z.mono fun b h z => ⟨fun e => (z.1 e).mono fun v h q1_ => ?_, fun e => ?_⟩
  obtain ⟨g', l', m', av', hm', rv, S, iv⟩ := q1_
  ·exact ok_appendA S (.i1) rv (Nat.le_trans hy (Nat.le_trans hi hN)) fun h S => hT _ hlt ⟨ys ++ [av'], m', g', l', iv, by rw [List.length_append]; exact Nat.succ_le_succ hy, hm', S⟩
  ·obtain ⟨g', l', m', hm', S, iv⟩ := z.2 e
   exact hT _ hlt ⟨ys, m', g', l', iv, Nat.le_succ_of_le hy, hm', S⟩
 ·obtain rfl : i = items.length := Nat.le_antisymm hi hge
  refine src.done S (hneed _ _ _ _ _ _ _ _ _ iv S) (.i2) fun h S => ?_
  obtain ⟨m', S'⟩ := S.toNs
  exact fin g D C m' ys h l iv hy S'
inductive FmVal (c : Cx) (g : Heap) (xs : List Str) (av' : AV) (C : Addr) (r : Led) (v : Value) (h : Heap) : Prop
 | mk (m' : AM) (hm : m'.map (·.1) = xs) (rv : av'.rep v) (S : St c g h ((C, isFr m') :: r)) : FmVal c g xs av' C r v h
inductive FmNo (c : Cx) (g : Heap) (xs : List Str) (Fi : Option AV) (C : Addr) (r : Led) (h : Heap) : Prop
 | mk (hF : Fi = none) (m' : AM) (hm : m'.map (·.1) = xs) (S : St c g h ((C, isFr m') :: r)) : FmNo c g xs Fi C r h
noncomputable abbrev kFm (c : Cx) (n : Nat) (g : Heap) (elt : PySem.Expr) (env : Env) (xs : List Str) (Fi : Option AV) (C : Addr) (r : Led) : Bool → Heap → Prop := fun b h =>
 (b = true → ∃ av', Fi = some av' ∧ Ok c n (eval elt env) (FmVal c g xs av' C r) h) ∧ (b = false → FmNo c g xs Fi C r h)
noncomputable abbrev finP (c : Cx) (P : VP) : Heap → Led → List AV → Prop := fun g l ys => ∀ D h, St c g h ((D, isL ys) :: l) → P (.ref D) h
noncomputable abbrev finQ (c : Cx) (n : Nat) (use : Option (Value → Sem Unit)) (P : VP) : Heap → Led → List AV → Prop := fun g l ys => FinL c n g use P (isL ys) l
inductive FmGo (c : Cx) (n : Nat) (env : Env) (elt target : PySem.Expr) (ifs : List PySem.Expr) (scope : Scope) (cl : List (Str × Addr)) (xs : List Str) (fin : Heap → Led → List AV → Prop) (itv : Value) (h₂ : Heap) : Prop
 | mk (g : Heap) (it : Addr) (W : Nat → Obj → Prop) (items : List AV) (need : Heap → Prop) (l : Led) (e : itv = .ref it) (src : SrcA c it W items need) (hN : items.length ≤ 1000000) (S : St c g h₂ ((it, W 0) :: l))
   (hneed : ∀ h l', St c g h (l' ++ l) → need h) (F : Nat → Option AV)
   (step : ∀ i C D ys m h av v, items[i]? = some av → av.rep v → m.map (·.1) = xs → St c g h ((C, isFr m) :: (D, isL ys) :: (it, W (i + 1)) :: l) →
    Ok c n (assign target (compEnvC scope cl C env) v) (kTests c n ifs (compEnvC scope cl C env) (kFm c n g elt (compEnvC scope cl C env) xs (F i) C ((D, isL ys) :: (it, W (i + 1)) :: l))) h)
   (z : fin g l ((List.range items.length).filterMap F)) : FmGo c n env elt target ifs scope cl xs fin itv h₂
theorem ok_fmapIU {use : Option (Value → Sem Unit)} {elt target iter : PySem.Expr} {ifs : List PySem.Expr} {scope : Scope} {pos : Pos} {cl : List (Str × Addr)} {P : VP} (xs : List Str)
  (hs : ∀ x, foldedSetIterable iter env x = pure x) (hclos : closureFor scope env = pure cl) (hkind : scope.kind = .function)
  (hnames : scope.names.all (fun x => x.2 != .cell && (x.2 != .local || scope.names.lookup x.1 == some .local)) = true) (hloc : localsOf scope = xs.map fun k => (k, none)) (nd : xs.Nodup)
  (x : Ok c n (eval iter env) (kIter c n (FmGo c n env elt target ifs scope cl xs (finQ c n use P))) h) :
  Ok c n (comprehension (.ListComp elt [⟨target, iter, ifs, 0⟩] scope pos) scope env (firstIterPos [⟨target, iter, ifs, 0⟩] pos) (newList []) false (eval iter env) use) P h := by
 refine ok_compAU xs hs hclos hkind hnames hloc nd (x.mono fun v h₁ z => z.mono fun itv h₂ z => ?_)
 obtain ⟨g, it, W, items, need, l, rfl, src, hN, S, hneed, F, step, fin⟩ := z
 refine ⟨g, it, W, items, need, l, rfl, src, hN, S, fun i ys g' l' => g' = g ∧ l' = l ∧ ys = (List.range i).filterMap F, ⟨rfl, rfl, by simp⟩, ?_, ?_, ?_⟩
 ·rintro i ys g' h C D m W' l' ⟨rfl, rfl, _⟩ S
  exact hneed h [(C, isFr m), (D, isL ys), (it, W')] S
 ·rintro i ys g' h C D m l' av v hi ⟨rfl, rfl, rfl⟩ rv hy hm S
  refine (step i C D _ m h av v hi rv hm S).mono fun u_ h z => z.mono fun b h z => ⟨fun e => ?_, fun e => ?_⟩
  ·obtain ⟨av', hF, z⟩ := z.1 e
   refine z.mono fun v h z => ?_
   obtain ⟨m', hm', rv', S⟩ := z
   refine ⟨_, _, m', av', hm', rv', S, rfl, rfl, ?_⟩
   rw [List.range_succ, List.filterMap_append]; simp -iota [hF]
  ·obtain ⟨hF, m', hm', S⟩ := z.2 e
   refine ⟨_, _, m', hm', S, rfl, rfl, ?_⟩
   rw [List.range_succ, List.filterMap_append]; simp -iota [hF]
 ·rintro g' D C m ys h l' ⟨rfl, rfl, rfl⟩ hy S
  exact fin D C m h S
theorem FinL.of {W : Obj → Prop} {P : VP} (z : ∀ D h, St c g h ((D, W) :: l) → P (.ref D) h) : FinL c n g none P W l := fun D C m h S => ⟨g, _, m, S, fun h₆ S => z D h₆ S⟩
theorem ok_fmapI {elt target iter : PySem.Expr} {ifs : List PySem.Expr} {scope : Scope} {pos : Pos} {cl : List (Str × Addr)} {P : VP} (xs : List Str)
  (hs : ∀ x, foldedSetIterable iter env x = pure x) (hclos : closureFor scope env = pure cl) (hkind : scope.kind = .function)
  (hnames : scope.names.all (fun x => x.2 != .cell && (x.2 != .local || scope.names.lookup x.1 == some .local)) = true) (hloc : localsOf scope = xs.map fun k => (k, none)) (nd : xs.Nodup)
  (x : Ok c n (eval iter env) (kIter c n (FmGo c n env elt target ifs scope cl xs (finP c P))) h) :
  Ok c n (eval (.ListComp elt [⟨target, iter, ifs, 0⟩] scope pos) env) P h :=
 ok_fmapIU (use := none) xs hs hclos hkind hnames hloc nd (x.mono fun v h₁ z => z.mono fun itv h₂ q1_ => (by obtain ⟨g, it, W, items, need, l, e, src, hN, S, hneed, F, step, fin⟩ := q1_; exact
  ⟨g, it, W, items, need, l, e, src, hN, S, hneed, F, step, FinL.of fin⟩))
inductive M1Go (c : Cx) (n : Nat) (env : Env) (elt : PySem.Expr) (scope : Scope) (cl : List (Str × Addr)) (x0 x : Str) (P : VP) (itv : Value) (h₂ : Heap) : Prop
 | mk (g : Heap) (it : Addr) (W : Nat → Obj → Prop) (items : List AV) (need : Heap → Prop) (l : Led) (e : itv = .ref it) (src : SrcA c it W items need) (hN : items.length ≤ 1000000) (S : St c g h₂ ((it, W 0) :: l))
   (hneed : ∀ h l', St c g h (l' ++ l) → need h) (f : AV → AV)
   (step : ∀ i C D ys o h av v, items[i]? = some av → av.rep v → St c g h ((C, isFr [(x0, o), (x, some av)]) :: (D, isL ys) :: (it, W (i + 1)) :: l) →
    Ok c n (eval elt (compEnvC scope cl C env)) (fun v h => (f av).rep v ∧ St c g h ((C, isFr [(x0, o), (x, some av)]) :: (D, isL ys) :: (it, W (i + 1)) :: l)) h)
   (fin : ∀ D h, St c g h ((D, isL (items.map f)) :: l) → P (.ref D) h) : M1Go c n env elt scope cl x0 x P itv h₂
theorem range_map' {α β : Type} (f : α → β) (xs : List α) : (List.range xs.length).filterMap (fun i => (xs[i]?).bind fun a => some (f a)) = xs.map f := by
 rw [range_fmap]
 induction xs with
 | nil => rfl
 | cons a r ih => rw [List.filterMap_cons, List.map_cons, ih]
theorem ok_map1 {elt iter : PySem.Expr} {scope : Scope} {pos tpos : Pos} {cl : List (Str × Addr)} {P : VP} (x0 x : Str)
  (hs : ∀ x, foldedSetIterable iter env x = pure x) (hclos : closureFor scope env = pure cl) (hkind : scope.kind = .function)
  (hnames : scope.names.all (fun x => x.2 != .cell && (x.2 != .local || scope.names.lookup x.1 == some .local)) = true) (hloc : localsOf scope = [(x0, none), (x, none)]) (hkx : ∀ C, (compEnvC scope cl C env).kindOf x = some .local) (nd : x0 ≠ x)
  (z : Ok c n (eval iter env) (kIter c n (M1Go c n env elt scope cl x0 x P)) h) :
  Ok c n (eval (.ListComp elt [⟨.Name x tpos, iter, [], 0⟩] scope pos) env) P h := by
 refine ok_fmapI [x0, x] hs hclos hkind hnames hloc (by simp -iota [nd]) (z.mono fun v h₁ z => z.mono fun itv h₂ z => ?_)
 obtain ⟨g, it, W, items, need, l, rfl, src, hN, S, hneed, f, step, fin⟩ := z
 refine ⟨g, it, W, items, need, l, rfl, src, hN, S, hneed, fun i => (items[i]?).bind fun a => some (f a), ?_, ?_⟩
 ·rintro i C D ys m h av v hi rv hm S
  obtain ⟨o1, o2, rfl⟩ := shapeA2 hm
  refine ok_assign_Name (ok_stK' S hkind (hkx C) .here (.i1) rv fun h S => ok_tests_nil ⟨fun u_ => ⟨f av, by rw [hi]; rfl, (step i C D ys o1 h av v hi rv S).mono fun v h q1_ => (by obtain ⟨rv, S⟩ := q1_; exact ⟨_, rfl, rv, S⟩)⟩, fun e => by cases e⟩)
 ·intro D h S
  rw [range_map'] at S
  exact fin D h S
theorem ok_assignC {y : Str} {py : Pos} {fr fr' : AM} {D C L : Addr} {m : List (Str × Option Value)} {W : Obj → Prop} {P : VP} (S : St c g h ((C, isNs m) :: (D, W) :: l)) (hL : env.locals = L) (hk : env.scope.kind = .function) (hy : env.kindOf y = some .local)
  (U : Up l L (isFr fr) (isFr fr') l') (H : PutA fr y (.ref D) fr') (k : ∀ h, St c g h ((D, W) :: l') → P .none h) : FinU c n (some (assign (.Name y py) env)) P (.ref D) C h :=
 ok_assign_Name (ok_stA S hL hk hy (.there (.there U)) H rep_ref fun h' S' => ⟨g, _, m, S', fun h7 S7 => k h7 S7⟩)
theorem ok_x_comp {elt target iter : PySem.Expr} {ifs : List PySem.Expr} {gs : List Comprehension} {scope : Scope} {pos spos py : Pos} {y : Str} {rest : List Stmt} {P : Flow → Heap → Prop} (hsw : swapsWith (.ListComp elt (⟨target, iter, ifs, 0⟩ :: gs) scope pos) (some (.Name y py)) spos.line env = pure true)
  (z : Ok c n (comprehension (.ListComp elt (⟨target, iter, ifs, 0⟩ :: gs) scope pos) scope env (firstIterPos (⟨target, iter, ifs, 0⟩ :: gs) pos) (newList []) false (eval iter env) (some (assign (.Name y py) env))) (kRest rest env c n P) h) :
  Ok c n (exec (.Assign [.Name y py] (.ListComp elt (⟨target, iter, ifs, 0⟩ :: gs) scope pos) spos) env) (Then c n env rest P) h := by
 rw [exec_Assign_Name_used _ _ _ _ hsw]
 exact ok_bind (ok_standAt (ok_bind (ok_bind (t := comprehension _ _ _ _ _ _ _ _) (z.mono fun u_ h z => ok_pure (ok_pure z)))))
theorem ok_x_compD {kx vx target iter : PySem.Expr} {ifs : List PySem.Expr} {gs : List Comprehension} {scope : Scope} {pos spos py : Pos} {y : Str} {rest : List Stmt} {P : Flow → Heap → Prop} (hsw : swapsWith (.DictComp kx vx (⟨target, iter, ifs, 0⟩ :: gs) scope pos) (some (.Name y py)) spos.line env = pure true)
  (z : Ok c n (comprehension (.DictComp kx vx (⟨target, iter, ifs, 0⟩ :: gs) scope pos) scope env (firstIterPos (⟨target, iter, ifs, 0⟩ :: gs) pos) newDict false (eval iter env) (some (assign (.Name y py) env))) (kRest rest env c n P) h) :
  Ok c n (exec (.Assign [.Name y py] (.DictComp kx vx (⟨target, iter, ifs, 0⟩ :: gs) scope pos) spos) env) (Then c n env rest P) h := by
 rw [exec_Assign_Name_used _ _ _ _ hsw]
 exact ok_bind (ok_standAt (ok_bind (ok_bind (t := comprehension _ _ _ _ _ _ _ _) (z.mono fun u_ h z => ok_pure (ok_pure z)))))
end
section
variable {c : Cx} {n : Nat} {g h : Heap} {l l' : Led} {env : Env} {a b d it : Addr} {v u : Value} {av : AV} {vs ws : List AV} {t u' : Tok} {i j : Int}
theorem Reps.app {as bs : List AV} {us ws : List Value} (x : Reps as us) (y : Reps bs ws) : Reps (as ++ bs) (us ++ ws) := x.append y
theorem ok_addLA {P : VP} (S : St c g h l) (A1 : HO h a (isL vs)) (A2 : HO h b (isL ws)) (hz : vs.length + ws.length ≤ 1000000) (p : ∀ x h', St c g h' ((x, isL (vs ++ ws)) :: l) → P (.ref x) h') : Ok c n (binaryOp .Add (.ref a) (.ref b)) P h := by
 obtain ⟨o1, e1, us, r1, k1, rfl⟩ := A1
 obtain ⟨o2, e2, us2, r2, k2, rfl⟩ := A2
 have h1 := r1.len
 have h2 := r2.len
 intro A dr tk r
 refine PySem.P.add_list (s := c.at h dr tk) (items := us.toArray) (items2 := us2.toArray) e1 e2 ⟨rfl, rfl, p _ _ (S.push rfl ⟨us ++ us2, r1.app r2, 0, by simp⟩)⟩ (by rw [sizeLine_eq]; simp -iota; lia)
end
section
variable {c : Cx} {n : Nat} {g h : Heap} {l l' : Led} {env : Env} {a b d it : Addr} {v u : Value} {av : AV} {vs ws : List AV} {t u' : Tok} {i j : Int}
theorem fold_rep (us : List Value) : ∀ (N : Nat) (acc : Array Value), List.foldl (fun x1 x2 => x1 ++ x2) acc (List.replicate N us.toArray) = (acc.toList ++ (List.replicate N us).flatten).toArray
 | 0, acc => by simp -iota
 | N + 1, acc => by
  rw [List.replicate_succ, List.foldl_cons, fold_rep us N]
  simp -iota [List.replicate_succ]
theorem Reps.rep {us : List Value} (r : Reps vs us) : ∀ N, Reps (List.replicate N vs).flatten (List.replicate N us).flatten
 | 0 => trivial
 | N + 1 => by
  rw [List.replicate_succ, List.replicate_succ, List.flatten_cons, List.flatten_cons]
  exact r.app (Reps.rep r N)
set_option tactic.hygienic true in
theorem ok_mulLA {N : Nat} {P : VP} (S : St c g h l) (A1 : HO h a (isL vs)) (hN : N ≤ 1000) (hz : vs.length * N ≤ 1000000) (p : ∀ x h', St c g h' ((x, isL (List.replicate N vs).flatten) :: l) → P (.ref x) h') : Ok c n (binaryOp .Mult (.ref a) (.int (N : Int) t)) P h := by
 obtain ⟨o1, e1, us, r1, k1, rfl⟩ := A1
 have h1 := r1.len
 intro A dr tk r
 have e : (List.foldl (fun x1 x2 => x1 ++ x2) #[] (List.replicate (if us.toArray.isEmpty = true then 0 else (N : Int).toNat) us.toArray)) = ((List.replicate N us).flatten).toArray := by
  rw [fold_rep]
  split
  ·rename_i q
   have : us = [] := by simpa -iota using q
   subst this; simp -iota
  ·simp -iota
 have hp : us.toArray.size * (N : Int).toNat ≤ 1000000 := by rw [List.size_toArray, h1, Int.toNat_natCast]; exact hz
 have hi : (0 : Int) ≤ (N : Int) ∧ (N : Int) ≤ 1000 := by lia
 have r2 := r1.rep N
 generalize (List.replicate N us).flatten = us2 at r2 e
 generalize (N : Int) = x at e hp hi
 have f1 : ¬ (!Builtin.List.listFitsIndex x) = true := by
  unfold Builtin.List.listFitsIndex
  simp -iota; lia
 have f2 : ¬ Builtin.List.listTooLong (us.toArray.size * x.toNat) = true := by
  unfold Builtin.List.listTooLong
  rw [decide_eq_true_iff, sizeLine_eq]; lia
 have f3 : ¬ us.toArray.size * x.toNat > (2 ^ 63 - 1) / 8 := by lia
 refine wpAny_binaryOp_repeat_ref (s := c.at h dr tk) (T := "list") (U := "int") (by decide) ⟨_, e1, rfl⟩ (fun s' => typeIs_int s' x t) noFill_list_mul F.fills_int_mul F.slot_int_rmul repeat_list F.slot_int_index.lookup
  (call_meets F.slot_int_rmul (typeIs_int (c.at h dr tk) x t) F.entry_int_rmul (F.args_int_rmul_2 _ _) (int___rmul___int_list x t a us.toArray k1)
   ⟨e1, rfl, ⟨_, e1, rfl⟩, call_meets F.slot_list_mul ⟨_, e1, rfl⟩ F.entry_list_mul (F.args_list_mul_2 _ _)
    (AutoListH.list___mul___list_int_3 a us.toArray k1 x t f1 f3 f2)
    ⟨e1, ?_⟩⟩)
 rw [e]
 exact ⟨rfl, rfl, p _ _ (S.push rfl ⟨_, r2, 0, rfl⟩)⟩
end
section
variable {c : Cx} {n : Nat} {g h : Heap} {l l' : Led} {env : Env} {a b d it : Addr} {v u : Value} {av : AV} {vs ws : List AV} {t u' : Tok} {i j : Int}
theorem seq_list_iadd : seqSlot? (.type "list") (dunderI "add") = pure (some (.builtin "list.__iadd__")) := PySem.seqSlot_of PySem.F.slot_list_iadd.lookup (by decide +kernel)
theorem fills_list_iadd : fillsInplaceSlot (.type "list") "add" (Operator.Add == .Add) = pure false := by
 unfold fillsInplaceSlot
 show (typeLookup (.type "list") (dunderI "add") >>= fun fi => pure (fi.isSome && !isSeqSlot fi)) = pure false
 rw [PySem.F.slot_list_iadd.lookup]
 rw [pure_bind]
 have : (Option.isSome (some (Value.builtin "list.__iadd__")) && !isSeqSlot (some (.builtin "list.__iadd__"))) = false := by decide +kernel
 rw [this]
theorem ok_iaddLA {P : VP} (S : St c g h l) (U : Up l a (isL vs) (isL (vs ++ ws)) l') (A2 : HO h b (isL ws)) (hz : vs.length + ws.length ≤ 1000000) (p : ∀ h', St c g h' l' → P (.ref a) h') : Ok c n (inplaceOp .Add (.ref a) (.ref b)) P h := by
 obtain ⟨o1, e1, us, r1, k1, rfl⟩ := S.at_ _ U.mem
 obtain ⟨o2, e2, us2, r2, k2, rfl⟩ := A2
 have h1 := r1.len
 have h2 := r2.len
 have f1 : ¬ (!us.toArray.isEmpty && Builtin.List.listTooLong (us.toArray.size + us2.toArray.size)) = true := by
  rw [Bool.and_eq_true]
  rintro ⟨_, q⟩
  unfold Builtin.List.listTooLong at q
  rw [decide_eq_true_iff, sizeLine_eq, List.size_toArray, List.size_toArray] at q; lia
 intro A dr tk r
 unfold inplaceOp
 refine wpAny_holding ?_
 have ta : (c.at h dr tk).TypeIs (.ref a) "list" := ⟨_, e1, rfl⟩
 have tb : (c.at h dr tk).TypeIs (.ref b) "list" := ⟨_, e2, rfl⟩
 refine wpAny_bind (wpAny_typeOf ta (wpAny_bind (wpAny_of_eq fills_list_iadd ?_)))
 show wpAny _ A (if false = true then _ else _) _ _ _
 rw [if_neg Bool.false_ne_true]
 refine wpAny_bind (wpAny_binaryOp1_none (nm := "add") ta tb noFill_list_add ?_)
 refine wpAny_bind (wpAny_of_eq seq_list_iadd ?_)
 refine wpAny_bind (wpAny_rule (call_meets (s := c.at h dr tk) PySem.F.slot_list_iadd ta PySem.F.entry_list_iadd (PySem.F.args_list_iadd_2 _ _)
  (AutoSeq1.list___iadd___list_list_0 a us.toArray k1 b us2.toArray k2 f1 (by rw [sizeLine_eq]; simp -iota; lia) (by rw [sizeLine_eq]; simp -iota; lia)) ⟨e1, e2, ?_⟩))
 -- what the call gives
 show c.Q P _ _
 refine ⟨rfl, rfl, p _ ?_⟩
 refine S.upd U (Heap.SameBut.update ..) ⟨_, Heap.get?_update_self _ e1 rfl, us ++ us2, r1.app r2, ?_⟩
 exact isList.map (by simp -iota)
end
section
variable {c : Cx} {n : Nat} {g h : Heap} {l l' : Led} {env : Env} {a b d it : Addr} {v u : Value} {av : AV} {vs ws : List AV} {t u' : Tok} {i j : Int}
set_option tactic.hygienic true in
theorem small_div (i : Int) {j : Int} (h : j.natAbs < 2 ^ 64) : Builtin.divisionGoesByPylong i j = false := by
 unfold Builtin.divisionGoesByPylong
 rw [Bool.and_eq_false_iff]
 left
 rw [decide_eq_false_iff_not]
 show ¬ (if j == 0 then 0 else j.natAbs.log2 / 30 + 1) > 300
 split
 ·lia
 ·rename_i hne
  have h0 : j.natAbs ≠ 0 := by intro q; apply hne; simp -iota; lia
  have : j.natAbs.log2 < 64 := (Nat.log2_lt h0).mpr h
  lia
theorem ok_fdiv_int {P : VP} (hj : j ≠ 0) (hs : j.natAbs < 2 ^ 64) (p : ∀ t, P (.int (i.fdiv j) t) h) : Ok c n (binaryOp .FloorDiv (.int i t) (.int j u')) P h := fun A dr tk r => PyProof.Rows.floordiv_int (s := c.at h dr tk) hj ⟨rfl, rfl, p _⟩ (hp := .inl (small_div i hs))
theorem ok_pow_int {P : VP} (h0 : 0 ≤ j) (h1 : j ≤ 1000000) (ha : i.natAbs < 2 ^ 64) (p : ∀ t, P (.int (i ^ j.toNat) t) h) : Ok c n (binaryOp .Pow (.int i t) (.int j u')) P h := fun A dr tk r => PyProof.Rows.pow_int_small (s := c.at h dr tk) h0 h1 ha ⟨rfl, rfl, p _⟩
theorem ok_str_int {P : VP} (ha : i.natAbs.log2 < 1920) (p : ∀ t, P (.str (Str.ofString (toString i)) t) h) : Ok c n (call (.type "str") [.int i t]) P h := fun A dr tk r => PySem.P.str_of_int (s := c.at h dr tk) ha ⟨rfl, rfl, p _⟩
theorem ok_range2 {P : VP} (S : St c g h l) (p : ∀ a h', St c g h' ((a, isRange i j 1) :: l) → P (.ref a) h') : Ok c n (call (.type "range") [.int i t, .int j u']) P h :=
 fun A dr tk r => PySem.call_range_2 (s := c.at h dr tk) ⟨rfl, rfl, p _ _ (S.push rfl ⟨_, _, _, rfl⟩)⟩
theorem ok_range1 {P : VP} (S : St c g h l) (p : ∀ a h', St c g h' ((a, isRange 0 i 1) :: l) → P (.ref a) h') : Ok c n (call (.type "range") [.int i t]) P h :=
 fun A dr tk r => PySem.call_range_1 (s := c.at h dr tk) ⟨rfl, rfl, p _ _ (S.push rfl ⟨_, _, _, rfl⟩)⟩
end
section
variable {c : Cx} {n : Nat} {g h : Heap} {l l' : Led} {a b : Addr}
noncomputable def intAV (ns : List Int) : List AV := ns.map .int
theorem ints_are {ns : List Int} : ∀ {us : List Value}, Reps (intAV ns) us → IntsAre us ns := by
 induction ns with
 | nil => intro us h; cases us with
  | nil => exact .nil
  | cons v vs => exact h.elim
 | cons n ns ih => intro us h; cases us with
  | nil => exact h.elim
  | cons u us => obtain ⟨⟨t, rfl⟩, y⟩ := h; exact .cons n t (ih y)
theorem ok_maxL {ns : List Int} {P : VP} (S : St c g h l) (A1 : HO h a (isL (intAV ns))) (h0 : ns ≠ []) (p : ∀ M t h', M ∈ ns → (∀ x ∈ ns, x ≤ M) → St c g h' l → P (.int M t) h') : Ok c n (call (.builtin "max") [.ref a]) P h := by
 obtain ⟨us, r, hl⟩ := isL.is A1
 have hi := ints_are r
 obtain ⟨xs, e⟩ := hi.allInts.items
 have hns : ns = xs.toList.map (·.1) := by
  rw [← hi.numsOf, ← nums_intItems, ← e]
 have hsz : 0 < xs.size := by
  have h3 : 0 < ns.length := List.length_pos_iff.mpr h0
  rw [hns, List.length_map, Array.length_toList] at h3; exact h3
 rw [e] at hl
 intro A dr tk rm
 refine max_intList (s := c.at h dr tk) rm.hand hl hsz fun v h' tk hv hk => ?_
 obtain ⟨t, rfl⟩ := intItems_at hv
 obtain ⟨h1, h2⟩ := argBest_gt (numAt xs) (xs.size - 1)
 refine ⟨rfl, rfl, p _ t h' ?_ (fun a ha => ?_) (S.same0 fun b o u_ e => hk b o e)⟩
 ·rw [hns, numAt_eq]; exact getD_mem (by rw [List.length_map, Array.length_toList]; lia)
 ·rw [hns] at ha
  obtain ⟨j, hj, rfl⟩ := mem_getD ha
  rw [List.length_map, Array.length_toList] at hj
  rw [← numAt_eq]; exact h2 j (by lia)
end
section
variable {c : Cx} {n : Nat} {g h : Heap} {l l' : Led} {a : Addr}
theorem rangeSizeN (N : Nat) : Builtin.Range.rangeSize 0 (N : Int) 1 = N := by
 unfold Builtin.Range.rangeSize
 simp -iota
 try lia
theorem smallN {N : Nat} (h : N ≤ 1000000) : Builtin.Range.small 0 (N : Int) 1 = true := by
 have f : ∀ i : Int, 0 ≤ i → i ≤ 1000000 → Builtin.Range.rangeFitsLong i = true := fun i h0 h1 => by
  unfold Builtin.Range.rangeFitsLong
  simp -iota
  lia
 unfold Builtin.Range.small
 simp -iota
 rw [rangeSizeN]
 exact ⟨⟨⟨⟨f 0 (by decide) (by decide), f _ (by lia) (by lia)⟩, f 1 (by decide) (by decide)⟩, f _ (by lia) (by lia)⟩, .inr (f _ (by lia) (by lia))⟩
theorem ok_iter_rangeN {N : Nat} {P : VP} (S : St c g h l) (hr : HO h a (isRange 0 (N : Int) 1)) (hN : N ≤ 1000000) (p : ∀ it h', St c g h' ((it, isRI (0 + ((0 : Nat) : Int) * 1) ((N : Int) - ((0 : Nat) : Int)) 1) :: l) → P (.ref it) h') : Ok c n (pyIter (.ref a)) P h := by
 refine ok_iter_range S hr (smallN hN) fun it h' S => p it h' ?_
 rw [rangeSizeN] at S
 simpa -iota using S
theorem ints_get {x s : Int} {N i : Nat} {av : AV} (e : (intsOf x s N)[i]? = some av) : i < N ∧ av = .int (x + (i : Int) * s) := by
 simp -iota only [intsOf, List.getElem?_map, Option.map_eq_some_iff] at e
 obtain ⟨k, hk, rfl⟩ := e
 rw [List.getElem?_eq_some_iff] at hk
 obtain ⟨h1, h2⟩ := hk
 simp -iota at h1 h2
 exact ⟨h1, by rw [h2]⟩
theorem turn_ints {x s : Int} {N i : Nat} {G : Value → Prop} (k : ∀ t, i < N → G (.int (x + (i : Int) * s) t)) : ∀ (av : AV) (v : Value), (intsOf x s N)[i]? = some av → av.rep v → G v := fun av v e rv => by
 obtain ⟨hx, rfl⟩ := ints_get e; exact rep_eI rv fun t => k t hx
theorem ints_len (x s : Int) (N : Nat) : (intsOf x s N).length = N := by simp -iota [intsOf]
variable {x1 x2 x3 x4 x5 y1 y2 y3 : Addr × (Obj → Prop)}
theorem St.m23 (S : St c g h (x1 :: x2 :: y1 :: y2 :: y3 :: l)) : St c g h (y1 :: y2 :: y3 :: x1 :: x2 :: l) := S.perm ((List.perm_append_comm (l₁ := [y1, y2, y3]) (l₂ := [x1, x2])).append_right l)
theorem St.m32 (S : St c g h (y1 :: y2 :: y3 :: x1 :: x2 :: l)) : St c g h (x1 :: x2 :: y1 :: y2 :: y3 :: l) := S.perm ((List.perm_append_comm (l₁ := [x1, x2]) (l₂ := [y1, y2, y3])).append_right l)
theorem St.m33 (S : St c g h (x1 :: x2 :: x3 :: y1 :: y2 :: y3 :: l)) : St c g h (y1 :: y2 :: y3 :: x1 :: x2 :: x3 :: l) := S.perm ((List.perm_append_comm (l₁ := [y1, y2, y3]) (l₂ := [x1, x2, x3])).append_right l)
end
section
variable {c : Cx} {n : Nat} {g h : Heap} {l l' : Led} {env : Env} {a : Addr}
inductive DcVal (c : Cx) {K : Type} [DecidableEq K] [Keyed K] (xs : List Str) (C D it : Addr) (ys : DM K) (Wi : Obj → Prop) (inv : DM K → Heap → Led → Prop) (kv vv : Value) (h : Heap) : Prop
 | mk (g' : Heap) (l' : Led) (m' : AM) (k : K) (av' : AV) (hm : m'.map (·.1) = xs) (rk : (Keyed.av k).rep kv) (rv : av'.rep vv) (S : St c g' h ((C, isFr m') :: (D, isDic c ys) :: (it, Wi) :: l')) (iv : inv (putAt ys k av') g' l') : DcVal c xs C D it ys Wi inv kv vv h
inductive DcGo (c : Cx) (n : Nat) (K : Type) [DecidableEq K] [Keyed K] (env : Env) (kx vx target : PySem.Expr) (scope : Scope) (cl : List (Str × Addr)) (xs : List Str) (use : Option (Value → Sem Unit)) (P : VP) (itv : Value) (h₂ : Heap) : Prop
 | mk (g : Heap) (it : Addr) (W : Nat → Obj → Prop) (items : List AV) (need : Heap → Prop) (l : Led) (e : itv = .ref it) (src : SrcA c it W items need) (hN : items.length ≤ 1000000) (S : St c g h₂ ((it, W 0) :: l))
   (inv : Nat → DM K → Heap → Led → Prop) (i0 : inv 0 [] g l)
   (hneed : ∀ i ys g h C D m W' l, inv i ys g l → St c g h ((C, isFr m) :: (D, isDic c ys) :: (it, W') :: l) → need h)
   (step : ∀ i ys g h C D m l av v, items[i]? = some av → inv i ys g l → av.rep v → ys.length ≤ i → m.map (·.1) = xs → St c g h ((C, isFr m) :: (D, isDic c ys) :: (it, W (i + 1)) :: l) →
    Ok c n (assign target (compEnvC scope cl C env) v) (kEval c n kx (compEnvC scope cl C env) (kEval2 c n vx (compEnvC scope cl C env) (DcVal c xs C D it ys (W (i + 1)) (inv (i + 1))))) h)
   (fin : ∀ g D C m ys h l, inv items.length ys g l → St c g h ((C, isNs m) :: (D, isDic c ys) :: l) → FinU c n use P (.ref D) C h) : DcGo c n K env kx vx target scope cl xs use P itv h₂
inductive DcJ (c : Cx) {K : Type} [DecidableEq K] [Keyed K] (xs : List Str) (C D it : Addr) (W : Nat → Obj → Prop) (inv : Nat → DM K → Heap → Led → Prop) (i : Nat) (h : Heap) : Prop
 | mk (ys : DM K) (m : AM) (g : Heap) (l : Led) (iv : inv i ys g l) (hy : ys.length ≤ i) (hm : m.map (·.1) = xs) (S : St c g h ((C, isFr m) :: (D, isDic c ys) :: (it, W i) :: l)) : DcJ c xs C D it W inv i h
theorem putAt_len {K : Type} [DecidableEq K] (ys : DM K) (k : K) (a : AV) : (putAt ys k a).length ≤ ys.length + 1 := by
 unfold putAt
 split
 ·rw [List.length_map]; exact Nat.le_succ _
 ·rw [List.length_append]; exact Nat.le_refl _
theorem ok_dcompU (K : Type) [DecidableEq K] [Keyed K] {use : Option (Value → Sem Unit)} {kx vx target iter : PySem.Expr} {scope : Scope} {pos : Pos} {cl : List (Str × Addr)} {P : VP} (xs : List Str)
  (hs : ∀ x, foldedSetIterable iter env x = pure x) (hclos : closureFor scope env = pure cl) (hkind : scope.kind = .function)
  (hnames : scope.names.all (fun x => x.2 != .cell && (x.2 != .local || scope.names.lookup x.1 == some .local)) = true) (hloc : localsOf scope = xs.map fun k => (k, none)) (nd : xs.Nodup)
  (x : Ok c n (eval iter env) (kIter c n (DcGo c n K env kx vx target scope cl xs use P)) h) :
  Ok c n (comprehension (.DictComp kx vx [⟨target, iter, [], 0⟩] scope pos) scope env (firstIterPos [⟨target, iter, [], 0⟩] pos) newDict false (eval iter env) use) P h := by
 refine ok_DictCompU xs hs hclos hkind hnames hloc nd (x.mono fun v h₁ z => z.mono fun itv h₂ z => ?_)
 obtain ⟨g, it, W, items, need, l, rfl, src, hN, S, inv, i0, hneed, step, fin⟩ := z
 refine ok_newDictA (K := K) S fun D h₃ S₃ => ⟨g, _, S₃, fun C h₄ S₄ => ?_⟩
 have S₄ : St c g h₄ ((C, isFr (xs.map fun k => (k, none))) :: (D, isDic (K := K) c []) :: (it, W 0) :: l) := S₄.toFr
 refine ⟨src.self S₄ (hneed _ _ _ _ _ _ _ _ _ i0 S₄) (.i2) ⟨rfl, rfl⟩, ?_⟩
 refine okC_compD (d := 0) (target := target) (iter := iter) (ifs := []) rfl rfl items.length (DcJ c xs C D it W inv) ?_ ⟨[], _, g, l, i0, Nat.le_refl _, by simp -iota [Function.comp_def], S₄⟩
 rintro i T hT h hi ⟨ys, m, g, l, iv, hy, hm, S⟩
 rcases Nat.lt_or_ge i items.length with hlt | hge
 ·refine src.next S (hneed _ _ _ _ _ _ _ _ _ iv S) (List.getElem?_eq_getElem hlt) (.i2) fun h' S => fun v rv => ?_
  refine src.owned S (.i2) ?_
  refine (step i ys g h' C D m l _ v (List.getElem?_eq_getElem hlt) iv rv hy hm S).mono fun u_ h z => ok_tests_nil ⟨fun u_ => z.mono fun kv h z => z.mono fun vv h q1_ => ?_, fun e => by cases e⟩
  obtain ⟨g', l', m', kk, av', hm', rk, rv, S, iv⟩ := q1_
  exact ok_dictSetA S (.i1) rk rv (Nat.le_trans hy (Nat.le_trans hi hN)) fun h S => hT _ hlt ⟨putAt ys kk av', m', g', l', iv, Nat.le_trans (putAt_len ys kk av') (Nat.succ_le_succ hy), hm', S⟩
 ·obtain rfl : i = items.length := Nat.le_antisymm hi hge
  refine src.done S (hneed _ _ _ _ _ _ _ _ _ iv S) (.i2) fun h S => ?_
  obtain ⟨m', S'⟩ := S.toNs
  exact fin g D C m' ys h l iv S'
theorem range_fm_le {F : Nat → List AV} {B : Nat} (hB : ∀ i, (F i).length ≤ B) : ∀ i, ((List.range i).flatMap F).length ≤ i * B
 | 0 => by simp -iota
 | i + 1 => by
  have h1 := range_fm_le hB i
  have h2 := hB i
  have e : [i].flatMap F = F i := by simp -iota
  rw [List.range_succ, List.flatMap_append, List.length_append, Nat.succ_mul, e]
  lia
inductive C2Val (c : Cx) (g : Heap) (Q : AM → Prop) (Gj : AV) (C : Addr) (A : AM → Led) (v : Value) (h : Heap) : Prop
 | mk (m' : AM) (q : Q m') (rv : Gj.rep v) (S : St c g h (A m')) : C2Val c g Q Gj C A v h
inductive C2In (c : Cx) (n : Nat) (g : Heap) (elt target' : PySem.Expr) (cenv : Env) (xs : List Str) (Fi : List AV) (C D it : Addr) (ys : List AV) (Wi : Obj → Prop) (l : Led) (itv : Value) (h : Heap) : Prop
 | mk (it2 : Addr) (W2 : Nat → Obj → Prop) (items2 : List AV) (need2 : Heap → Prop) (ex : Led) (m1 : AM) (e : itv = .ref it2) (src2 : SrcA c it2 W2 items2 need2) (S : St c g h ((it2, W2 0) :: (C, isFr m1) :: (D, isL ys) :: (it, Wi) :: (ex ++ l)))
   (hneed2 : ∀ h l', St c g h (l' ++ (ex ++ l)) → need2 h) (Q : AM → Prop) (G : Nat → AV) (q1 : Q m1) (qx : ∀ m, Q m → m.map (·.1) = xs) (hF : Fi = (List.range items2.length).map G)
   (step2 : ∀ j ys m h av v, items2[j]? = some av → av.rep v → Q m → St c g h ((it2, W2 (j + 1)) :: (C, isFr m) :: (D, isL ys) :: (it, Wi) :: (ex ++ l)) →
     Ok c n (assign target' cenv v) (kEval c n elt cenv (C2Val c g Q (G j) C (fun m' => (it2, W2 (j + 1)) :: (C, isFr m') :: (D, isL ys) :: (it, Wi) :: (ex ++ l)))) h) : C2In c n g elt target' cenv xs Fi C D it ys Wi l itv h
inductive C2J (c : Cx) (g : Heap) (xs : List Str) (C D it : Addr) (W : Nat → Obj → Prop) (F : Nat → List AV) (l : Led) (i : Nat) (h : Heap) : Prop
 | mk (m : AM) (hm : m.map (·.1) = xs) (S : St c g h ((C, isFr m) :: (D, isL ((List.range i).flatMap F)) :: (it, W i) :: l)) : C2J c g xs C D it W F l i h
inductive C2J2 (c : Cx) (g : Heap) (Q : AM → Prop) (C : Addr) (p : Addr × Addr) (W2 : Nat → Obj → Prop) (ys : List AV) (G : Nat → AV) (l : Led) (j : Nat) (h : Heap) : Prop
 | mk (m : AM) (qm : Q m) (S : St c g h ((p.2, W2 j) :: (C, isFr m) :: (p.1, isL (ys ++ (List.range j).map G)) :: l)) : C2J2 c g Q C p W2 ys G l j h
theorem ok_loop2 {elt target iter target' iter' : PySem.Expr} {scope : Scope} {pos : Pos} {cenv : Env} {C D it : Addr} {W : Nat → Obj → Prop} {items : List AV} {need : Heap → Prop} {xs : List Str} {B : Nat}
  (hs : ∀ x, foldedSetIterable iter' cenv x = pure x)
  (src : SrcA c it W items need) (hneed : ∀ h l', St c g h (l' ++ l) → need h) (F : Nat → List AV) (hB : ∀ i, (F i).length ≤ B) (hN : items.length * B ≤ 1000000)
  (step : ∀ i ys m h av v, items[i]? = some av → av.rep v → m.map (·.1) = xs → St c g h ((C, isFr m) :: (D, isL ys) :: (it, W (i + 1)) :: l) →
   Ok c n (assign target cenv v) (kEval c n iter' cenv (kIter c n (C2In c n g elt target' cenv xs (F i) C D it ys (W (i + 1)) l))) h)
  {m0 : AM} (hm0 : m0.map (·.1) = xs) (S : St c g h ((C, isFr m0) :: (D, isL []) :: (it, W 0) :: l)) :
  OkC c n (.compLoop (.ListComp elt [⟨target, iter, [], 0⟩, ⟨target', iter', [], 0⟩] scope pos) 0 (.ref it) (.ref D) cenv) (fun u_ h => ∃ m, m.map (·.1) = xs ∧ St c g h ((C, isFr m) :: (D, isL ((List.range items.length).flatMap F)) :: l)) h := by
 refine okC_compM (d := 0) (target := target) (iter := iter) (ifs := []) (target' := target') (iter' := iter') (ifs' := []) rfl rfl hs items.length (C2J c g xs C D it W F l) ?_ ⟨m0, hm0, S⟩
 rintro i T hT h hi ⟨m, hm, S⟩
 have hnd : need h := hneed h [(C, isFr m), (D, isL _), (it, W i)] S
 rcases Nat.lt_or_ge i items.length with hlt | hge
 ·refine src.next S hnd (List.getElem?_eq_getElem hlt) (.i2) fun h' S => fun v rv => ?_
  refine src.owned S (.i2) ?_
  have hyi1 : ((List.range i).flatMap F).length + (F i).length ≤ 1000000 := by
   have h1 := range_fm_le hB i
   have h2 := hB i
   have h3 : (i + 1) * B ≤ items.length * B := Nat.mul_le_mul_right _ hlt
   rw [Nat.succ_mul] at h3
   lia
  have e1 : (List.range (i + 1)).flatMap F = (List.range i).flatMap F ++ F i := by rw [List.range_succ, List.flatMap_append]; simp -iota
  have hT : ∀ h m, m.map (·.1) = xs → St c g h ((C, isFr m) :: (D, isL ((List.range i).flatMap F ++ F i)) :: (it, W (i + 1)) :: l) → T h := fun h m hm S => hT h hlt ⟨m, hm, by rw [e1]; exact S⟩
  generalize (List.range i).flatMap F = ys at S hT hyi1
  refine (step i ys m h' _ v (List.getElem?_eq_getElem hlt) rv hm S).mono fun u_ h z => ok_tests_nil ⟨fun u_ => z.mono fun x h z => z.mono fun itv h z => ?_, fun e => by cases e⟩
  obtain ⟨it2, W2, items2, need2, ex, m1, rfl, src2, S, hneed2, Q, G, q1, qx, hF, step2⟩ := z
  have hnd2 : need2 h := hneed2 h [(it2, W2 0), (C, isFr m1), (D, isL ys), (it, W (i + 1))] S
  refine okC_compStart (G := ⟨target', iter', [], 0⟩) rfl rfl (fun u_ => rfl) rfl (src2.self S hnd2 .here ⟨rfl, rfl⟩) ?_
  rw [hF] at hT hyi1
  rw [List.length_map, List.length_range] at hyi1
  refine okC_compL (d := 1) (target := target') (iter := iter') (ifs := []) rfl rfl items2.length (C2J2 c g Q C (D, it2) W2 ys G ((it, W (i + 1)) :: (ex ++ l))) ?_ ⟨m1, q1, by simpa -iota using S⟩
  clear S hnd2 q1
  rintro j T2 hT2 h hj ⟨m, qm, S⟩
  have hnd2 : need2 h := hneed2 h [(it2, W2 j), (C, isFr m), (D, isL _), (it, W (i + 1))] S
  rcases Nat.lt_or_ge j items2.length with hlt2 | hge2
  ·refine src2.next S hnd2 (List.getElem?_eq_getElem hlt2) .here fun h' S => fun v rv => ?_
   refine src2.owned S .here ?_
   refine (step2 j _ m h' _ v (List.getElem?_eq_getElem hlt2) rv qm S).mono fun u_ h z => ok_tests_nil ⟨fun u_ => z.mono fun v h q1_ => ?_, fun e => by cases e⟩
   obtain ⟨m', qm', rv, S⟩ := q1_
   refine ok_appendA S (.i2) rv (by rw [List.length_append, List.length_map, List.length_range]; lia) fun h S => hT2 _ hlt2 ⟨m', qm', ?_⟩
   rw [List.range_succ, List.map_append, ← List.append_assoc]
   exact S
  ·obtain rfl : j = items2.length := Nat.le_antisymm hj hge2
   refine src2.done S hnd2 .here fun h S => hT h m (qx m qm) ?_
   exact (S.perm (l' := ex ++ ([(C, isFr m), (D, _), (it, W (i + 1))] ++ l)) (List.perm_append_comm_assoc ex [(C, isFr m), (D, _), (it, W (i + 1))] l)).right
 ·obtain rfl : i = items.length := Nat.le_antisymm hi hge
  exact src.done S hnd (.i2) fun h S => ⟨m, hm, S⟩
inductive C2Go (c : Cx) (n : Nat) (env : Env) (elt target target' iter' : PySem.Expr) (scope : Scope) (cl : List (Str × Addr)) (xs : List Str) (P : VP) (itv : Value) (h₂ : Heap) : Prop
 | mk (g : Heap) (it : Addr) (W : Nat → Obj → Prop) (items : List AV) (need : Heap → Prop) (l : Led) (B : Nat) (e : itv = .ref it) (src : SrcA c it W items need) (S : St c g h₂ ((it, W 0) :: l)) (hneed : ∀ h l', St c g h (l' ++ l) → need h)
   (F : Nat → List AV) (hB : ∀ i, (F i).length ≤ B) (hN : items.length * B ≤ 1000000)
   (step : ∀ C D i ys m h av v, items[i]? = some av → av.rep v → m.map (·.1) = xs → St c g h ((C, isFr m) :: (D, isL ys) :: (it, W (i + 1)) :: l) →
    Ok c n (assign target (compEnvC scope cl C env) v) (kEval c n iter' (compEnvC scope cl C env) (kIter c n (C2In c n g elt target' (compEnvC scope cl C env) xs (F i) C D it ys (W (i + 1)) l))) h)
   (fin : ∀ D h, St c g h ((D, isL ((List.range items.length).flatMap F)) :: l) → P (.ref D) h) : C2Go c n env elt target target' iter' scope cl xs P itv h₂
theorem ok_comp2 {elt target iter target' iter' : PySem.Expr} {scope : Scope} {pos : Pos} {cl : List (Str × Addr)} {P : VP} (xs : List Str)
  (hs : ∀ x, foldedSetIterable iter env x = pure x) (hs' : ∀ C x, foldedSetIterable iter' (compEnvC scope cl C env) x = pure x) (hclos : closureFor scope env = pure cl) (hkind : scope.kind = .function)
  (hnames : scope.names.all (fun x => x.2 != .cell && (x.2 != .local || scope.names.lookup x.1 == some .local)) = true) (hloc : localsOf scope = xs.map fun k => (k, none)) (nd : xs.Nodup)
  (x : Ok c n (eval iter env) (kIter c n (C2Go c n env elt target target' iter' scope cl xs P)) h) :
  Ok c n (eval (.ListComp elt [⟨target, iter, [], 0⟩, ⟨target', iter', [], 0⟩] scope pos) env) P h := by
 refine ok_ListCompU (use := none) xs hs hclos hkind hnames hloc nd (x.mono fun v h₁ z => z.mono fun itv h₂ z => ?_)
 obtain ⟨g, it, W, items, need, l, B, rfl, src, S, hneed, F, hB, hN, step, fin⟩ := z
 refine ⟨g, _, S, fun D C h₄ S₄ => ?_⟩
 have S₄ : St c g h₄ ((C, isFr (xs.map fun k => (k, none))) :: (D, isL []) :: (it, W 0) :: l) := (S₄.weak (.i1) (P' := isL []) fun o q => ⟨[], trivial, q⟩).toFr
 refine ⟨src.self S₄ (hneed _ [(C, isFr _), (D, isL _), (it, W 0)] S₄) (.i2) ⟨rfl, rfl⟩, ?_⟩
 refine (ok_loop2 (hs' C) src hneed F hB hN (step C D) (by simp -iota [Function.comp_def]) S₄).mono fun u_ h q1_ => ?_
 obtain ⟨m, hm, S⟩ := q1_
 obtain ⟨m', S'⟩ := S.toNs
 exact ⟨g, _, m', S', fun h₆ S => fin D h₆ S⟩
end
inductive Runs (N : Nat) (lt : Nat → Nat → Bool) {α : Type} : KasT α → α → Prop
 | ret (a : α) : Runs N lt (.ret a) a
 | ask {i j : Nat} {k : Bool → KasT α} {a : α} : i < N → j < N → Runs N lt (k (lt i j)) a → Runs N lt (.ask i j k) a
theorem Runs.bind {N : Nat} {lt : Nat → Nat → Bool} {α β : Type} {t : KasT α} {a : α} {f : α → KasT β} {b : β} (x : Runs N lt t a) (y : Runs N lt (f a) b) : Runs N lt (t.bind f) b := by
 induction x with
 | ret a => exact y
 | ask hi hj _ ih => exact .ask hi hj (ih y)
theorem Runs.wp {N : Nat} {lt : Nat → Nat → Bool} {α : Type} {cmp : Nat → Nat → (Bool → Shared → Prop) → Shared → Prop} {t : KasT α} {a : α} (x : Runs N lt t a) {Q : α → Shared → Prop} {s : Shared}
  (hc : ∀ i j C, i < N → j < N → C (lt i j) s → cmp i j C s) (q : Q a s) : t.kasWp cmp Q s := by
 induction x with
 | ret a => exact q
 | ask hi hj _ ih => exact hc _ _ _ hi hj (ih q)
noncomputable def kl (a b : List Nat) : Bool := if (a.length : Int) == b.length then (if str a = str b then false else decide (a < b)) else decide ((a.length : Int) < b.length)
noncomputable def KeysAt (g : Heap) : List Addr → List (List Nat) → Prop
 | [], [] => True
 | a :: as, w :: ws => HO g a (isT [.int w.length, .str w]) ∧ KeysAt g as ws
 | _, _ => False
theorem KeysAt.ind {g : Heap} {M : List Addr → List (List Nat) → Prop} (n : M [] []) (s : ∀ {a w as ws}, HO g a (isT [.int w.length, .str w]) → KeysAt g as ws → M as ws → M (a :: as) (w :: ws)) {as : List Addr} : ∀ {ws}, KeysAt g as ws → M as ws := by
 induction as with
 | nil => intro ws h; cases ws with
  | nil => exact n
  | cons w ws => exact h.elim
 | cons a as ih => intro ws h; cases ws with
  | nil => exact h.elim
  | cons w ws => exact s h.1 h.2 (ih h.2)
theorem KeysAt.len {g : Heap} {as : List Addr} {ws : List (List Nat)} (h : KeysAt g as ws) : as.length = ws.length := h.ind (M := fun as ws => as.length = ws.length) rfl fun u_ u_ q => congrArg (· + 1) q
theorem KeysAt.gr {g g' : Heap} (k : Gr g g') {as : List Addr} {ws : List (List Nat)} (h : KeysAt g as ws) : KeysAt g' as ws := h.ind (M := KeysAt g') trivial fun x u_ q => ⟨x.gr k, q⟩
theorem KeysAt.snoc {g : Heap} {a : Addr} {w : List Nat} (x : HO g a (isT [.int w.length, .str w])) {as : List Addr} {ws : List (List Nat)} (h : KeysAt g as ws) : KeysAt g (as ++ [a]) (ws ++ [w]) :=
 h.ind (M := fun as ws => KeysAt g (as ++ [a]) (ws ++ [w])) ⟨x, trivial⟩ fun y u_ q => ⟨y, q⟩
theorem KeysAt.get {g : Heap} {as : List Addr} {ws : List (List Nat)} {i : Nat} (h : KeysAt g as ws) : i < ws.length → ∃ a, (as.map Value.ref).getD i .none = .ref a ∧ HO g a (isT [.int (ws.getD i []).length, .str (ws.getD i [])]) :=
 h.ind (M := fun as ws => ∀ i, i < ws.length → ∃ a, (as.map Value.ref).getD i .none = .ref a ∧ HO g a (isT [.int (ws.getD i []).length, .str (ws.getD i [])])) (fun i e => (Nat.not_lt_zero i e).elim) (fun x u_ q i e => by
  cases i with
  | zero => exact ⟨_, rfl, x⟩
  | succ i => exact q i (Nat.lt_of_succ_lt_succ e)) i
theorem KeysAt.tups {g h : Heap} (k : ∀ b o, g.get? b = some o → h.get? b = some o)  {as : List Addr} : ∀ {ws : List (List Nat)}, KeysAt g as ws → ∃ fs, KatTups h (as.map Value.ref) fs ∧ fs.length = ws.length ∧ ∀ v ∈ fs, ∃ i t, v = Value.int i t := by
 induction as with
 | nil => intro ws x; cases ws with
  | nil => exact ⟨[], trivial, rfl, fun v hv => by cases hv⟩
  | cons _ _ => exact x.elim
 | cons a as ih => intro ws x; cases ws with
  | nil => exact x.elim
  | cons w ws =>
  obtain ⟨fs, h1, h2, h3⟩ := ih x.2
  obtain ⟨o, ho, us, r, e, rfl⟩ := x.1
  obtain ⟨v, us, rfl, ⟨t, rfl⟩, r⟩ := r.cons_inv
  refine ⟨.int w.length t :: fs, KatTups.cons (k _ _ ho) rfl rfl rfl h1, by simp -iota [h2], fun v hv => ?_⟩
  rcases List.mem_cons.mp hv with rfl | hv
  ·exact ⟨_, _, rfl⟩
  ·exact h3 v hv
theorem refs_reps {as : List Addr} : ∀ {us : List Value}, Reps (refs as) us → us = as.map Value.ref := by
 induction as with
 | nil => intro us h; exact h.nil_inv
 | cons a as ih => intro us h; cases us with
  | nil => exact h.elim
  | cons u us => rw [show u = .ref a from h.1, List.map_cons, ih h.2]
section
variable {c : Cx} {n : Nat} {g h : Heap} {l l' : Led} {env : Env} {a b kS : Addr} {f : Value}
theorem key_lt {A : Around} {E : Value → Shared → Prop} {s : Shared} {x y : Addr} {u v : List Nat} {C : Bool → Shared → Prop} (hx : HO s.heap x (isT [.int u.length, .str u])) (hy : HO s.heap y (isT [.int v.length, .str v])) (q : C (kl u v) s) :
  wpAny c.M A (keyLt' (tuples' true) (.ref x) (.ref y)) C E s := by
 obtain ⟨ox, ex, us, r, k1, rfl⟩ := hx
 obtain ⟨oy, ey, us', r', k2, rfl⟩ := hy
 obtain ⟨v1, us1, rfl, ⟨t1, rfl⟩, r1⟩ := r.cons_inv
 obtain ⟨v2, us2, rfl, ⟨t2, rfl⟩, r2⟩ := r1.cons_inv
 obtain ⟨v3, us3, rfl, ⟨t3, rfl⟩, r3⟩ := r'.cons_inv
 obtain ⟨v4, us4, rfl, ⟨t4, rfl⟩, r4⟩ := r3.cons_inv
 cases us2 with
 | cons _ _ => exact r2.elim
 | nil =>
 cases us4 with
 | cons _ _ => exact r4.elim
 | nil =>
 refine kat_lt ex rfl ey rfl ?_
 show KatLex c.prog c.w A true false C [(.int u.length t1, .int v.length t3), (.str (str u) t2, .str (str v) t4)] 0 s
 unfold kl at q
 refine kat_cons (wpAny_eqBool_int ?_)
 cases e : ((u.length : Int) == (v.length : Int)) with
 | true =>
  rw [e] at q
  simp -iota only [if_true] at q
  refine kat_yes (kat_cons (wpAny_eqBool_str ?_))
  by_cases e2 : str u = str v
  ·rw [decide_eq_true e2]
   rw [if_pos e2] at q
   exact kat_yes (kat_nil q)
  ·rw [decide_eq_false e2]
   rw [if_neg e2] at q
   refine kat_no ?_
   show wpAny _ _ (oneLt' false (.str (str u) t2) (.str (str v) t4)) _ _ _
   refine kat_one _ _ (PyProof.Rows.lt_str ?_)
   show C (decide ((str u).cps.toList < (str v).cps.toList)) s
   have e3 : (str u).cps.toList = u := by simp -iota [str]
   have e4 : (str v).cps.toList = v := by simp -iota [str]
   rw [e3, e4]; exact q
 | false =>
  rw [e] at q
  simp -iota only [Bool.false_eq_true, if_false] at q
  exact kat_no (oneLt_int q)
theorem ok_listItems {xs : Array Value} {k : Nat} {o : Obj} {P : Array Value → Heap → Prop} (ho : h.get? a = some o) (hd : o.data = .seq xs k) (p : P xs h) : Ok c n (Builtin.List.listItems (.ref a)) P h := fun u_ u_ u_ u_ => listItems_at ho hd ⟨rfl, rfl, p⟩
theorem ok_seqEpoch {xs : Array Value} {k : Nat} {o : Obj} {P : Nat → Heap → Prop} (ho : h.get? a = some o) (hd : o.data = .seq xs k) (p : P k h) : Ok c n (seqEpoch a) P h := fun u_ u_ u_ u_ => seqEpoch_at ho hd ⟨rfl, rfl, p⟩
theorem ok_listUpd {l₂ : Nat → Led} {us : List Value} {fu : Array Value → Array Value} {us' : List Value} {P : Unit → Heap → Prop} (S : St c g h l) (U : ∀ e, Up l a (isList us) (fun o => o = seqObj "list" us'.toArray e) (l₂ e)) (hf : fu us.toArray = us'.toArray) (hz : us.length ≤ 1000000) (hz' : us'.length ≤ 1000000)
  (p : ∀ e h', St c g h' (l₂ e) → P () h') : Ok c n (Builtin.List.listUpdate (.ref a) fu) P h := by
 obtain ⟨o, ho, k, rfl⟩ := S.at_ _ (U 0).mem
 refine fun u_ u_ u_ u_ => listUpdate_at ho rfl ⟨rfl, rfl, p (if us'.toArray.size == us.toArray.size then k else k + 1) _ (S.upd (U _) (Heap.SameBut.update ..) ⟨_, get?_update_seq ho fu, ?_⟩)⟩ (by rw [List.size_toArray, sizeLine_eq]; lia) (by rw [hf, List.size_toArray, sizeLine_eq]; lia)
 rw [hf]
theorem ok_attempt {α : Type} {t : Sem α} {P : Except Value α → Heap → Prop} (x : Ok c n t (fun a h' => P (.ok a) h') h) : Ok c n t.attempt P h :=
 fun A d tk r => wpAny_attempt (wpAny_mono (x A d tk r) (fun u_ u_ q => q) fun u_ u_ e => e.elim)
theorem ok_keys {body : Value → PUnit → Sem (ForInStep PUnit)} {all : List (List Nat)}
  (hb : ∀ x (h : Heap) (Q : Heap → Prop), Ok c n (call f [x]) (fun k h' => Ok c n (Builtin.List.listUpdate (.ref kS) (·.push k)) (fun u_ h'' => Q h'') h') h → Ok c n (body x ⟨⟩) (fun r h' => r = .yield ⟨⟩ ∧ Q h') h)
  (key : ∀ g' h l' w t (Q : VP), Gr g g' → St c g' h l' → w ∈ all → (∀ tp h', St c g' h' ((tp, isT [.int w.length, .str w]) :: l') → Q (.ref tp) h') → Ok c n (call f [.str (str w) t]) Q h) :
  ∀ (rest done : List (List Nat)) (us : List Value) (kas : List Addr) (g' h : Heap), (∀ w ∈ rest, w ∈ all) → Gr g g' → Reps (strsOf rest) us → done.length + rest.length ≤ 1000 → St c g' h ((kS, isL (refs kas)) :: l) → KeysAt g' kas done →
   Ok c n (forIn us PUnit.unit body) (fun u_ h' => ∃ g'' kas', Gr g g'' ∧ St c g'' h' ((kS, isL (refs kas')) :: l) ∧ KeysAt g'' kas' (done ++ rest)) h := by
 intro rest
 induction rest with
 | nil =>
  intro done us kas g' h _ kg r _ S K
  cases us with
  | cons _ _ => exact r.elim
  | nil =>
  rw [List.forIn_nil]
  exact ok_pure ⟨g', kas, kg, S, by rw [List.append_nil]; exact K⟩
 | cons w rest ih =>
  intro done us kas g' h hin kg r hz S K
  cases us with
  | nil => exact r.elim
  | cons u us =>
  rw [List.forIn_cons]
  obtain ⟨⟨t, rfl⟩, r⟩ := r
  have hkl := K.len
  rw [List.length_cons] at hz
  refine ok_bind ((hb _ h (fun h' => ∃ g'' a, Gr g' g'' ∧ St c g'' h' ((kS, isL (refs (kas ++ [a]))) :: l) ∧ HO g'' a (isT [.int w.length, .str w])) ?_).mono fun rr h' z => ?_)
  ·refine key g' h _ w t _ kg S (hin w List.mem_cons_self) fun tp h' S' => ?_
   obtain ⟨g'', k', X, S'⟩ := S'.freeze1
   obtain ⟨o, ho, us', r', kk, rfl⟩ := S'.get (.here : At ((kS, isL (refs kas)) :: l) kS _)
   have hl' := r'.len
   rw [refs_len] at hl'
   refine fun u_ u_ u_ u_ => listUpdate_at ho rfl ⟨rfl, rfl, g'', tp, k', ?_, X⟩ (by rw [List.size_toArray, sizeLine_eq]; lia) (by rw [Array.size_push, List.size_toArray, sizeLine_eq]; lia)
   refine S'.upd .here (Heap.SameBut.update ..) ⟨_, Heap.get?_update_self _ ho rfl, us' ++ [.ref tp], ?_, isList.map (by simp -iota)⟩
   rw [refs_snoc]
   exact r'.snoc rfl
  ·obtain ⟨e, g'', a, kg', S', X⟩ := z
   subst e
   refine (ih (done ++ [w]) us (kas ++ [a]) g'' h' (fun w hw => hin w (List.mem_cons_of_mem _ hw)) (kg.trans kg') r (by rw [List.length_append, List.length_singleton]; lia) S' ((K.gr kg').snoc X)).mono fun _ h' ⟨g3, kas', a1, a2, a3⟩ => ⟨g3, kas', a1, a2, by rw [List.append_assoc] at a3; exact a3⟩
theorem ok_sortTree {D : Addr} {us : List Value} {ws : List (List Nat)} {q : Addr} {p : Array Nat} {P : PySem.Fin → Heap → Prop} (S : St c g h ((D, isList us) :: l)) (r : Reps (strsOf ws) us) (h2 : 2 ≤ ws.length) (h64 : ws.length < 64)
  (key : ∀ g' h l' w t (Q : VP), Gr g g' → St c g' h l' → w ∈ ws → (∀ tp h', St c g' h' ((tp, isT [.int w.length, .str w]) :: l') → Q (.ref tp) h') → Ok c n (call (.ref q) [.str (str w) t]) Q h)
  (hr : Runs ws.length (fun i j => kl (ws.getD i []) (ws.getD j [])) (kas_sort ws.length) p) (hp : ∀ i ∈ p.toList, i < ws.length) (hps : p.size = ws.length)
  (k : ∀ g' h', Gr g g' → St c g' h' ((D, isL (strsOf (p.toList.map fun i => ws.getD i []))) :: l) → P (.done (.ret .none)) h') :
  Ok c n (ksk_tree D (.ref q) false) P h := by
 have hul := r.len
 rw [strs_len] at hul
 unfold ksk_tree
 obtain ⟨o, ho, kk, rfl⟩ := S.get .here
 refine ok_bind (ok_listItems ho rfl ?_)
 refine ok_bind (ok_listUpd (us := us) (us' := []) S (fun e => .here) rfl (by lia) (by simp -iota) fun e h S => ?_)
 obtain ⟨o, ho, rfl⟩ := S.get .here
 refine ok_bind (ok_seqEpoch ho rfl ?_)
 have r' : Reps (strsOf ws) us.toArray.toList := r
 refine ok_bind (ok_newTupleA S r' (by rw [strs_len]; lia) fun held h S => ?_)
 refine ok_bind (ok_newListA S (vs := []) trivial (by simp -iota) fun kS h S => ?_)
 refine ok_holding ?_
 unfold ksk_rest
 refine ok_bind (ok_rule ?_)
 rw [List.forIn_toArray]
 refine ok_bind ((ok_keys (all := ws) (kS := kS) (l := (held, isT (strsOf ws)) :: (D, _) :: l) (g := g) (f := .ref q) ?hb key ws [] us [] g h (fun u_ h => h) (Gr.refl _) r (by simp -iota; lia) S trivial).mono fun u_ h z => ?_)
 case hb =>
  intro x h Q y
  refine ok_bind (ok_attempt (y.mono fun k h' z => ?_))
  exact ok_bind (z.mono fun u_ h'' z => ok_pure ⟨rfl, z⟩)
 obtain ⟨g', kas, kg, S, K⟩ := z
 rw [List.nil_append] at K
 obtain ⟨o, ho, us2, r2, k2, rfl⟩ := S.get .here
 have hu2 := refs_reps r2
 subst hu2
 have hkl := K.len
 refine ok_bind (ok_listItems ho rfl ?_)
 unfold ksk_end
 have hn2 : ¬ us.toArray.size < 2 := by rw [List.size_toArray]; lia
 simp -iota only [Bool.false_eq_true, if_false]
 rw [if_neg hn2, if_neg hn2]
 obtain ⟨fs, t1, t2, t3⟩ := K.tups S.keep
 have hlr : (kas.map Value.ref).length = us.length := by rw [List.length_map, hkl, hul]
 intro A d tk rm
 refine wpAny_bind (kat_kind (s := c.at h d tk) (T := .type "int") t1 (by lia) (fun v hv => ?_) rfl ?_)
 ·obtain ⟨i, t, rfl⟩ := t3 v hv
  exact Looks.now
 refine wpAny_bind (wpAny_mono (kat_run (G := fun p' s' => p' = p ∧ s' = c.at h d tk) (Q := fun st' s' => arrOf st' = p.map (kas_item ((kas.map Value.ref).toArray.zip us.toArray)) ∧ failedOf st' = none ∧ s' = c.at h d tk) hlr (by lia) (by lia)
  (fun p' st' s' _ a2 a3 ⟨e1, e2⟩ => ⟨e1 ▸ a2, a3, e2⟩) ?_) ?_ fun u_ u_ x => x)
 ·rw [hul]
  refine hr.wp (fun i j C hi hj q => ?_) ⟨rfl, rfl⟩
  unfold kas_ask
  obtain ⟨x, e1, X1⟩ := K.get hi
  obtain ⟨y, e2, X2⟩ := K.get hj
  rw [e1, e2]
  exact key_lt (c := c) (s := c.at h d tk) (S.here X1) (S.here X2) q
 rintro ⟨⟨⟩, st'⟩ s' ⟨har, hf, rfl⟩
 have hout := kat_snds hlr har
 refine (show Ok c n (ksk_tail D false e (.ref kS) st') P h from ?_) A d tk rm
 unfold ksk_tail
 simp -iota only [hout, hf]
 refine ok_bind (ok_listUpd (us := kas.map Value.ref) (us' := []) (S.upd .here (Heap.SameBut.refl ..) ⟨_, ho, k2, rfl⟩) (fun e => .here) rfl (by lia) (by simp -iota) fun e2 h S => ?_)
 refine ok_bind ((fun u_ u_ u_ u_ => wpAny_letGo ⟨rfl, rfl, ?_⟩ : Ok c n _ _ h))
 obtain ⟨o, ho, rfl⟩ := S.get (.i2)
 refine ok_bind (ok_seqEpoch ho rfl ?_)
 have hpl : p.toList.length = ws.length := by rw [Array.length_toList, hps]
 refine ok_bind (ok_listUpd (us := []) (us' := p.toList.map fun i => us.getD i Value.none) (S.upd (.i2) (Heap.SameBut.refl ..) ⟨_, ho, e, rfl⟩) (fun e => .i2) (by simp -iota) (by simp -iota) (by rw [List.length_map]; lia) fun e3 h S => ?_)
 simp -iota only [bne_self_eq_false, Bool.false_eq_true, if_false]
 rw [hf]
 refine ok_pure (k g' h kg ?_)
 have S := S.tail.tail
 refine S.weak .here fun o q => ?_
 subst q
 refine ⟨_, ?_, e3, rfl⟩
 have gen : ∀ (is : List Nat), (∀ i ∈ is, i < ws.length) → Reps (strsOf (is.map fun i => ws.getD i [])) (is.map fun i => us.getD i Value.none) := by
  intro is
  induction is with
  | nil => intro _; trivial
  | cons i is ih =>
   intro hi
   have h0 := hi i List.mem_cons_self
   have e1 : (strsOf ws)[i]? = some (.str (ws.getD i [])) := by
    simp -iota only [strsOf, List.getElem?_map, List.getElem?_eq_getElem h0, List.getD_eq_getElem?_getD]; rfl
   obtain ⟨v, hv, rv⟩ := r.get e1
   refine ⟨?_, ih fun j hj => hi j (List.mem_cons_of_mem _ hj)⟩
   show AV.rep _ (us.getD i Value.none)
   rw [List.getD_eq_getElem?_getD, hv]; exact rv
 exact gen _ hp
theorem ok_sortedK {src : Addr} {ws : List (List Nat)} {q : Addr} {p : Array Nat} {P : VP} (S : St c g h l) (A1 : HO h src (isL (strsOf ws))) (h2 : 2 ≤ ws.length) (h64 : ws.length < 64)
  (key : ∀ g' h l' w t (Q : VP), Gr g g' → St c g' h l' → w ∈ ws → (∀ tp h', St c g' h' ((tp, isT [.int w.length, .str w]) :: l') → Q (.ref tp) h') → Ok c n (call (.ref q) [.str (str w) t]) Q h)
  (hr : Runs ws.length (fun i j => kl (ws.getD i []) (ws.getD j [])) (kas_sort ws.length) p) (hp : ∀ i ∈ p.toList, i < ws.length) (hps : p.size = ws.length)
  (k : ∀ g' D h', Gr g g' → St c g' h' ((D, isL (strsOf (p.toList.map fun i => ws.getD i []))) :: l) → P (.ref D) h') :
  Ok c (n + 2) (call (.builtin "sorted") [.ref src] [(Str.ofString "key", .ref q)]) P h := by
 obtain ⟨us, r, hl⟩ := isL.is A1
 have hul := r.len
 rw [strs_len] at hul
 intro A d tk rm
 refine call_function_entry_kw kind_sorted plain_sorted entry_sorted (ksk_s1 _ _) ?_
 unfold Builtin.«sorted»
 refine wpAny_bind (m := checkCount "sorted" 1 1 _) (wpAny_pure ?_)
 refine wpAny_bind (collect_list hl ?_ (by rw [sizeLine_eq]; lia))
 refine wpAny_bind (wpAny_newList ?_ (by rw [sizeLine_eq]; lia))
 have S1 : St c g ((h.push (seqObj "list" #[] 0)).update h.objs.size (Obj.mapSeq (· ++ us.toArray))) l := by
  have S0 : St c g (h.push (seqObj "list" #[] 0)) ((h.objs.size, isList []) :: l) := S.push rfl ⟨0, rfl⟩
  have ho : (h.push (seqObj "list" #[] 0)).get? h.objs.size = some (seqObj "list" #[] 0) := Heap.get?_push_size _ rfl
  have S2 : St c g ((h.push (seqObj "list" #[] 0)).update h.objs.size (Obj.mapSeq (· ++ us.toArray))) ((h.objs.size, fun u_ => True) :: l) := S0.upd .here (Heap.SameBut.update ..) ⟨_, Heap.get?_update_self _ ho rfl, trivial⟩
  exact S2.tail
 generalize hq1 : (h.push (seqObj "list" #[] 0)).update h.objs.size (Obj.mapSeq (· ++ us.toArray)) = h1 at S1
 have hq1' : ((c.at h d tk).heap.push (seqObj "list" #[] 0)).update (c.at h d tk).heap.objs.size (Obj.mapSeq (· ++ us.toArray)) = h1 := hq1
 simp -iota only [hq1']
 have S2 : St c g (h1.push (seqObj "list" us.toArray 0)) ((h1.objs.size, isList us) :: l) := S1.push rfl ⟨0, rfl⟩
 have hoL : (h1.push (seqObj "list" us.toArray 0)).get? h1.objs.size = some (seqObj "list" us.toArray 0) := Heap.get?_push_size _ rfl
 refine wpAny_bind (wpAny_holding (wpAny_call_entry_kw slot_list_sort ⟨_, hoL, rfl⟩ entry_list_sort ?body (ksk_l1 _ _)))
 case body =>
  rw [ksk_t1]
  refine (ok_sortTree S2 r h2 h64 key hr hp hps (P := fun fin h' => fin = .done (.ret .none) ∧ P (.ref h1.objs.size) h') (fun g' h' kg S => ⟨rfl, k g' _ h' kg S⟩)).use (A := A.in1.in1) (rm.in1.in1) fun fin h' d' tk' q1_ => (by obtain ⟨e, z⟩ := q1_; exact ⟨_, e, wpAny_pure ⟨_, rfl, rfl, rfl, z⟩⟩)
end
section
variable {c : Cx} {n : Nat} {g h : Heap} {l l' : Led} {env : Env} {a b : Addr}
theorem ok_CallK1 {f kw : Str} {p pos kp : Pos} {e value : PySem.Expr} {P : VP}
  (he : backTo pos (starEach [e] env) = (false, eval e env) :: backTo pos (starEach [] env))
  (x : Ok c n (eval (.Name f p) env) (fun fv h₁ => ∃ id, fv = .builtin id ∧ Ok c n (eval e env) (fun v h₂ => Ok c n (eval value env) (fun kv h₃ => Ok c n (call (.builtin id) [v] [(kw, kv)]) P h₃) h₂) h₁) h) :
  Ok c n (eval (.Call (.Name f p) [e] [⟨some kw, value, kp⟩] pos) env) P h := by
 intro A d tk r
 refine wpAny_Call_Name_kw (x.use r fun fv h₁ d₁ tk₁ z => ?_)
 obtain ⟨id, rfl, z⟩ := z
 have hpl : (backTo pos (starEach [e] env)).any (·.1) = false := by rw [he]; rfl
 refine callWith_kw (he := he) (hplain := hpl) ?_
 have y : Ok c n (spliced (backTo pos (starEach [e] env))) (fun vs h₂ => ∃ v, vs = [v] ∧ Ok c n (eval value env) (fun kv h₃ => Ok c n (call (.builtin id) [v] [(kw, kv)]) P h₃) h₂) h₁ := by
  rw [he]
  unfold spliced
  refine ok_bind (z.mono fun v h₂ z => ?_)
  refine ok_bind (ok_pure (ok_bind (ok_holding (ok_args_nil (P := fun vs h => Ok c n (pure (v :: vs)) _ h) ?_))))
  exact ok_pure ⟨v, rfl, z⟩
 refine y.use r fun vs h₂ d₂ tk₂ q1_ => ?_
 obtain ⟨v, e1, z⟩ := q1_
 subst e1
 refine kws_cons (z.use r fun kv h₃ d₃ tk₃ z => kws_nil ?_)
 exact z A d₃ tk₃ r
end
theorem set2 {us : List Value} {x y : Value} (h : us.length = 2) : (us.set 0 x).set 1 y = [x, y] := by
 obtain ⟨a, r, rfl, h1⟩ := len_succ h
 obtain ⟨b, r2, rfl, h2⟩ := len_succ h1
 cases List.length_eq_zero_iff.mp h2; rfl
theorem set3 {us : List Value} {x y z : Value} (h : us.length = 3) : ((us.set 0 x).set 1 y).set 2 z = [x, y, z] := by
 obtain ⟨a, r, rfl, h1⟩ := len_succ h
 obtain ⟨b, r2, rfl, h2⟩ := len_succ h1
 obtain ⟨d, r3, rfl, h3⟩ := len_succ h2
 cases List.length_eq_zero_iff.mp h3; rfl
structure SrcN (c : Cx) (it : Addr) (W : Nat → Obj → Prop) (items : List AV) (need : Heap → Prop) : Prop where
 next : ∀ {n : Nat} {g h : Heap} {l l' : Led} {i : Nat} {av : AV} {P : VP}, St c g h l → need h → items[i]? = some av → Up l it (W i) (W (i + 1)) l' → (∀ h', St c g h' l' → av.All fun v => P v h') → Ok c n (Builtin.SmallTypes.nextOf (.ref it)) P h
 stop : ∀ {g h : Heap} {l l' : Led} {A : Around} {d : Drawn} {tk : Nat} {Q : Value → Shared → Prop} {E : Value → Shared → Prop}, A.handled = none → St c g h l → need h → Del l it (W items.length) l' →
  (∀ h' e, (∀ b o, b ≠ it → h.get? b = some o → h'.get? b = some o) → (∃ o, h'.get? e = some o ∧ o.cls = .type "StopIteration") → E (.ref e) (c.at h' d tk)) → wpAny c.M A (Builtin.SmallTypes.nextOf (.ref it)) Q E (c.at h d tk)
section
variable {c : Cx} {n : Nat} {g h : Heap} {l l' : Led} {it a z TI TO i1 i2 i3 : Addr} {vs xs ys zs : List AV} {v : Value} {av a1 a2 a3 : AV} {env : Env}
theorem srcN_list : SrcN c it (isLI a) vs (fun h => HO h a (isL vs)) where
 next := fun {n g h l l' i av P} S hl hx U p => by
  obtain ⟨us, r, hl⟩ := isL.is hl
  obtain ⟨v, hv, rv⟩ := r.get hx
  obtain ⟨o, ho, h1, h2⟩ := S.get U.at_
  exact fun u_ d tk u_ => wpAny_nextOf_list_item (s := c.at h d tk) ⟨o, ho, h1, h2⟩ hl (by simpa -iota using hv) fun h' hi hs => ⟨rfl, rfl, p _ (S.upd U hs hi) v rv⟩
 stop := fun {g h l l' A d tk Q E} hh S hl D hE => by
  obtain ⟨us, r, hl⟩ := isL.is hl
  obtain ⟨o, ho, h1, h2⟩ := (S.perm D.perm).get .here
  refine wpAny_nextOf_list_end (s := c.at h d tk) hh ⟨o, ho, h1, h2⟩ hl (by simp -iota [r.len]) fun h' e hs he => hE h' e (fun b o nb x => hs b o nb x) he
theorem srcN_str {ks : List Nat} {t : Tok} : SrcN c it (isSI (str ks) t) (signsOf ks) any where
 next := fun {n g h l l' i av P} S hl hx U p => by
  simp -iota only [signsOf, List.getElem?_map, Option.map_eq_some_iff] at hx
  obtain ⟨k, hk, rfl⟩ := hx
  obtain ⟨o, ho, h1, h2⟩ := S.get U.at_
  have hk' : (str ks).cps[i]? = some k := by simpa -iota [str] using hk
  intro _ d tk _
  cases ha : (str ks).cps.all (· < 128) <;> rw [ha] at h1
  ·exact wpAny_nextOf_wide_item (s := c.at h d tk) ⟨o, ho, h1, h2⟩ hk' fun h' hi hs => ⟨rfl, rfl, p _ (S.upd U hs (by obtain ⟨o, a1, a2, a3⟩ := hi; exact ⟨o, a1, by rw [ha]; exact a2, a3⟩)) _ ⟨_, rfl⟩⟩
  ·exact wpAny_nextOf_ascii_item (s := c.at h d tk) ⟨o, ho, h1, h2⟩ hk' fun h' hi hs => ⟨rfl, rfl, p _ (S.upd U hs (by obtain ⟨o, a1, a2, a3⟩ := hi; exact ⟨o, a1, by rw [ha]; exact a2, a3⟩)) _ ⟨_, rfl⟩⟩
 stop := fun {g h l l' A d tk Q E} hh S hl D hE => by
  obtain ⟨o, ho, h1, h2⟩ := (S.perm D.perm).get .here
  have hk' : (str ks).cps[(signsOf ks).length]? = none := by simp -iota [signsOf, str]
  cases ha : (str ks).cps.all (· < 128) <;> rw [ha] at h1
  ·exact wpAny_nextOf_wide_end (s := c.at h d tk) hh ⟨o, ho, h1, h2⟩ hk' fun h' e hs he => hE h' e (fun b o nb x => hs b o nb x) he
  ·exact wpAny_nextOf_ascii_end (s := c.at h d tk) hh ⟨o, ho, h1, h2⟩ hk' fun h' e hs he => hE h' e (fun b o nb x => hs b o nb x) he
noncomputable def isZ (f0 : Value) (TI TO : Addr) : Obj → Prop := fun o => o = { cls := .type "zip", dict := none, data := .fields #[f0, .bool false, .bool false, .ref TI, .ref TO], slots := #[] }
noncomputable def isTn (n : Nat) : Obj → Prop := fun o => ∃ vs, vs.length = n ∧ isTuple vs o
theorem ok_fieldZ {o : Obj} {fs : Array Value} {i : Nat} {x : Value} {P : VP} (ho : h.get? a = some o) (hd : o.data = .fields fs) (hi : fs[i]? = some x) (p : P x h) : Ok c n (field (.ref a) i) P h := fun u_ u_ u_ u_ => wpAny_field ho hd hi ⟨rfl, rfl, p⟩
theorem ok_setZ {f0 x : Value} {P : Unit → Heap → Prop} (S : St c g h l) (U : Up l z (isZ f0 TI TO) (isZ x TI TO) l') (p : ∀ h', St c g h' l' → P () h') : Ok c n (setField (.ref z) 0 x) P h := by
 obtain ⟨o, ho, rfl⟩ := S.at_ _ U.mem
 exact fun u_ u_ u_ u_ => wpAny_setField_rec ho (by simp -iota) fun h' hz hs => ⟨rfl, rfl, p _ (S.upd U hs ⟨_, hz, rfl⟩)⟩
theorem ok_seqIt {us : List Value} {P : Option (Array Value) → Heap → Prop} (A : HO h a (isTuple us)) (p : P (some us.toArray) h) : Ok c n (seqItems? (.ref a)) P h := by
 obtain ⟨o, ho, k, rfl⟩ := A
 exact fun u_ u_ u_ u_ => wpAny_seqItems ho rfl ⟨rfl, rfl, p⟩
theorem ok_setT {us : List Value} {k : Nat} {x : Value} {P : Unit → Heap → Prop} (S : St c g h l) (U : Up l a (isTuple us) (isTuple (us.set k x)) l') (hz : us.length ≤ 1000) (p : ∀ h', St c g h' l' → P () h') : Ok c n (updateSeq a (·.setIfInBounds k x)) P h := by
 obtain ⟨o, ho, kk, rfl⟩ := S.at_ _ U.mem
 refine fun u_ u_ u_ u_ => wpAny_updateSeq ho rfl ⟨rfl, rfl, p _ (S.upd U (Heap.SameBut.update ..) ⟨_, Heap.get?_update_self _ ho rfl, kk, ?_⟩)⟩ (by rw [List.size_toArray, sizeLine_eq]; lia) (by rw [Array.size_setIfInBounds, List.size_toArray, sizeLine_eq]; lia)
 simp [Obj.mapSeq]
theorem ok_lgo {us vs : List Value} {P : Unit → Heap → Prop} (p : P () h) : Ok c n (letGo us vs) P h := fun u_ u_ u_ u_ => wpAny_letGo ⟨rfl, rfl, p⟩
theorem ok_zip2_next {W1 W2 : Nat → Obj → Prop} {need1 need2 : Heap → Prop} {i : Nat} {P : Option Value → Heap → Prop} (s1 : SrcN c i1 W1 xs need1) (s2 : SrcN c i2 W2 ys need2) (HT : HO g TI (isTuple [.ref i1, .ref i2]))
  (hn : ∀ h l', St c g h (l' ++ l) → need1 h ∧ need2 h) (S : St c g h ((z, isZ .none TI TO) :: (TO, isTn 2) :: (i1, W1 i) :: (i2, W2 i) :: l)) (e1 : xs[i]? = some a1) (e2 : ys[i]? = some a2)
  (p : ∀ T h', St c g h' ((T, isT [a1, a2]) :: (z, isZ (rawInt T) TI TO) :: (TO, isTn 2) :: (i1, W1 (i + 1)) :: (i2, W2 (i + 1)) :: l) → P (some (.ref T)) h') : Ok c (n + 1) (pyNext (.ref z)) P h := by
 have key : Ok c n (Builtin.«zip.__next__» ⟨[.ref z], []⟩) (fun fin h' => ∃ v, fin = .done (.ret v) ∧ P (some v) h') h := by
  obtain ⟨o, ho, rfl⟩ := S.get .here
  show Ok c n (field (.ref z) 2 >>= _) _ _
  refine ok_bind (ok_fieldZ ho rfl (x := .bool false) rfl ?_)
  show Ok c n (field (.ref z) 3 >>= _) _ _
  refine ok_bind (ok_fieldZ ho rfl (x := .ref TI) rfl ?_)
  refine ok_bind (ok_seqIt (S.here HT) ?_)
  show Ok c n (Builtin.SmallTypes.ownedTupleIsFree (.ref z) >>= _) _ _
  refine ok_bind ?_
  unfold Builtin.SmallTypes.ownedTupleIsFree
  refine ok_bind (ok_fieldZ ho rfl (x := .none) rfl (ok_pure ?_))
  simp -iota only [if_true]
  refine ok_bind (ok_rule ?_)
  refine ok_bind (ok_fieldZ ho rfl (x := .ref TO) rfl ?_)
  refine ok_bind (ok_setZ S .here fun h S => ?_)
  refine ok_bind ?_
  simp -iota only [List.zipIdx_cons, List.zipIdx_nil, List.forIn_cons, List.forIn_nil]
  refine ok_bind (ok_bind (ok_noted ?_))
  show Ok c n (Builtin.SmallTypes.nextOf (.ref i1) >>= _) _ _
  have nd := hn h [_, _, _, _] S
  refine ok_bind (s1.next S nd.1 e1 (.i2) fun h S v1 r1 => ok_pure ?_)
  obtain ⟨o, ho, us, hu, q⟩ := S.get (.i1)
  have S := S.upd (.i1) (P' := isTuple us) (Heap.SameBut.refl ..) ⟨o, ho, q⟩
  refine ok_bind (ok_seqIt ⟨o, ho, q⟩ ?_)
  refine ok_bind (ok_setT S (.i1) (by lia) fun h S => ?_)
  refine ok_bind (ok_lgo (ok_pure ?_))
  refine ok_bind (ok_bind (ok_noted ?_))
  show Ok c n (Builtin.SmallTypes.nextOf (.ref i2) >>= _) _ _
  have nd := hn h [_, _, _, _] S
  refine ok_bind (s2.next S nd.2 e2 (.i3) fun h S v2 r2 => ok_pure ?_)
  refine ok_bind (ok_seqIt (S.get (.i1)) ?_)
  refine ok_bind (ok_setT S (.i1) (by rw [List.length_set]; lia) fun h S => ?_)
  refine ok_bind (ok_lgo (ok_pure (ok_pure ?_)))
  have eu := set2 hu (x := v1) (y := v2)
  rw [eu] at S
  refine ok_bind (ok_seqIt (S.get (.i1)) ?_)
  refine ok_bind (ok_newTupleA S (vs := [a1, a2]) ⟨r1, r2, trivial⟩ (by simp -iota) fun T h S => ?_)
  show Ok c n (Builtin.SmallTypes.ownedTupleHandOut (.ref z) (.ref T) >>= _) _ _
  refine ok_bind ?_
  unfold Builtin.SmallTypes.ownedTupleHandOut
  refine ok_bind (ok_setZ S (.i1) fun h S => ?_)
  obtain ⟨o, ho, rfl⟩ := S.get (.i1)
  have S9 := S
  refine fun u_ u_ u_ u_ => wpAny_setField_rec ho (by simp -iota) fun h' hz hs => ⟨rfl, rfl, ?_⟩
  have S := S9.upd (.i1) (P' := isZ (rawInt T) TI TO) hs ⟨_, hz, rfl⟩
  refine ok_pure ⟨_, rfl, p T h' ?_⟩
  exact (S.weak (.i2) (P' := isTn 2) fun o q => ⟨[v1, v2], rfl, q⟩)
 intro A d tk rm
 obtain ⟨o, ho, ho2⟩ := S.get .here
 have hT : (c.at h d tk).TypeIs (.ref z) "zip" := ⟨o, ho, by rw [ho2]⟩
 unfold pyNext
 refine wpAny_bind (wpAny_attempt (wpAny_callSpecial?_slot (name := Str.ofString "__next__") hT F.slot_zip_next
  (wpAny_call_entry F.slot_zip_next hT F.entry_zip_next (key.use (A := A.in1) rm.in1 fun fin h' d' tk' q1_ => (by obtain ⟨v, e, q⟩ := q1_; exact ⟨v, e, wpAny_pure ⟨rfl, rfl, q⟩⟩)) (F.args_zip_next_1 _))))
theorem ok_zip3_next {W1 W2 W3 : Nat → Obj → Prop} {need1 need2 need3 : Heap → Prop} {i : Nat} {P : Option Value → Heap → Prop} (s1 : SrcN c i1 W1 xs need1) (s2 : SrcN c i2 W2 ys need2) (s3 : SrcN c i3 W3 zs need3) (HT : HO g TI (isTuple [.ref i1, .ref i2, .ref i3]))
  (hn : ∀ h l', St c g h (l' ++ l) → need1 h ∧ need2 h ∧ need3 h) (S : St c g h ((z, isZ .none TI TO) :: (TO, isTn 3) :: (i1, W1 i) :: (i2, W2 i) :: (i3, W3 i) :: l)) (e1 : xs[i]? = some a1) (e2 : ys[i]? = some a2) (e3 : zs[i]? = some a3)
  (p : ∀ T h', St c g h' ((T, isT [a1, a2, a3]) :: (z, isZ (rawInt T) TI TO) :: (TO, isTn 3) :: (i1, W1 (i + 1)) :: (i2, W2 (i + 1)) :: (i3, W3 (i + 1)) :: l) → P (some (.ref T)) h') : Ok c (n + 1) (pyNext (.ref z)) P h := by
 have key : Ok c n (Builtin.«zip.__next__» ⟨[.ref z], []⟩) (fun fin h' => ∃ v, fin = .done (.ret v) ∧ P (some v) h') h := by
  obtain ⟨o, ho, rfl⟩ := S.get .here
  show Ok c n (field (.ref z) 2 >>= _) _ _
  refine ok_bind (ok_fieldZ ho rfl (x := .bool false) rfl ?_)
  show Ok c n (field (.ref z) 3 >>= _) _ _
  refine ok_bind (ok_fieldZ ho rfl (x := .ref TI) rfl ?_)
  refine ok_bind (ok_seqIt (S.here HT) ?_)
  show Ok c n (Builtin.SmallTypes.ownedTupleIsFree (.ref z) >>= _) _ _
  refine ok_bind ?_
  unfold Builtin.SmallTypes.ownedTupleIsFree
  refine ok_bind (ok_fieldZ ho rfl (x := .none) rfl (ok_pure ?_))
  simp -iota only [if_true]
  refine ok_bind (ok_rule ?_)
  refine ok_bind (ok_fieldZ ho rfl (x := .ref TO) rfl ?_)
  refine ok_bind (ok_setZ S .here fun h S => ?_)
  refine ok_bind ?_
  simp -iota only [List.zipIdx_cons, List.zipIdx_nil, List.forIn_cons, List.forIn_nil]
  refine ok_bind (ok_bind (ok_noted ?_))
  show Ok c n (Builtin.SmallTypes.nextOf (.ref i1) >>= _) _ _
  have nd := hn h [_, _, _, _, _] S
  refine ok_bind (s1.next S nd.1 e1 (.i2) fun h S v1 r1 => ok_pure ?_)
  obtain ⟨o, ho, us, hu, q⟩ := S.get (.i1)
  have S := S.upd (.i1) (P' := isTuple us) (Heap.SameBut.refl ..) ⟨o, ho, q⟩
  refine ok_bind (ok_seqIt ⟨o, ho, q⟩ ?_)
  refine ok_bind (ok_setT S (.i1) (by lia) fun h S => ?_)
  refine ok_bind (ok_lgo (ok_pure ?_))
  refine ok_bind (ok_bind (ok_noted ?_))
  show Ok c n (Builtin.SmallTypes.nextOf (.ref i2) >>= _) _ _
  have nd := hn h [_, _, _, _, _] S
  refine ok_bind (s2.next S nd.2.1 e2 (.i3) fun h S v2 r2 => ok_pure ?_)
  refine ok_bind (ok_seqIt (S.get (.i1)) ?_)
  refine ok_bind (ok_setT S (.i1) (by rw [List.length_set]; lia) fun h S => ?_)
  refine ok_bind (ok_lgo (ok_pure ?_))
  refine ok_bind (ok_bind (ok_noted ?_))
  show Ok c n (Builtin.SmallTypes.nextOf (.ref i3) >>= _) _ _
  have nd := hn h [_, _, _, _, _] S
  refine ok_bind (s3.next S nd.2.2 e3 (.i4) fun h S v3 r3 => ok_pure ?_)
  refine ok_bind (ok_seqIt (S.get (.i1)) ?_)
  refine ok_bind (ok_setT S (.i1) (by rw [List.length_set, List.length_set]; lia) fun h S => ?_)
  refine ok_bind (ok_lgo (ok_pure (ok_pure ?_)))
  have eu := set3 hu (x := v1) (y := v2) (z := v3)
  rw [eu] at S
  refine ok_bind (ok_seqIt (S.get (.i1)) ?_)
  refine ok_bind (ok_newTupleA S (vs := [a1, a2, a3]) ⟨r1, r2, r3, trivial⟩ (by simp -iota) fun T h S => ?_)
  show Ok c n (Builtin.SmallTypes.ownedTupleHandOut (.ref z) (.ref T) >>= _) _ _
  refine ok_bind ?_
  unfold Builtin.SmallTypes.ownedTupleHandOut
  refine ok_bind (ok_setZ S (.i1) fun h S => ?_)
  obtain ⟨o, ho, rfl⟩ := S.get (.i1)
  have S9 := S
  refine fun u_ u_ u_ u_ => wpAny_setField_rec ho (by simp -iota) fun h' hz hs => ⟨rfl, rfl, ?_⟩
  have S := S9.upd (.i1) (P' := isZ (rawInt T) TI TO) hs ⟨_, hz, rfl⟩
  refine ok_pure ⟨_, rfl, p T h' ?_⟩
  exact (S.weak (.i2) (P' := isTn 3) fun o q => ⟨[v1, v2, v3], rfl, q⟩)
 intro A d tk rm
 obtain ⟨o, ho, ho2⟩ := S.get .here
 have hT : (c.at h d tk).TypeIs (.ref z) "zip" := ⟨o, ho, by rw [ho2]⟩
 unfold pyNext
 refine wpAny_bind (wpAny_attempt (wpAny_callSpecial?_slot (name := Str.ofString "__next__") hT F.slot_zip_next
  (wpAny_call_entry F.slot_zip_next hT F.entry_zip_next (key.use (A := A.in1) rm.in1 fun fin h' d' tk' q1_ => (by obtain ⟨v, e, q⟩ := q1_; exact ⟨v, e, wpAny_pure ⟨rfl, rfl, q⟩⟩)) (F.args_zip_next_1 _))))
theorem ok_zip_end {W1 : Nat → Obj → Prop} {need1 : Heap → Prop} {rest : List Value} {k : Nat} {P : Option Value → Heap → Prop} (s1 : SrcN c i1 W1 xs need1) (HT : HO g TI (isTuple (.ref i1 :: rest)))
  (hn : ∀ h l', St c g h (l' ++ l) → need1 h) (S : St c g h ((z, isZ .none TI TO) :: (TO, isTn k) :: (i1, W1 xs.length) :: l))
  (p : ∀ h', St c g h' l → P none h') : Ok c (n + 1) (pyNext (.ref z)) P h := by
 intro A d tk rm
 obtain ⟨o, ho, rfl⟩ := S.get .here
 have hT : (c.at h d tk).TypeIs (.ref z) "zip" := ⟨_, ho, rfl⟩
 unfold pyNext
 refine wpAny_bind (wpAny_attempt (wpAny_callSpecial?_slot (name := Str.ofString "__next__") hT F.slot_zip_next
  (wpAny_call_entry F.slot_zip_next hT F.entry_zip_next ?_ (F.args_zip_next_1 _))))
 show wpAny _ _ (field (.ref z) 2 >>= _) _ _ _
 refine wpAny_bind (wpAny_field ho rfl (x := .bool false) rfl ?_)
 show wpAny _ _ (field (.ref z) 3 >>= _) _ _ _
 refine wpAny_bind (wpAny_field ho rfl (x := .ref TI) rfl ?_)
 obtain ⟨oT, hoT, kT, rfl⟩ := S.here HT
 refine wpAny_bind (wpAny_seqItems hoT rfl ?_)
 show wpAny _ _ (Builtin.SmallTypes.ownedTupleIsFree (.ref z) >>= _) _ _ _
 refine wpAny_bind ?_
 unfold Builtin.SmallTypes.ownedTupleIsFree
 refine wpAny_bind (wpAny_field ho rfl (x := .none) rfl (wpAny_pure ?_))
 simp -iota only [if_true]
 refine wpAny_bind (wpAny_rule ?_)
 refine wpAny_bind (wpAny_field ho rfl (x := .ref TO) rfl ?_)
 refine wpAny_bind (wpAny_setField_rec ho (by simp -iota) fun h₁ hz₁ hs₁ => ?_)
 have S1 : St c g h₁ ((z, isZ .ellipsis TI TO) :: (TO, isTn k) :: (i1, W1 xs.length) :: l) := S.upd .here hs₁ ⟨_, hz₁, rfl⟩
 refine wpAny_bind ?_
 simp -iota only [List.zipIdx_cons, List.forIn_cons]
 refine wpAny_bind (wpAny_bind (wpAny_onRaise ?_))
 show wpAny _ _ (Builtin.SmallTypes.nextOf (.ref i1) >>= _) _ _ _
 refine wpAny_bind (s1.stop (l' := (z, isZ .ellipsis TI TO) :: (TO, isTn k) :: l) (show A.in1.handled = none from rm.hand) S1 (hn h₁ [_, _, _] S1) (.i2) fun h₂ e hs₂ he => ?_)
 have S2 : St c g h₂ ((z, isZ .ellipsis TI TO) :: (TO, isTn k) :: l) := S1.del (.i2) fun b o nb x => hs₂ b o (fun q => nb (List.mem_singleton.mpr q)) x
 obtain ⟨oz, hoz, rfl⟩ := S2.get .here
 obtain ⟨oe, hoe, hce⟩ := he
 have hez : e ≠ z := fun x => by subst x; rw [hoz] at hoe; cases hoe; simp -iota at hce
 refine wpAny_setField_rec hoz (by simp -iota) fun h₃ hz₃ hs₃ => ?_
 have S3 : St c g h₃ ((z, isZ .none TI TO) :: (TO, isTn k) :: l) := S2.upd .here hs₃ ⟨_, hz₃, rfl⟩
 have hoe₃ : h₃.get? e = some oe := (hs₃.2 e hez).trans hoe
 refine wpAny_bind (wpAny_isInstance (T := "StopIteration") (b := true) ⟨oe, hoe₃, hce⟩ isSubtype_stop ?_)
 exact wpAny_pure ⟨rfl, rfl, p _ S3.tail.tail⟩
theorem ok_zip_owned {elts : List PySem.Expr} {x1 : Nat} {pos : Pos} {T : Addr} {P : Unit → Heap → Prop} (S : St c g h l) (U : Up l z (isZ (rawInt T) TI TO) (isZ .none TI TO) l') (p : ∀ h', St c g h' l' → P () h') :
  Ok c n (letOwnedTupleGo (.Tuple elts x1 pos) (.ref z) (.ref T)) P h := by
 obtain ⟨o, ho, rfl⟩ := S.at_ _ U.mem
 exact fun u_ d tk u_ => wpAny_letOwnedTupleGo_zip (s := c.at h d tk) ho fun h' hz hs => ⟨rfl, rfl, p _ (S.upd U hs ⟨_, hz, rfl⟩)⟩
theorem ok_zip_iter {f0 : Value} {P : VP} (S : St c g h l) (A : At l z (isZ f0 TI TO)) (p : P (.ref z) h) : Ok c n (pyIter (.ref z)) P h := by
 obtain ⟨o, ho, rfl⟩ := S.get A
 exact fun u_ d tk u_ => wpAny_pyIter_zip (s := c.at h d tk) ho ⟨rfl, rfl, p⟩
end
theorem typeCall_zip_3 (a b c : Value) : checkTypeCall "zip" ⟨[a, b, c], []⟩ = pure () := by kernel_rfl
theorem newCall_zip_3 (a b c : Value) : checkBuiltinCall "zip.__new__" ⟨[.type "zip", a, b, c], []⟩ = pure () := by kernel_rfl
theorem args_object_init_4 (a b c d : Value) : argsOk "object.__init__" ⟨[a, b, c, d], []⟩ := by
 unfold argsOk; rw [signature?_of (id := "object.__init__") (n := ['_', '_', 't', 'i', 'n', 'i', '_', '_']) (o := ['t', 'c', 'e', 'j', 'b', 'o']) (by kernel_rfl) F.owner_object]; kernel_rfl
theorem newClass_zip (args : List Value) : Builtin.SmallTypes.newClass "zip" ⟨.type "zip" :: args, []⟩ = pure (.type "zip", args) := by
 unfold Builtin.SmallTypes.newClass
 show (isType (.type "zip") >>= _) = _
 rw [show isType (.type "zip") = pure true from rfl, pure_bind]
 simp -iota only [Bool.not_true, Bool.false_eq_true, if_false]
 rw [sub_zip]
 rfl
section
variable {c : Cx} {n : Nat} {g h : Heap} {l l' : Led} {a b : Addr} {vs ws : List AV} {env : Env}
theorem ok_zipCall {args : List Value} {P : VP} (hct : checkTypeCall "zip" ⟨args, []⟩ = pure ()) (hcn : checkBuiltinCall "zip.__new__" ⟨.type "zip" :: args, []⟩ = pure ()) (hok : ∀ obj, argsOk "object.__init__" ⟨obj :: args, []⟩)
  (x : Ok c n (Builtin.SmallTypes.iterAll args) (fun its h' => ∃ g' l', St c g' h' l' ∧ its.length ≤ 10 ∧ ∀ z TI TO h'', St c g' h'' ((z, isZ .none TI TO) :: (TO, isTn its.length) :: (TI, isTuple its) :: l') → P (.ref z) h'') h) : Ok c (n + 2) (call (.type "zip") args) P h := by
 have key : Ok c n (Builtin.«zip.__new__» ⟨.type "zip" :: args, []⟩) (fun fin h' => ∃ v, fin = .done (.ret v) ∧ (∃ a, v = .ref a ∧ ∃ o, h'.get? a = some o ∧ o.cls = .type "zip") ∧ P v h') h := by
  unfold Builtin.«zip.__new__»
  rw [newClass_zip, pure_bind]
  simp only [List.length_nil, Nat.not_lt_zero, if_false, gt_iff_lt]
  refine ok_bind (x.mono fun its h' q1_ => ?_)
  obtain ⟨g', l', S, hz, k⟩ := q1_
  refine ok_bind (fun u_ u_ u_ u_ => wpAny_newObj_type ⟨rfl, rfl, ?_⟩ (by simp only [sizeOk, sizeLine_eq, List.size_toArray]; lia))
  have S1 := S.push (P := isTuple its) (o := { cls := .type "tuple", data := .seq its.toArray }) rfl ⟨0, rfl⟩
  generalize h'.push { cls := .type "tuple", data := .seq its.toArray } = h1 at S1
  refine ok_bind (fun u_ u_ u_ u_ => wpAny_newObj_type ⟨rfl, rfl, ?_⟩ (by simp only [sizeOk, sizeLine_eq, List.size_toArray, List.length_map]; lia))
  have S2 := S1.push (P := isTn its.length) (o := { cls := .type "tuple", data := .seq (its.map fun u_ => Value.none).toArray }) rfl ⟨its.map fun u_ => .none, by simp, 0, rfl⟩
  generalize h1.push { cls := .type "tuple", data := .seq (its.map fun u_ => Value.none).toArray } = h2 at S2
  refine ok_bind ?_
  unfold Builtin.SmallTypes.newRecord
  refine fun u_ u_ u_ u_ => wpAny_newObj_type ⟨rfl, rfl, ?_⟩ (by simp [sizeOk, sizeLine_eq, Builtin.SmallTypes.ownedTupleFields])
  have S3 := S2.push (P := isZ .none h'.objs.size h1.objs.size) (o := { cls := .type "zip", data := .fields #[.none, .bool false, .bool false, .ref h'.objs.size, .ref h1.objs.size] }) rfl rfl
  refine ok_pure ⟨_, rfl, ?_, k _ _ _ _ S3⟩
  obtain ⟨o, ho, rfl⟩ := S3.get .here
  exact ⟨_, rfl, _, ho, rfl⟩
 intro A d tk rm
 refine callType_codes (Q₁ := fun v s' => s'.gens = #[] ∧ s'.os = c.os ∧ (∃ a, v = .ref a ∧ ∃ o, s'.heap.get? a = some o ∧ o.cls = .type "zip") ∧ P v s'.heap) F.called_zip hct F.entry_object_init
  (codeAny_call_builtin F.called_zip.plain F.entry_zip_new (wpAny_of_eq hcn (wpAny_mono (key A.in1.in1 d tk rm.in1.in1) (fun fin s' q => ?_) fun u_ u_ e => e.elim))) fun obj s₁ hq => ?_
 ·obtain ⟨q1, q2, v, rfl, q3, q4⟩ := q
  exact ⟨q1, q2, q3, q4⟩
 ·obtain ⟨q1, q2, ⟨a, rfl, o, ho, hc⟩, q4⟩ := hq
  have hT : s₁.TypeIs (.ref a) "zip" := ⟨o, ho, hc⟩
  exact ⟨hT, hok _, object_init_meets F.called_zip.init.lookup F.called_zip.made (by decide) c.prog c.w A.in1 _ s₁ ⟨hT, rfl, q1, q2, q4⟩⟩
theorem ok_zip_sl {ks : List Nat} {t : Tok} {P : VP} (S : St c g h l) (A2 : HO g b (isL ws))
  (p : ∀ z TI TO i1 i2 h', St c g h' ((z, isZ .none TI TO) :: (TO, isTn 2) :: (TI, isTuple [.ref i1, .ref i2]) :: (i2, isLI b 0) :: (i1, isSI (str ks) t 0) :: l) → P (.ref z) h') : Ok c (n + 2) (call (.type "zip") [.str (str ks) t, .ref b]) P h := by
 refine ok_zipCall (F.typeCall_zip_2 _ _) (F.newCall_zip_2 _ _) (fun obj => F.args_object_init_3 obj _ _) ?_
 unfold Builtin.SmallTypes.iterAll
 simp -iota only [List.forIn_cons, List.forIn_nil]
 refine ok_bind (ok_bind (ok_bind (ok_holding (ok_iter_str S fun i1 h S => ok_pure ?_))))
 refine ok_bind (ok_bind (ok_holding (ok_iterLA S (S.here A2) fun i2 h S => ok_pure ?_)))
 exact ok_pure (ok_pure ⟨g, _, S, by simp, fun z TI TO h S => p z TI TO i1 i2 h S⟩)
theorem ok_zip_lls {ks : List Nat} {t : Tok} {P : VP} (S : St c g h l) (A1 : HO g a (isL vs)) (A2 : HO g b (isL ws))
  (p : ∀ z TI TO i1 i2 i3 h', St c g h' ((z, isZ .none TI TO) :: (TO, isTn 3) :: (TI, isTuple [.ref i1, .ref i2, .ref i3]) :: (i3, isSI (str ks) t 0) :: (i2, isLI b 0) :: (i1, isLI a 0) :: l) → P (.ref z) h') : Ok c (n + 2) (call (.type "zip") [.ref a, .ref b, .str (str ks) t]) P h := by
 refine ok_zipCall (typeCall_zip_3 _ _ _) (newCall_zip_3 _ _ _) (fun obj => args_object_init_4 obj _ _ _) ?_
 unfold Builtin.SmallTypes.iterAll
 simp -iota only [List.forIn_cons, List.forIn_nil]
 refine ok_bind (ok_bind (ok_bind (ok_holding (ok_iterLA S (S.here A1) fun i1 h S => ok_pure ?_))))
 refine ok_bind (ok_bind (ok_holding (ok_iterLA S (S.here A2) fun i2 h S => ok_pure ?_)))
 refine ok_bind (ok_bind (ok_holding (ok_iter_str S fun i3 h S => ok_pure ?_)))
 exact ok_pure (ok_pure ⟨g, _, S, by simp, fun z TI TO h S => p z TI TO i1 i2 i3 h S⟩)
end
structure SrcZ (c : Cx) (n : Nat) (g : Heap) (z : Addr) (Wl : Nat → Led) (Vl : Addr → Nat → Led) (vals : Nat → List AV) (N : Nat) (l : Led) : Prop where
 next : ∀ {h : Heap} {L : Led} {P : Option Value → Heap → Prop} (i : Nat), i < N → St c g h (L ++ (Wl i ++ l)) → (∀ T h', St c g h' ((T, isT (vals i)) :: (L ++ (Vl T i ++ l))) → P (some (.ref T)) h') → Ok c n (pyNext (.ref z)) P h
 done : ∀ {h : Heap} {L : Led} {P : Option Value → Heap → Prop}, St c g h (L ++ (Wl N ++ l)) → (∀ h', St c g h' (L ++ l) → P none h') → Ok c n (pyNext (.ref z)) P h
 self : ∀ {h : Heap} {L : Led} {P : VP} (i : Nat), St c g h (L ++ (Wl i ++ l)) → P (.ref z) h → Ok c n (pyIter (.ref z)) P h
 owned : ∀ {h : Heap} {L : Led} {P : Unit → Heap → Prop} {elts : List PySem.Expr} {k : Nat} {pos : Pos} (T : Addr) (i : Nat), St c g h ((T, isT (vals i)) :: (L ++ (Vl T i ++ l))) → (∀ h', St c g h' ((T, isT (vals i)) :: (L ++ (Wl (i + 1) ++ l))) → P () h') → Ok c n (letOwnedTupleGo (.Tuple elts k pos) (.ref z) (.ref T)) P h
theorem St.pa {c : Cx} {g h : Heap} {L X l : Led} (S : St c g h (L ++ (X ++ l))) : St c g h (X ++ (L ++ l)) := S.perm (by rw [← List.append_assoc, ← List.append_assoc]; exact List.perm_append_comm.append_right l)
theorem St.pb {c : Cx} {g h : Heap} {L X l : Led} {e : Addr × (Obj → Prop)} (S : St c g h (e :: (X ++ (L ++ l)))) : St c g h (e :: (L ++ (X ++ l))) := S.perm (.cons _ (by rw [← List.append_assoc, ← List.append_assoc]; exact List.perm_append_comm.append_right l))
theorem St.pc {c : Cx} {g h : Heap} {L X l : Led} {e : Addr × (Obj → Prop)} (S : St c g h (e :: (L ++ (X ++ l)))) : St c g h (X ++ (e :: (L ++ l))) := by
 refine S.perm (List.perm_middle.trans (.cons _ ?_))
 rw [← List.append_assoc, ← List.append_assoc]
 exact List.perm_append_comm.append_right l
theorem St.pd {c : Cx} {g h : Heap} {L X l : Led} {e : Addr × (Obj → Prop)} (S : St c g h (X ++ (e :: (L ++ l)))) : St c g h (e :: (L ++ (X ++ l))) := by
 refine S.perm (List.Perm.trans (.cons _ ?_) List.perm_middle.symm)
 rw [← List.append_assoc, ← List.append_assoc]
 exact List.perm_append_comm.append_right l
section
variable {c : Cx} {n : Nat} {g h : Heap} {l l' : Led} {z TI TO i1 i2 i3 : Addr} {xs ys zs : List AV} {env : Env}
theorem srcZ2 {W1 W2 : Nat → Obj → Prop} {need1 need2 : Heap → Prop} {vals : Nat → List AV} {N : Nat} (s1 : SrcN c i1 W1 xs need1) (s2 : SrcN c i2 W2 ys need2) (HT : HO g TI (isTuple [.ref i1, .ref i2]))
  (hn : ∀ h l', St c g h (l' ++ l) → need1 h ∧ need2 h) (hN : xs.length = N) (hv : ∀ i, i < N → ∃ a b, xs[i]? = some a ∧ ys[i]? = some b ∧ vals i = [a, b]) :
  SrcZ c (n + 1) g z (fun i => [(z, isZ .none TI TO), (TO, isTn 2), (i1, W1 i), (i2, W2 i)]) (fun T i => [(z, isZ (rawInt T) TI TO), (TO, isTn 2), (i1, W1 (i + 1)), (i2, W2 (i + 1))]) vals N l where
 next := fun {h L P} i hi S p => by
  obtain ⟨a, b, e1, e2, e3⟩ := hv i hi
  rw [e3] at p
  exact ok_zip2_next s1 s2 HT (fun h l' S => hn h (l' ++ L) (by rw [List.append_assoc]; exact S)) S.pa e1 e2 fun T h' S => p T h' (St.pb (X := [_, _, _, _]) S)
 done := fun {h L P} S p => by
  subst hN
  exact ok_zip_end (l := (i2, W2 xs.length) :: (L ++ l)) s1 HT (fun h l' S => (hn h (l' ++ (i2, W2 xs.length) :: L) (by simpa -iota using S)).1) S.pa fun h' S => p h' S.tail
 self := fun {h L P} i S p => ok_zip_iter (St.pa S) .here p
 owned := fun {h L P elts k pos} T i S p => ok_zip_owned (St.pc S) .here fun h' S => p h' (St.pd (X := [_, _, _, _]) S)
theorem srcZ3 {W1 W2 W3 : Nat → Obj → Prop} {need1 need2 need3 : Heap → Prop} {vals : Nat → List AV} {N : Nat} (s1 : SrcN c i1 W1 xs need1) (s2 : SrcN c i2 W2 ys need2) (s3 : SrcN c i3 W3 zs need3) (HT : HO g TI (isTuple [.ref i1, .ref i2, .ref i3]))
  (hn : ∀ h l', St c g h (l' ++ l) → need1 h ∧ need2 h ∧ need3 h) (hN : xs.length = N) (hv : ∀ i, i < N → ∃ a b d, xs[i]? = some a ∧ ys[i]? = some b ∧ zs[i]? = some d ∧ vals i = [a, b, d]) :
  SrcZ c (n + 1) g z (fun i => [(z, isZ .none TI TO), (TO, isTn 3), (i1, W1 i), (i2, W2 i), (i3, W3 i)]) (fun T i => [(z, isZ (rawInt T) TI TO), (TO, isTn 3), (i1, W1 (i + 1)), (i2, W2 (i + 1)), (i3, W3 (i + 1))]) vals N l where
 next := fun {h L P} i hi S p => by
  obtain ⟨a, b, d, e1, e2, e3, e4⟩ := hv i hi
  rw [e4] at p
  exact ok_zip3_next s1 s2 s3 HT (fun h l' S => hn h (l' ++ L) (by rw [List.append_assoc]; exact S)) S.pa e1 e2 e3 fun T h' S => p T h' (St.pb (X := [_, _, _, _, _]) S)
 done := fun {h L P} S p => by
  subst hN
  exact ok_zip_end (l := (i2, W2 xs.length) :: (i3, W3 xs.length) :: (L ++ l)) s1 HT (fun h l' S => (hn h (l' ++ (i2, W2 xs.length) :: (i3, W3 xs.length) :: L) (by simpa -iota using S)).1) S.pa fun h' S => p h' S.tail.tail
 self := fun {h L P} i S p => ok_zip_iter (St.pa S) .here p
 owned := fun {h L P elts k pos} T i S p => ok_zip_owned (St.pc S) .here fun h' S => p h' (St.pd (X := [_, _, _, _, _]) S)
inductive ZlVal (c : Cx) (g : Heap) (xs : List Str) (Fi : AV) (A : AM → Led) (v : Value) (h : Heap) : Prop
 | mk (m' : AM) (hm : m'.map (·.1) = xs) (rv : Fi.rep v) (S : St c g h (A m')) : ZlVal c g xs Fi A v h
inductive ZlGo (c : Cx) (n : Nat) (env : Env) (elt target : PySem.Expr) (scope : Scope) (cl : List (Str × Addr)) (xs : List Str) (P : VP) (itv : Value) (h₂ : Heap) : Prop
 | mk (g : Heap) (z : Addr) (Wl : Nat → Led) (Vl : Addr → Nat → Led) (vals : Nat → List AV) (N : Nat) (l : Led) (e : itv = .ref z) (src : SrcZ c n g z Wl Vl vals N l) (hN : N ≤ 1000) (S : St c g h₂ (Wl 0 ++ l)) (F : Nat → AV)
   (step : ∀ i C D ys m h T, i < N → m.map (·.1) = xs → St c g h ((T, isT (vals i)) :: (C, isFr m) :: (D, isL ys) :: (Wl (i + 1) ++ l)) →
    Ok c n (assign target (compEnvC scope cl C env) (.ref T)) (kEval c n elt (compEnvC scope cl C env) (ZlVal c g xs (F i) (fun m' => (T, isT (vals i)) :: (C, isFr m') :: (D, isL ys) :: (Wl (i + 1) ++ l)))) h)
   (fin : ∀ D h, St c g h ((D, isL ((List.range N).map F)) :: l) → P (.ref D) h) : ZlGo c n env elt target scope cl xs P itv h₂
inductive ZlJ (c : Cx) (g : Heap) (xs : List Str) (C D : Addr) (Wl : Nat → Led) (F : Nat → AV) (l : Led) (i : Nat) (h : Heap) : Prop
 | mk (m : AM) (hm : m.map (·.1) = xs) (S : St c g h ((C, isFr m) :: (D, isL ((List.range i).map F)) :: (Wl i ++ l))) : ZlJ c g xs C D Wl F l i h
theorem ok_zcompL {elt iter : PySem.Expr} {elts : List PySem.Expr} {kt : Nat} {tpos : Pos} {scope : Scope} {pos : Pos} {cl : List (Str × Addr)} {P : VP} (xs : List Str)
  (hs : ∀ x, foldedSetIterable iter env x = pure x) (hclos : closureFor scope env = pure cl) (hkind : scope.kind = .function)
  (hnames : scope.names.all (fun x => x.2 != .cell && (x.2 != .local || scope.names.lookup x.1 == some .local)) = true) (hloc : localsOf scope = xs.map fun k => (k, none)) (nd : xs.Nodup)
  (x : Ok c n (eval iter env) (kIter c n (ZlGo c n env elt (.Tuple elts kt tpos) scope cl xs P)) h) :
  Ok c n (eval (.ListComp elt [⟨.Tuple elts kt tpos, iter, [], 0⟩] scope pos) env) P h := by
 refine ok_ListCompU (use := none) xs hs hclos hkind hnames hloc nd (x.mono fun v h₁ zz => zz.mono fun itv h₂ zz => ?_)
 obtain ⟨g, z, Wl, Vl, vals, N, l, rfl, src, hN, S, F, step, fin⟩ := zz
 refine ⟨g, _, S, fun D C h₄ S₄ => ?_⟩
 have S₄ : St c g h₄ ([(C, isFr (xs.map fun k => (k, none))), (D, isL [])] ++ (Wl 0 ++ l)) := (S₄.weak (.i1) (P' := isL []) fun o q => ⟨[], trivial, q⟩).toFr
 refine ⟨src.self 0 S₄ ⟨rfl, rfl⟩, ?_⟩
 refine okC_compL (d := 0) (target := .Tuple elts kt tpos) (iter := iter) (ifs := []) rfl rfl N (ZlJ c g xs C D Wl F l) ?_ ⟨_, by simp -iota [Function.comp_def], S₄⟩
 rintro i T hT h hi ⟨m, hm, S⟩
 rcases Nat.lt_or_ge i N with hlt | hge
 ·refine src.next (L := [(C, isFr m), (D, isL ((List.range i).map F))]) i hlt S fun A h S => ?_
  refine src.owned A i S fun h S => ?_
  refine (step i C D _ m h A hlt hm S).mono fun u_ h zz => ok_tests_nil ⟨fun u_ => zz.mono fun v h q1_ => ?_, fun e => by cases e⟩
  obtain ⟨m', hm', rv, S⟩ := q1_
  refine ok_appendA S (.i2) rv (by rw [List.length_map, List.length_range]; lia) fun h S => hT _ hlt ⟨m', hm', ?_⟩
  rw [List.range_succ, List.map_append]
  exact S.tail
 ·obtain rfl : i = N := Nat.le_antisymm hi hge
  refine src.done (L := [(C, isFr m), (D, isL ((List.range i).map F))]) S fun h S => ?_
  obtain ⟨m', S'⟩ := S.toNs
  exact ⟨g, _, m', S', fun h₆ S => fin D h₆ S⟩
end
theorem Reps.piece {vs : List AV} {us : List Value} (r : Reps vs us) (i j : Option Int) : Reps (piece vs i j) (piece us i j) := by
 unfold Mine.piece
 rw [r.len]
 exact (r.drop _).take _
section
variable {c : Cx} {n : Nat} {g h : Heap} {l l' : Led} {a b : Addr} {vs ws : List AV} {env : Env} {i j : Int} {t u : Tok}
theorem PartV.is {i : Option Int} {v : Value} (x : PartV i v) : IsPart v i := by
 cases x with
 | none => exact .none
 | some => exact .int _ _
theorem ok_sliceL {va vb : Value} {i j : Option Int} {P : VP} (S : St c g h ((a, fun o => o = { cls := .type "slice", data := .fields #[va, vb, .none] }) :: l)) (pa : PartV i va) (pb : PartV j vb) (A1 : HO h b (isL vs)) (hz : vs.length ≤ 1000000)
  (p : ∀ x h', St c g h' ((x, isL (piece vs i j)) :: l) → P (.ref x) h') : GetI c n (.ref b) (.ref a) P h := by
 obtain ⟨us, r, q⟩ := isL.is A1
 have hl := r.len
 obtain ⟨o, ho, rfl⟩ := S.get .here
 refine ⟨"list", _, fun d tk => q.typeIs (s := c.at h d tk), slot_list_getitem.lookup, fun A d tk rm => ?_⟩
 refine wpAny_getItem_list_slice (s := c.at h d tk) q ⟨_, ho, rfl, rfl⟩ pa.is pb.is .none (by simp -iota) ⟨rfl, rfl, p _ _ ?_⟩ (by rw [List.size_toArray, sizeLine_eq]; lia)
 have S1 := S.push (P := isL (piece vs i j)) (o := { cls := .type "list", data := .seq (slicePick us.toArray i j none) }) rfl ⟨piece us i j, r.piece i j, 0, by rw [kms_pick_eq]; rfl⟩
 exact S1.del (.i1) (Same.refl _ _)
theorem cnt_count (k : Nat) : ∀ ks : List Nat, PyProof.Rows.cnt k ks = ks.count k
 | [] => rfl
 | x :: r => by
  rw [cnt_cons, cnt_count k r, List.count_cons]
  by_cases e : x = k
  ·subst e; simp -iota; lia
  ·simp -iota [e]
theorem ok_countS {ks : List Nat} {k : Nat} {P : VP} (p : ∀ t, P (.int (ks.count k : Nat) t) h) : Ok c n (call (.builtin "str.count") [.str (str ks) t, .str (str [k]) u]) P h := fun A d tk r => by
 refine SC.count (s := c.at h d tk) ⟨rfl, rfl, ?_⟩
 have e : Txt.count (str ks) (str [k]) = (ks.count k : Nat) := by
  rw [show str [k] = (⟨#[k]⟩ : Str) from rfl, count_is, ← cnt_count]
  show PyProof.Rows.cnt k (str ks).cps.toList = _
  simp -iota [str]
 rw [e]; exact p _
theorem reads_strs {h : Heap} {xs : List (List Nat)} : ∀ {us : List Value}, Reps (strsOf xs) us → ReadsAll h us (kqdPs (xs.map fun k => .str (str k))) [] := by
 induction xs with
 | nil => intro us r; cases us with
  | nil => exact .nil
  | cons v vs => exact r.elim
 | cons k xs ih => intro us r; cases us with
  | nil => exact r.elim
  | cons u us => obtain ⟨⟨t, rfl⟩, r⟩ := r; exact ReadsAll.cons (.str _ _) (ih r)
theorem reads_pairs {h : Heap} {as : List Addr} {rs : List (List Nat × List Nat)} (x : PairsAt h as rs) : ReadsAll h (as.map Value.ref) (kqdPs (rs.map fun r => .tuple [.str (str r.1), .str (str r.2)])) [] :=
 x.ind (M := fun as rs => ReadsAll h (as.map Value.ref) (kqdPs (rs.map fun r => .tuple [.str (str r.1), .str (str r.2)])) []) .nil fun x u_ q => by
  obtain ⟨o, ho, us, rr, k, e⟩ := x
  subst e
  obtain ⟨t1, t2, rfl⟩ := rr.two
  exact ReadsAll.cons (Reads.tuple ho rfl rfl (ReadsAll.cons (.str _ _) (ReadsAll.cons (.str _ _) .nil))) q
theorem strOk_of {ks : List Nat} (h : ∀ k ∈ ks, k < 1000) : PyData.strOk (str ks) = true := by
 unfold PyData.strOk
 rw [Array.all_eq_true_iff_forall_mem]
 intro x hx
 have : x ∈ ks := by simpa -iota [str] using hx
 have := h x this
 exact decide_eq_true (by lia)
theorem ok_ne_data {xs ys : List Value} {ds : List Dat} {P : VP} (A1 : HO h a (isList xs)) (A2 : HO h b (isList ys)) (r1 : ∃ as, ReadsAll h xs (kqdPs ds) as) (r2 : ∃ as, ReadsAll h ys (kqdPs ds) as) (hok : ∀ d ∈ ds, kqdOk 8 d = true)
  (p : P (.bool false) h) : Ok c (n + 2) (compareOp .NotEq (.ref a) (.ref b)) P h := by
 obtain ⟨o1, e1, k1, rfl⟩ := A1
 obtain ⟨o2, e2, k2, rfl⟩ := A2
 obtain ⟨as, r1⟩ := r1
 obtain ⟨bs, r2⟩ := r2
 have la := kqd_lay 9 (.list ds) (by simpa -iota [kqdOk] using hok)
 rw [kqdP] at la
 have e : PyData.eqv (.list (kqdPs ds)) (.list (kqdPs ds)) = true := by
  have q := kqd_eqv 9 (.list ds) (.list ds) 9 (by simpa -iota [kqdOk] using hok) (by simpa -iota [kqdOk] using hok)
  rw [kqdP] at q
  exact q.mpr rfl
 have hsh : SeqAt.shaped (PyData.list (kqdPs ds)) = true := by
  unfold SeqAt.shaped; rw [la.1, Bool.true_and]; exact decide_eq_true (Nat.le_trans la.2 (by decide))
 intro A d tk rm
 refine ne_dataH (s := c.at h d tk) (reads_list_at e1 rfl rfl (by simpa -iota using r1)) (reads_list_at e2 rfl rfl (by simpa -iota using r2)) hsh hsh (by have := rm.2.1; lia) ⟨rfl, rfl, ?_⟩
 rw [e]; exact p
theorem ok_ne_strs {xs : List (List Nat)} {P : VP} (A1 : HO h a (isL (strsOf xs))) (A2 : HO h b (isL (strsOf xs))) (hk : ∀ x ∈ xs, ∀ k ∈ x, k < 1000) (p : P (.bool false) h) : Ok c (n + 2) (compareOp .NotEq (.ref a) (.ref b)) P h := by
 obtain ⟨o1, e1, us, r1, q1⟩ := A1
 obtain ⟨o2, e2, us2, r2, q2⟩ := A2
 refine ok_ne_data ⟨o1, e1, q1⟩ ⟨o2, e2, q2⟩ ⟨_, reads_strs r1⟩ ⟨_, reads_strs r2⟩ (fun d hd => ?_) p
 obtain ⟨x, hx, rfl⟩ := List.mem_map.mp hd
 exact strOk_of (hk x hx)
theorem ok_ne_pairs {as bs : List Addr} {rs : List (List Nat × List Nat)} {P : VP} (A1 : HO h a (isL (refs as))) (A2 : HO h b (isL (refs bs))) (R1 : PairsAt h as rs) (R2 : PairsAt h bs rs) (hk : ∀ r ∈ rs, (∀ k ∈ r.1, k < 1000) ∧ ∀ k ∈ r.2, k < 1000) (p : P (.bool false) h) : Ok c (n + 2) (compareOp .NotEq (.ref a) (.ref b)) P h := by
 obtain ⟨o1, e1, us, r1, q1⟩ := A1
 obtain ⟨o2, e2, us2, r2, q2⟩ := A2
 have f1 := refs_reps r1
 have f2 := refs_reps r2
 subst f1 f2
 refine ok_ne_data ⟨o1, e1, q1⟩ ⟨o2, e2, q2⟩ ⟨_, reads_pairs R1⟩ ⟨_, reads_pairs R2⟩ (fun d hd => ?_) p
 obtain ⟨x, hx, rfl⟩ := List.mem_map.mp hd
 have := hk x hx
 simp -iota [kqdOk, strOk_of this.1, strOk_of this.2]
noncomputable def bitsD (ns : List Int) : PyData := .list (ns.map .int)
theorem ok_strBits {ns : List Int} {P : VP} (S : St c g h l) (A1 : HO h a (isL (intAV ns))) (hn : ∀ x ∈ ns, x = 0 ∨ x = 1) (hz : ns.length ≤ 1000) (p : ∀ t h', St c g h' l → P (.str (bitsD ns).shown t) h') : Ok c (n + 1) (call (.type "str") [.ref a]) P h := by
 obtain ⟨o1, e1, us, r1, k1, rfl⟩ := A1
 have rd : ∀ {ns : List Int} {us : List Value}, Reps (intAV ns) us → ReadsAll h us (ns.map .int) [] := by
  intro ns
  induction ns with
  | nil => intro us r; cases us with | nil => exact .nil | cons _ _ => exact r.elim
  | cons x ns ih =>
   intro us r
   cases us with
   | nil => exact r.elim
   | cons u us =>
    obtain ⟨⟨t, rfl⟩, r⟩ := r
    exact ReadsAll.cons (.int _ _) (ih r)
 have R : Reads h (.ref a) (bitsD ns) [a] := reads_list_at e1 rfl rfl (by simpa -iota using rd r1)
 have hs : (bitsD ns).showable = true := by
  show PyData.showableAll (ns.map .int) = true
  clear p r1 R rd hz
  induction ns with
  | nil => rfl
  | cons x ns ih =>
   rw [List.map_cons]
   show (decide (x.natAbs.log2 < 1920) && PyData.showableAll (ns.map .int)) = true
   rw [ih fun y hy => hn y (List.mem_cons_of_mem _ hy), Bool.and_true]
   rcases hn x List.mem_cons_self with rfl | rfl <;> decide
 have hd : (bitsD ns).hasDict = false := by
  show PyData.hasDictAll (ns.map .int) = false
  clear p r1 R rd hz hn hs
  induction ns with
  | nil => rfl
  | cons x ns ih => rw [List.map_cons]; show (false || PyData.hasDictAll (ns.map .int)) = false; rw [ih]; rfl
 have hls : (bitsD ns).leavesShort 8 = true := by
  show PyData.leavesShortAll 8 (ns.map .int) = true
  clear p r1 R rd hz hs hd
  induction ns with
  | nil => rfl
  | cons x ns ih =>
   rw [List.map_cons]
   show (decide ((PyData.shown (.int x)).length ≤ 8) && PyData.leavesShortAll 8 (ns.map .int)) = true
   rw [ih fun y hy => hn y (List.mem_cons_of_mem _ hy), Bool.and_true]
   rcases hn x List.mem_cons_self with rfl | rfl <;> decide +kernel
 have hb : (bitsD ns).bulk = ns.length := by
  show PyData.bulkAll (ns.map .int) = _
  clear p r1 R rd hz hs hd hn hls
  induction ns with
  | nil => rfl
  | cons x ns ih => rw [List.map_cons]; show 0 + 1 + PyData.bulkAll (ns.map .int) = _; rw [ih, List.length_cons]; lia
 have hdp : (bitsD ns).depth ≤ 2 := by
  show PyData.depthAll (ns.map .int) + 1 ≤ 2
  have : PyData.depthAll (ns.map .int) = 0 := by
   clear p r1 R rd hz hs hd hn hls hb
   induction ns with
   | nil => rfl
   | cons x ns ih => rw [List.map_cons]; show max 0 (PyData.depthAll (ns.map .int)) = 0; rw [ih]; rfl
  lia
 intro A d tk rm
 exact PySem.str_of_reads (s := c.at h d tk) R hs (PyData.noDict_hsm hd) rm.guard (by have := rm.2.1; lia) (fun u_ u_ e => e) (fun h' u tk hk => ⟨rfl, rfl, p u h' (S.same0 fun b o u_ e => hk b o e)⟩)
  (PyData.shown_fits_bulk (B := 8) (by decide) (by decide) hls (by rw [hb]; lia))
set_option tactic.hygienic true in
theorem St.freezeAll (S : St c g h l) : ∃ g', Gr g g' ∧ St c g' h l ∧ ∀ b o, h.get? b = some o → b ∉ l.map (·.1) → g'.get? b = some o := by
 have le : ∀ b o, g.get? b = some o → (hide h (l.map (·.1))).get? b = some o := fun b o e => by
  rw [hide_get]
  split
  ·rename_i hm
   obtain ⟨p, hp, rfl⟩ := List.mem_map.mp hm
   rw [S.off p hp] at e; cases e
  ·exact S.keep _ _ e
 refine ⟨hide h (l.map (·.1)), fun b o e => le b o e, ⟨S.top.keeps le, fun b o e => ?_, S.at_, S.nd, fun p hp => ?_, S.low⟩, fun b o e hn => ?_⟩
 ·rw [hide_get] at e
  split at e
  ·cases e
  ·exact e
 ·rw [hide_get, if_pos (List.mem_map_of_mem hp)]
 ·rw [hide_get, if_neg hn]; exact e
theorem PairsAt.lift {h g : Heap} {as : List Addr} {rs : List (List Nat × List Nat)} (x : PairsAt h as rs) : (∀ a ∈ as, ∀ o, h.get? a = some o → g.get? a = some o) → PairsAt g as rs :=
 x.ind (M := fun as rs => (∀ a ∈ as, ∀ o, h.get? a = some o → g.get? a = some o) → PairsAt g as rs) (fun u_ => trivial) fun x u_ q k => ⟨x.imp fun o y => ⟨k _ List.mem_cons_self o y.1, y.2⟩, q fun b hb => k b (List.mem_cons_of_mem _ hb)⟩
noncomputable def isView (d : Addr) : Obj → Prop := fun o => o.cls = .type "dict_items" ∧ o.data = .fields #[.ref d]
theorem ok_itemsV {K : Type} [DecidableEq K] [Keyed K] {m : DM K} {d : Addr} {P : VP} (S : St c g h l) (A : HO h d (isDic c m)) (hd : NotSys d) (p : ∀ v h', St c g h' ((v, isView d) :: l) → P (.ref v) h') : Ok c n (call (.builtin "dict.items") [.ref d]) P h := by
 obtain ⟨kvs, r, q⟩ := isDk.of A
 refine fun u_ dr tk u_ => call_meetsIn (s := c.at h dr tk) PySem.F.slot_dict_items (Heap.MapOf.typeIs (s := c.at h dr tk) q.mapOf) PySem.F.entry_dict_items (PySem.F.args_dict_items_1 _) (meets_dict_items (Keyed.knd (K := K) c.prog c.w) d hd) ⟨⟨kvs, q⟩, rfl, rfl, p _ _ (S.push rfl ⟨rfl, rfl⟩)⟩
theorem ok_listItemsD {xs : List (List Nat × List Nat)} {m : DM Str} {d v : Addr} {P : VP} (hm : m = xs.map fun p => (str p.1, .str p.2)) (S : St c g h ((v, isView d) :: l)) (D : HO g d (isDic c m)) (hz : xs.length ≤ 1000)
  (p : ∀ g' x as h', Gr g g' → PairsAt g' as xs → St c g' h' ((x, isL (refs as)) :: l) → P (.ref x) h') : Ok c n (call (.type "list") [.ref v]) P h := by
 obtain ⟨kvs, r, q⟩ := isDk.of (S.here D)
 obtain ⟨ep, q⟩ := q.dictAt
 have hl := r.len
 have hml : m.length = xs.length := by rw [hm, List.length_map]
 obtain ⟨o, ho, hv⟩ := S.get .here
 intro A dr tk rm
 refine kdx_call (s := c.at h dr tk) rm.hand ⟨o, ho, hv.1, hv.2⟩ q (by rw [hl, hml, sizeLine_eq]; lia) fun h' tk' acc cc as hk hS hal hG hacc => ⟨rfl, rfl, ?_⟩
 have S1 : St c g h' ((v, isView d) :: l) := S.same0 fun b o u_ e => hk b o e
 have pr : ∀ (as : List Addr) (kvs : List (Str × Value)) (m : DM Str) (xs : List (List Nat × List Nat)), RepD m kvs → (m = xs.map fun p => (str p.1, .str p.2)) → as.length = kvs.length →
   (∀ (j : Nat) (a : Addr), as[j]? = some a → ∃ key k x, kvs[j]? = some (k, x) ∧ (strKind c.prog c.w).is k key = true ∧ h'.get? a = some { cls := .type "tuple", data := .seq #[key, x] }) → PairsAt h' as xs := by
  intro as
  induction as with
  | nil =>
   intro kvs m xs r hm hl _
   cases kvs with
   | cons _ _ => simp -iota at hl
   | nil =>
   cases m with
   | cons _ _ => exact r.elim
   | nil =>
   cases xs with
   | nil => trivial
   | cons _ _ => simp -iota at hm
  | cons a as ih =>
   intro kvs m xs r hm hl hp
   cases kvs with
   | nil => simp -iota at hl
   | cons kv kvs =>
   cases m with
   | nil => exact r.elim
   | cons km m =>
   cases xs with
   | nil => simp -iota at hm
   | cons x xs =>
   obtain ⟨k1, k2⟩ := kv
   obtain ⟨m1, m2⟩ := km
   simp -iota only [List.map_cons, List.cons.injEq, Prod.mk.injEq] at hm
   obtain ⟨⟨rfl, rfl⟩, hm⟩ := hm
   obtain ⟨rfl, rv, r⟩ := r
   obtain ⟨key, kk, y, e1, e2, e3⟩ := hp 0 a rfl
   simp -iota at e1
   obtain ⟨rfl, rfl⟩ := e1
   have rk : (Keyed.av (K := Str) (str x.1)).rep key := Keyed.back (K := Str) (prog := c.prog) (w := c.w) e2
   have rk : AV.rep (.str x.1) key := by
    have e : (str x.1).cps.toList = x.1 := by simp -iota [str]
    show AV.rep (.str x.1) key
    rw [← e]; exact rk
   refine ⟨⟨_, e3, [key, k2], ⟨rk, rv, trivial⟩, 0, rfl⟩, ih kvs m xs r hm (by simpa -iota using hl) fun j a ha => hp (j + 1) a (by simpa -iota using ha)⟩
 have PA := pr as kvs m xs r hm hal hG.pairs
 have reps : ∀ as : List Addr, Reps (refs as) (as.map Value.ref) := by
  intro as
  induction as with
  | nil => trivial
  | cons a as ih => exact ⟨rfl, ih⟩
 have S2 : St c g h' ((h.objs.size, isL (refs as)) :: (v, isView d) :: l) := S1.add S rfl hS ⟨as.map Value.ref, reps as, cc, by rw [← hacc]⟩ (Nat.le_refl _)
 have S3 := S2.del (.i1) (Same.refl _ _)
 obtain ⟨g', kg, S4, fz⟩ := S3.freezeAll
 refine p g' _ as h' kg (PA.lift fun a ha o ho => fz a o ho fun hm => ?_) S4
 have hab := hG.above a ha
 have hab : h.objs.size < a := hab
 rcases List.mem_cons.mp hm with e | hm
 ·exact absurd e (Nat.ne_of_gt hab)
 ·obtain ⟨q, hq, e⟩ := List.mem_map.mp hm
  have := S.lt (List.mem_cons_of_mem _ hq)
  rw [e] at this
  exact absurd this (Nat.lt_asymm hab)
end
section
variable {c : Cx} {n : Nat} {g h : Heap} {l l' : Led} {env : Env} {a : Addr}
inductive ZdVal (c : Cx) {K : Type} [DecidableEq K] [Keyed K] (g : Heap) (xs : List Str) (k : K) (Fi : AV) (A : AM → Option AV → Led) (kv vv : Value) (h : Heap) : Prop
 | mk (m' : AM) (o' : Option AV) (ex : Led) (hm : m'.map (·.1) = xs) (rk : (Keyed.av k).rep kv) (rv : Fi.rep vv) (S : St c g h (ex ++ A m' o')) : ZdVal c g xs k Fi A kv vv h
inductive ZdGo (c : Cx) (n : Nat) (K : Type) [DecidableEq K] [Keyed K] (env : Env) (kx vx target : PySem.Expr) (scope : Scope) (cl : List (Str × Addr)) (xc : Str) (xs : List Str) (use : Option (Value → Sem Unit)) (P : VP) (itv : Value) (h₂ : Heap) : Prop
 | mk (g : Heap) (z : Addr) (Wl : Nat → Led) (Vl : Addr → Nat → Led) (vals : Nat → List AV) (N : Nat) (l : Led) (e : itv = .ref z) (src : SrcZ c n g z Wl Vl vals N l) (hN : N ≤ 1000) (S : St c g h₂ (Wl 0 ++ l)) (kf : Nat → K) (F : Nat → AV)
   (step : ∀ i C D ys m o h T, i < N → m.map (·.1) = xs → St c g h ((T, isT (vals i)) :: (C, isFr m) :: (C + 1, isC o) :: (D, isDic (K := K) c ys) :: (Wl (i + 1) ++ l)) →
    Ok c n (assign target (compEnvC scope ((xc, C + 1) :: cl) C env) (.ref T)) (kEval c n kx (compEnvC scope ((xc, C + 1) :: cl) C env) (kEval2 c n vx (compEnvC scope ((xc, C + 1) :: cl) C env) (ZdVal c g xs (kf i) (F i) (fun m' o' => (C, isFr m') :: (C + 1, isC o') :: (D, isDic (K := K) c ys) :: (Wl (i + 1) ++ l))))) h)
   (fin : FinL c n g use P (isDic (K := K) c ((List.range N).foldl (fun d i => putAt d (kf i) (F i)) [])) l) : ZdGo c n K env kx vx target scope cl xc xs use P itv h₂
inductive ClVal (c : Cx) (g : Heap) (xs : List Str) (Fi : AV) (A : AM → Option AV → Led) (v : Value) (h : Heap) : Prop
 | mk (m' : AM) (o' : Option AV) (ex : Led) (hm : m'.map (·.1) = xs) (rv : Fi.rep v) (S : St c g h (ex ++ A m' o')) : ClVal c g xs Fi A v h
inductive ClGo (c : Cx) (n : Nat) (env : Env) (elt : PySem.Expr) (scope : Scope) (cl : List (Str × Addr)) (xc : Str) (xs : List Str) (use : Option (Value → Sem Unit)) (P : VP) (itv : Value) (h₂ : Heap) : Prop
 | mk (g : Heap) (it : Addr) (W : Nat → Obj → Prop) (items : List AV) (need : Heap → Prop) (l : Led) (e : itv = .ref it) (src : SrcA c it W items need) (hN : items.length ≤ 1000000) (S : St c g h₂ ((it, W 0) :: l))
   (hneed : ∀ h l', St c g h (l' ++ l) → need h) (F : Nat → AV)
   (step : ∀ i C D ys m h av, items[i]? = some av → m.map (·.1) = xs → St c g h ((C, isFr m) :: (C + 1, isC (some av)) :: (D, isL ys) :: (it, W (i + 1)) :: l) →
    Ok c n (eval elt (compEnvC scope ((xc, C + 1) :: cl) C env)) (ClVal c g xs (F i) (fun m' o' => (C, isFr m') :: (C + 1, isC o') :: (D, isL ys) :: (it, W (i + 1)) :: l)) h)
   (fin : FinL c n g use P (isL ((List.range items.length).map F)) l) : ClGo c n env elt scope cl xc xs use P itv h₂
inductive ZdJ (c : Cx) {K : Type} [DecidableEq K] [Keyed K] (g : Heap) (xs : List Str) (C D : Addr) (Wl : Nat → Led) (kf : Nat → K) (F : Nat → AV) (l : Led) (i : Nat) (h : Heap) : Prop
 | mk (m : AM) (o : Option AV) (ys : DM K) (hm : m.map (·.1) = xs) (hy : ys = (List.range i).foldl (fun d i => putAt d (kf i) (F i)) []) (hyl : ys.length ≤ i) (S : St c g h ((C, isFr m) :: (C + 1, isC o) :: (D, isDic (K := K) c ys) :: (Wl i ++ l))) : ZdJ c g xs C D Wl kf F l i h
inductive ClJ (c : Cx) (g : Heap) (xs : List Str) (C D it : Addr) (W : Nat → Obj → Prop) (F : Nat → AV) (l : Led) (i : Nat) (h : Heap) : Prop
 | mk (m : AM) (o : Option AV) (hm : m.map (·.1) = xs) (S : St c g h ((C, isFr m) :: (C + 1, isC o) :: (D, isL ((List.range i).map F)) :: (it, W i) :: l)) : ClJ c g xs C D it W F l i h
theorem ok_zcompDU1 (K : Type) [DecidableEq K] [Keyed K] {use : Option (Value → Sem Unit)} {kx vx iter : PySem.Expr} {elts : List PySem.Expr} {kt : Nat} {tpos : Pos} {scope : Scope} {pos : Pos} {cl : List (Str × Addr)} {xc : Str} {P : VP} (xs : List Str)
  (hs : ∀ x, foldedSetIterable iter env x = pure x) (hclos : closureFor scope env = pure cl) (hkind : scope.kind = .function)
  (hnames : scope.names.all (fun x => x.2 != .local || scope.names.lookup x.1 == some .local) = true) (hloc : localsOf scope = xs.map fun k => (k, none)) (nd : xs.Nodup)
  (hcl1 : ∀ (C : Addr) (l : Led), cellLed (C + 1) scope.names l = (C + 1, isCell none) :: l) (hcf : ∀ C : Addr, cellsFrom (C + 1) scope.names cl = (xc, C + 1) :: cl)
  (x : Ok c n (eval iter env) (kIter c n (ZdGo c n K env kx vx (.Tuple elts kt tpos) scope cl xc xs use P)) h) :
  Ok c n (comprehension (.DictComp kx vx [⟨.Tuple elts kt tpos, iter, [], 0⟩] scope pos) scope env (firstIterPos [⟨.Tuple elts kt tpos, iter, [], 0⟩] pos) newDict false (eval iter env) use) P h := by
 refine ok_compUX rfl rfl hs hclos hkind (fun u_ u_ u_ u_ => rfl) (fun u_ u_ u_ => rfl) hnames (by rw [hloc]; simpa -iota [Function.comp_def] using nd) (x.mono fun v h₁ zz => zz.mono fun itv h₂ zz => ?_)
 obtain ⟨g, z, Wl, Vl, vals, N, l, rfl, src, hN, S, kf, F, step, fin⟩ := zz
 refine ok_newDictA (K := K) S fun D h₃ S₃ => ⟨g, _, S₃, fun C h₄ S₄ => ?_⟩
 rw [hcl1, hloc] at S₄
 rw [hcf]
 have S₄ := (S₄.weak .here (P' := isC none) fun o q => q).f2
 have S₄ : St c g h₄ ([(C, isFr (xs.map fun k => (k, none))), (C + 1, isC none), (D, isDic (K := K) c [])] ++ (Wl 0 ++ l)) := S₄.toFr
 refine ⟨src.self 0 S₄ ⟨rfl, rfl⟩, ?_⟩
 refine okC_compD (d := 0) (target := .Tuple elts kt tpos) (iter := iter) (ifs := []) rfl rfl N (ZdJ c g xs C D Wl kf F l) ?_ ⟨_, none, [], by simp -iota [Function.comp_def], rfl, Nat.le_refl _, S₄⟩
 rintro i T hT h hi ⟨m, o, ys, hm, hy, hyl, S⟩
 rcases Nat.lt_or_ge i N with hlt | hge
 ·refine src.next (L := [(C, isFr m), (C + 1, isC o), (D, isDic (K := K) c ys)]) i hlt S fun A h S => ?_
  refine src.owned A i S fun h S => ?_
  refine (step i C D _ m o h A hlt hm S).mono fun u_ h zz => ok_tests_nil ⟨fun u_ => zz.mono fun kv h zz => zz.mono fun vv h q1_ => ?_, fun e => by cases e⟩
  obtain ⟨m', o', ex, hm', rk, rv, S⟩ := q1_
  refine ok_dictSetA S.right (.i2) rk rv (by lia) fun h S => hT _ hlt ⟨m', o', putAt ys (kf i) (F i), hm', ?_, Nat.le_trans (putAt_len ys (kf i) (F i)) (Nat.succ_le_succ hyl), S⟩
  rw [List.range_succ, List.foldl_append, ← hy]; rfl
 ·obtain rfl : i = N := Nat.le_antisymm hi hge
  refine src.done (L := [(C, isFr m), (C + 1, isC o), (D, isDic (K := K) c ys)]) S fun h S => ?_
  obtain ⟨m', S'⟩ := S.toNs
  exact fin D C m' h (hy ▸ S'.f2.tail)
theorem ok_cellLU {use : Option (Value → Sem Unit)} {elt iter : PySem.Expr} {tpos : Pos} {scope : Scope} {pos : Pos} {cl : List (Str × Addr)} {xc : Str} {P : VP} (xs : List Str)
  (hs : ∀ x, foldedSetIterable iter env x = pure x) (hclos : closureFor scope env = pure cl) (hkind : scope.kind = .function)
  (hnames : scope.names.all (fun x => x.2 != .local || scope.names.lookup x.1 == some .local) = true) (hloc : localsOf scope = xs.map fun k => (k, none)) (nd : xs.Nodup)
  (hcl1 : ∀ (C : Addr) (l : Led), cellLed (C + 1) scope.names l = (C + 1, isCell none) :: l) (hcf : ∀ C : Addr, cellsFrom (C + 1) scope.names cl = (xc, C + 1) :: cl)
  (hk : ∀ C : Addr, (compEnvC scope ((xc, C + 1) :: cl) C env).kindOf xc = some .cell)
  (x : Ok c n (eval iter env) (kIter c n (ClGo c n env elt scope cl xc xs use P)) h) :
  Ok c n (comprehension (.ListComp elt [⟨.Name xc tpos, iter, [], 0⟩] scope pos) scope env (firstIterPos [⟨.Name xc tpos, iter, [], 0⟩] pos) (newList []) false (eval iter env) use) P h := by
 refine ok_compUX rfl rfl hs hclos hkind (fun u_ u_ u_ u_ => rfl) (fun u_ u_ u_ => rfl) hnames (by rw [hloc]; simpa [Function.comp_def] using nd) (x.mono fun v h₁ zz => zz.mono fun itv h₂ zz => ?_)
 obtain ⟨g, it, W, items, need, l, rfl, src, hN, S, hneed, F, step, fin⟩ := zz
 refine ok_newListA S (vs := []) trivial (by simp) fun D h₃ S₃ => ⟨g, _, S₃, fun C h₄ S₄ => ?_⟩
 rw [hcl1, hloc] at S₄
 rw [hcf]
 have S₄ := (S₄.weak .here (P' := isC none) fun o q => q).f2
 have S₄ : St c g h₄ ((C, isFr (xs.map fun k => (k, none))) :: (C + 1, isC none) :: (D, isL []) :: (it, W 0) :: l) := S₄.toFr
 refine ⟨src.self S₄ (hneed h₄ [(C, isFr _), (C + 1, isC none), (D, isL _), (it, W 0)] S₄) (.i3) ⟨rfl, rfl⟩, ?_⟩
 refine okC_compL (d := 0) (target := .Name xc tpos) (iter := iter) (ifs := []) rfl rfl items.length (ClJ c g xs C D it W F l) ?_ ⟨_, none, by simp [Function.comp_def], S₄⟩
 rintro i T hT h hi ⟨m, o, hm, S⟩
 have hnd := hneed h [(C, isFr m), (C + 1, isC o), (D, isL _), (it, W i)] S
 rcases Nat.lt_or_ge i items.length with hlt | hge
 ·refine src.next S hnd (List.getElem?_eq_getElem hlt) (.i3) fun h' S => fun v rv => ?_
  refine src.owned S (.i3) ?_
  refine ok_assign_Name (ok_stCA S hkind (hk C) (by show List.lookup xc ((xc, C + 1) :: cl) = _; rw [List.lookup_cons]; simp) (.i1) rv fun h S => ok_tests_nil ⟨fun u_ => ?_, fun e => by cases e⟩)
  refine (step i C D _ m h _ (List.getElem?_eq_getElem hlt) hm S).mono fun v h q1_ => ?_
  obtain ⟨m', o', ex, hm', rv, S⟩ := q1_
  refine ok_appendA S.right (.i2) rv (by rw [List.length_map, List.length_range]; lia) fun h S => hT _ hlt ⟨m', o', hm', ?_⟩
  rw [List.range_succ, List.map_append]
  exact S
 ·obtain rfl : i = items.length := Nat.le_antisymm hi hge
  refine src.done S hnd (.i3) fun h S => ?_
  obtain ⟨m', S'⟩ := S.toNs
  exact fin D C m' h S'.f2.tail
end
noncomputable abbrev c2 (w : World) (os : OsState) : Cx := ⟨pw_pw0009_02, w, os, hd.heap_39 w.params⟩
noncomputable def fdAt (K : Frag) (a : Addr) : FuncData := match K.lookup a with
 | some ⟨_, _, .func fd, _⟩ => fd
 | _ => default
theorem ok_bind_nil {c : Cx} {n : Nat} {h : Heap} {env : Env} {P : Unit → Heap → Prop} (p : P () h) : Ok c n (bindEach env []) P h := ok_pure p
theorem ok_bind_cons {c : Cx} {n : Nat} {h : Heap} {env : Env} {x : Str} {v : Value} {r : List (Str × Value)} {P : Unit → Heap → Prop} (y : Ok c n (storeName env x v) (fun u_ h' => Ok c n (bindEach env r) P h') h) : Ok c n (bindEach env ((x, v) :: r)) P h := ok_bind y
noncomputable def fdlexinit : FuncData := fdAt (hd.heap_39 P0) 35
theorem fn_lexinit (P : Params) : (hd.heap_39 P).lookup 35 = some { cls := .type "function", dict := none, data := .func fdlexinit, slots := #[] } := by kernel_rfl
theorem cd_lexinit (P : Params) : codeIn (hd.heap_39 P) fdlexinit.code fdlexinit.qualname = true := by kernel_rfl
theorem nd_lexinit : ((localsOf fdlexinit.scope).map (·.1)).Nodup := by decide +kernel
theorem ns_lexinit : localsOf fdlexinit.scope = [(Str.ofString "self"), (Str.ofString "fp")].map fun k => (k, none) := by kernel_rfl
noncomputable def bdlexinit : List Stmt := bodyD (nthOf (bodyD (topAt pw_pw0009_02 2)) 0)
theorem hb_lexinit (env : Env) : bodyCode fdlexinit env = .func bdlexinit env := by kernel_rfl
theorem ce_lexinit (L : Addr) (l : Led) : cellLed (L + 1) fdlexinit.scope.names l = l := by kernel_rfl
theorem cf_lexinit (L : Addr) : cellsFrom (L + 1) fdlexinit.scope.names fdlexinit.closure = [] := by kernel_rfl
theorem fk_lexinit : fdlexinit.scope.kind = .function := by kernel_rfl
noncomputable def fdtok : FuncData := fdAt (hd.heap_39 P0) 49
theorem fn_tok (P : Params) : (hd.heap_39 P).lookup 49 = some { cls := .type "function", dict := none, data := .func fdtok, slots := #[] } := by kernel_rfl
noncomputable def fdpush : FuncData := fdAt (hd.heap_39 P0) 56
theorem fn_push (P : Params) : (hd.heap_39 P).lookup 56 = some { cls := .type "function", dict := none, data := .func fdpush, slots := #[] } := by kernel_rfl
noncomputable def fdigninit : FuncData := fdAt (hd.heap_39 P0) 111
theorem fn_igninit (P : Params) : (hd.heap_39 P).lookup 111 = some { cls := .type "function", dict := none, data := .func fdigninit, slots := #[] } := by kernel_rfl
theorem cd_igninit (P : Params) : codeIn (hd.heap_39 P) fdigninit.code fdigninit.qualname = true := by kernel_rfl
theorem nd_igninit : ((localsOf fdigninit.scope).map (·.1)).Nodup := by decide +kernel
theorem ns_igninit : localsOf fdigninit.scope = [(Str.ofString "self"), (Str.ofString "modules"), (Str.ofString "dirs")].map fun k => (k, none) := by kernel_rfl
noncomputable def bdigninit : List Stmt := bodyD (nthOf (bodyD (topAt pw_pw0009_02 11)) 0)
theorem hb_igninit (env : Env) : bodyCode fdigninit env = .func bdigninit env := by kernel_rfl
theorem ce_igninit (L : Addr) (l : Led) : cellLed (L + 1) fdigninit.scope.names l = l := by kernel_rfl
theorem cf_igninit (L : Addr) : cellsFrom (L + 1) fdigninit.scope.names fdigninit.closure = [] := by kernel_rfl
theorem fk_igninit : fdigninit.scope.kind = .function := by kernel_rfl
noncomputable def fdnames : FuncData := fdAt (hd.heap_39 P0) 118
theorem fn_names (P : Params) : (hd.heap_39 P).lookup 118 = some { cls := .type "function", dict := none, data := .func fdnames, slots := #[] } := by kernel_rfl
theorem cd_names (P : Params) : codeIn (hd.heap_39 P) fdnames.code fdnames.qualname = true := by kernel_rfl
theorem nd_names : ((localsOf fdnames.scope).map (·.1)).Nodup := by decide +kernel
theorem ns_names : localsOf fdnames.scope = [(Str.ofString "self"), (Str.ofString "filename"), (Str.ofString "modulename"), (Str.ofString "mod"), (Str.ofString "d")].map fun k => (k, none) := by kernel_rfl
noncomputable def bdnames : List Stmt := bodyD (nthOf (bodyD (topAt pw_pw0009_02 11)) 1)
theorem hb_names (env : Env) : bodyCode fdnames env = .func bdnames env := by kernel_rfl
theorem ce_names (L : Addr) (l : Led) : cellLed (L + 1) fdnames.scope.names l = l := by kernel_rfl
theorem cf_names (L : Addr) : cellsFrom (L + 1) fdnames.scope.names fdnames.closure = [] := by kernel_rfl
theorem fk_names : fdnames.scope.kind = .function := by kernel_rfl
noncomputable def fdkind : FuncData := fdAt (hd.heap_39 P0) 70
theorem fn_kind (P : Params) : (hd.heap_39 P).lookup 70 = some { cls := .type "function", dict := none, data := .func fdkind, slots := #[] } := by kernel_rfl
theorem cd_kind (P : Params) : codeIn (hd.heap_39 P) fdkind.code fdkind.qualname = true := by kernel_rfl
theorem nd_kind : ((localsOf fdkind.scope).map (·.1)).Nodup := by decide +kernel
theorem ns_kind : localsOf fdkind.scope = [(Str.ofString "name"), (Str.ofString "x"), (Str.ofString "t")].map fun k => (k, none) := by kernel_rfl
noncomputable def bdkind : List Stmt := bodyD (topAt pw_pw0009_02 5)
theorem hb_kind (env : Env) : bodyCode fdkind env = .func bdkind env := by kernel_rfl
theorem ce_kind (L : Addr) (l : Led) : cellLed (L + 1) fdkind.scope.names l = l := by kernel_rfl
theorem cf_kind (L : Addr) : cellsFrom (L + 1) fdkind.scope.names fdkind.closure = [] := by kernel_rfl
theorem fk_kind : fdkind.scope.kind = .function := by kernel_rfl
noncomputable def fdc_path : FuncData := fdAt (hd.heap_39 P0) 77
theorem fn_c_path (P : Params) : (hd.heap_39 P).lookup 77 = some { cls := .type "function", dict := none, data := .func fdc_path, slots := #[] } := by kernel_rfl
theorem cd_c_path (P : Params) : codeIn (hd.heap_39 P) fdc_path.code fdc_path.qualname = true := by kernel_rfl
theorem nd_c_path : ((localsOf fdc_path.scope).map (·.1)).Nodup := by decide +kernel
theorem ns_c_path : localsOf fdc_path.scope = [(Str.ofString "name"), (Str.ofString "cname"), (Str.ofString "argname"), (Str.ofString "args"), (Str.ofString "kwargs"), (Str.ofString "x"), (Str.ofString "k")].map fun k => (k, none) := by kernel_rfl
noncomputable def bdc_path : List Stmt := bodyD (topAt pw_pw0009_02 6)
theorem hb_c_path (env : Env) : bodyCode fdc_path env = .func bdc_path env := by kernel_rfl
theorem ce_c_path (L : Addr) (l : Led) : cellLed (L + 1) fdc_path.scope.names l = l := by kernel_rfl
theorem cf_c_path (L : Addr) : cellsFrom (L + 1) fdc_path.scope.names fdc_path.closure = [] := by kernel_rfl
theorem fk_c_path : fdc_path.scope.kind = .function := by kernel_rfl
noncomputable def fdsplitroot : FuncData := fdAt (hd.heap_39 P0) 84
theorem fn_splitroot (P : Params) : (hd.heap_39 P).lookup 84 = some { cls := .type "function", dict := none, data := .func fdsplitroot, slots := #[] } := by kernel_rfl
theorem cd_splitroot (P : Params) : codeIn (hd.heap_39 P) fdsplitroot.code fdsplitroot.qualname = true := by kernel_rfl
theorem nd_splitroot : ((localsOf fdsplitroot.scope).map (·.1)).Nodup := by decide +kernel
theorem ns_splitroot : localsOf fdsplitroot.scope = [(Str.ofString "p"), (Str.ofString "sep"), (Str.ofString "empty")].map fun k => (k, none) := by kernel_rfl
noncomputable def bdsplitroot : List Stmt := bodyD (topAt pw_pw0009_02 7)
theorem hb_splitroot (env : Env) : bodyCode fdsplitroot env = .func bdsplitroot env := by kernel_rfl
theorem ce_splitroot (L : Addr) (l : Led) : cellLed (L + 1) fdsplitroot.scope.names l = l := by kernel_rfl
theorem cf_splitroot (L : Addr) : cellsFrom (L + 1) fdsplitroot.scope.names fdsplitroot.closure = [] := by kernel_rfl
theorem fk_splitroot : fdsplitroot.scope.kind = .function := by kernel_rfl
noncomputable def fdnpath : FuncData := fdAt (hd.heap_39 P0) 91
theorem fn_npath (P : Params) : (hd.heap_39 P).lookup 91 = some { cls := .type "function", dict := none, data := .func fdnpath, slots := #[] } := by kernel_rfl
theorem cd_npath (P : Params) : codeIn (hd.heap_39 P) fdnpath.code fdnpath.qualname = true := by kernel_rfl
theorem nd_npath : ((localsOf fdnpath.scope).map (·.1)).Nodup := by decide +kernel
theorem ns_npath : localsOf fdnpath.scope = [(Str.ofString "path"), (Str.ofString "sep"), (Str.ofString "dot"), (Str.ofString "dotdot"), (Str.ofString "_"), (Str.ofString "initial_slashes"), (Str.ofString "comps"), (Str.ofString "new_comps"), (Str.ofString "comp")].map fun k => (k, none) := by kernel_rfl
noncomputable def bdnpath : List Stmt := bodyD (topAt pw_pw0009_02 8)
theorem hb_npath (env : Env) : bodyCode fdnpath env = .func bdnpath env := by kernel_rfl
theorem ce_npath (L : Addr) (l : Led) : cellLed (L + 1) fdnpath.scope.names l = l := by kernel_rfl
theorem cf_npath (L : Addr) : cellsFrom (L + 1) fdnpath.scope.names fdnpath.closure = [] := by kernel_rfl
theorem fk_npath : fdnpath.scope.kind = .function := by kernel_rfl
noncomputable def fdnormpath : FuncData := fdAt (hd.heap_39 P0) 98
theorem fn_normpath (P : Params) : (hd.heap_39 P).lookup 98 = some { cls := .type "function", dict := none, data := .func fdnormpath, slots := #[] } := by kernel_rfl
theorem cd_normpath (P : Params) : codeIn (hd.heap_39 P) fdnormpath.code fdnormpath.qualname = true := by kernel_rfl
theorem nd_normpath : ((localsOf fdnormpath.scope).map (·.1)).Nodup := by decide +kernel
theorem ns_normpath : localsOf fdnormpath.scope = [(Str.ofString "args"), (Str.ofString "kwargs")].map fun k => (k, none) := by kernel_rfl
noncomputable def bdnormpath : List Stmt := bodyD (topAt pw_pw0009_02 9)
theorem hb_normpath (env : Env) : bodyCode fdnormpath env = .func bdnormpath env := by kernel_rfl
theorem ce_normpath (L : Addr) (l : Led) : cellLed (L + 1) fdnormpath.scope.names l = l := by kernel_rfl
theorem cf_normpath (L : Addr) : cellsFrom (L + 1) fdnormpath.scope.names fdnormpath.closure = [] := by kernel_rfl
theorem fk_normpath : fdnormpath.scope.kind = .function := by kernel_rfl
noncomputable def fdlexer : FuncData := fdAt (hd.heap_39 P0) 132
theorem fn_lexer (P : Params) : (hd.heap_39 P).lookup 132 = some { cls := .type "function", dict := none, data := .func fdlexer, slots := #[] } := by kernel_rfl
theorem cd_lexer (P : Params) : codeIn (hd.heap_39 P) fdlexer.code fdlexer.qualname = true := by kernel_rfl
theorem nd_lexer : ((localsOf fdlexer.scope).map (·.1)).Nodup := by decide +kernel
theorem ns_lexer : localsOf fdlexer.scope = [(Str.ofString "text"), (Str.ofString "_law_read"), (Str.ofString "stream")].map fun k => (k, none) := by kernel_rfl
noncomputable def bdlexer : List Stmt := bodyD (topAt pw_pw0009_02 13)
theorem hb_lexer (env : Env) : bodyCode fdlexer env = .func bdlexer env := by kernel_rfl
theorem ce_lexer (L : Addr) (l : Led) : cellLed (L + 1) fdlexer.scope.names l = (L + 1, isCell none) :: l := by kernel_rfl
theorem cf_lexer (L : Addr) : cellsFrom (L + 1) fdlexer.scope.names fdlexer.closure = [((Str.ofString "signs"), L + 1)] := by kernel_rfl
theorem fk_lexer : fdlexer.scope.kind = .function := by kernel_rfl
noncomputable def fdpiece : FuncData := fdAt (hd.heap_39 P0) 137
theorem fn_piece (P : Params) : (hd.heap_39 P).lookup 137 = some { cls := .type "function", dict := none, data := .func fdpiece, slots := #[] } := by kernel_rfl
theorem cd_piece (P : Params) : codeIn (hd.heap_39 P) fdpiece.code fdpiece.qualname = true := by kernel_rfl
theorem nd_piece : ((localsOf fdpiece.scope).map (·.1)).Nodup := by decide +kernel
theorem ns_piece : localsOf fdpiece.scope = [(Str.ofString "word"), (Str.ofString "manner"), (Str.ofString "blank"), (Str.ofString "text")].map fun k => (k, none) := by kernel_rfl
noncomputable def bdpiece : List Stmt := bodyD (topAt pw_pw0009_02 14)
theorem hb_piece (env : Env) : bodyCode fdpiece env = .func bdpiece env := by kernel_rfl
theorem ce_piece (L : Addr) (l : Led) : cellLed (L + 1) fdpiece.scope.names l = (L + 1, isCell none) :: l := by kernel_rfl
theorem cf_piece (L : Addr) : cellsFrom (L + 1) fdpiece.scope.names fdpiece.closure = [((Str.ofString "risky"), L + 1)] := by kernel_rfl
theorem fk_piece : fdpiece.scope.kind = .function := by kernel_rfl
noncomputable def fdname : FuncData := fdAt (hd.heap_39 P0) 142
theorem fn_name (P : Params) : (hd.heap_39 P).lookup 142 = some { cls := .type "function", dict := none, data := .func fdname, slots := #[] } := by kernel_rfl
theorem cd_name (P : Params) : codeIn (hd.heap_39 P) fdname.code fdname.qualname = true := by kernel_rfl
theorem nd_name : ((localsOf fdname.scope).map (·.1)).Nodup := by decide +kernel
theorem ns_name : localsOf fdname.scope = [(Str.ofString "word")].map fun k => (k, none) := by kernel_rfl
noncomputable def bdname : List Stmt := bodyD (topAt pw_pw0009_02 15)
theorem hb_name (env : Env) : bodyCode fdname env = .func bdname env := by kernel_rfl
theorem ce_name (L : Addr) (l : Led) : cellLed (L + 1) fdname.scope.names l = (L + 1, isCell none) :: l := by kernel_rfl
theorem cf_name (L : Addr) : cellsFrom (L + 1) fdname.scope.names fdname.closure = [((Str.ofString "mark"), L + 1)] := by kernel_rfl
theorem fk_name : fdname.scope.kind = .function := by kernel_rfl
noncomputable def fdreader : FuncData := fdAt (hd.heap_39 P0) 147
theorem fn_reader (P : Params) : (hd.heap_39 P).lookup 147 = some { cls := .type "function", dict := none, data := .func fdreader, slots := #[] } := by kernel_rfl
theorem cd_reader (P : Params) : codeIn (hd.heap_39 P) fdreader.code fdreader.qualname = true := by kernel_rfl
theorem nd_reader : ((localsOf fdreader.scope).map (·.1)).Nodup := by decide +kernel
theorem ns_reader : localsOf fdreader.scope = [(Str.ofString "rules"), (Str.ofString "mods"), (Str.ofString "dirs")].map fun k => (k, none) := by kernel_rfl
noncomputable def bdreader : List Stmt := bodyD (topAt pw_pw0009_02 16)
theorem hb_reader (env : Env) : bodyCode fdreader env = .func bdreader env := by kernel_rfl
theorem ce_reader (L : Addr) (l : Led) : cellLed (L + 1) fdreader.scope.names l = l := by kernel_rfl
theorem cf_reader (L : Addr) : cellsFrom (L + 1) fdreader.scope.names fdreader.closure = [] := by kernel_rfl
theorem fk_reader : fdreader.scope.kind = .function := by kernel_rfl
noncomputable def fdout : FuncData := fdAt (hd.heap_39 P0) 154
theorem fn_out (P : Params) : (hd.heap_39 P).lookup 154 = some { cls := .type "function", dict := none, data := .func fdout, slots := #[] } := by kernel_rfl
theorem cd_out (P : Params) : codeIn (hd.heap_39 P) fdout.code fdout.qualname = true := by kernel_rfl
theorem nd_out : ((localsOf fdout.scope).map (·.1)).Nodup := by decide +kernel
theorem ns_out : localsOf fdout.scope = [(Str.ofString "reader"), (Str.ofString "word")].map fun k => (k, none) := by kernel_rfl
noncomputable def bdout : List Stmt := bodyD (topAt pw_pw0009_02 17)
theorem hb_out (env : Env) : bodyCode fdout env = .func bdout env := by kernel_rfl
theorem ce_out (L : Addr) (l : Led) : cellLed (L + 1) fdout.scope.names l = l := by kernel_rfl
theorem cf_out (L : Addr) : cellsFrom (L + 1) fdout.scope.names fdout.closure = [] := by kernel_rfl
theorem fk_out : fdout.scope.kind = .function := by kernel_rfl
noncomputable def fdbehind : FuncData := fdAt (hd.heap_39 P0) 159
theorem fn_behind (P : Params) : (hd.heap_39 P).lookup 159 = some { cls := .type "function", dict := none, data := .func fdbehind, slots := #[] } := by kernel_rfl
theorem cd_behind (P : Params) : codeIn (hd.heap_39 P) fdbehind.code fdbehind.qualname = true := by kernel_rfl
theorem nd_behind : ((localsOf fdbehind.scope).map (·.1)).Nodup := by decide +kernel
theorem ns_behind : localsOf fdbehind.scope = [(Str.ofString "whole")].map fun k => (k, none) := by kernel_rfl
noncomputable def bdbehind : List Stmt := bodyD (topAt pw_pw0009_02 18)
theorem hb_behind (env : Env) : bodyCode fdbehind env = .func bdbehind env := by kernel_rfl
theorem ce_behind (L : Addr) (l : Led) : cellLed (L + 1) fdbehind.scope.names l = (L + 1, isCell none) :: l := by kernel_rfl
theorem cf_behind (L : Addr) : cellsFrom (L + 1) fdbehind.scope.names fdbehind.closure = [((Str.ofString "step"), L + 1)] := by kernel_rfl
theorem fk_behind : fdbehind.scope.kind = .function := by kernel_rfl
noncomputable def fdkept : FuncData := fdAt (hd.heap_39 P0) 166
theorem fn_kept (P : Params) : (hd.heap_39 P).lookup 166 = some { cls := .type "function", dict := none, data := .func fdkept, slots := #[] } := by kernel_rfl
theorem cd_kept (P : Params) : codeIn (hd.heap_39 P) fdkept.code fdkept.qualname = true := by kernel_rfl
theorem nd_kept : ((localsOf fdkept.scope).map (·.1)).Nodup := by decide +kernel
theorem ns_kept : localsOf fdkept.scope = [(Str.ofString "maps"), (Str.ofString "line"), (Str.ofString "sign"), (Str.ofString "rules"), (Str.ofString "kept"), (Str.ofString "made"), (Str.ofString "reader"), (Str.ofString "word")].map fun k => (k, none) := by kernel_rfl
noncomputable def bdkept : List Stmt := bodyD (topAt pw_pw0009_02 19)
theorem hb_kept (env : Env) : bodyCode fdkept env = .func bdkept env := by kernel_rfl
theorem ce_kept (L : Addr) (l : Led) : cellLed (L + 1) fdkept.scope.names l = l := by kernel_rfl
theorem cf_kept (L : Addr) : cellsFrom (L + 1) fdkept.scope.names fdkept.closure = [] := by kernel_rfl
theorem fk_kept : fdkept.scope.kind = .function := by kernel_rfl
noncomputable def fdreadby : FuncData := fdAt (hd.heap_39 P0) 171
theorem fn_readby (P : Params) : (hd.heap_39 P).lookup 171 = some { cls := .type "function", dict := none, data := .func fdreadby, slots := #[] } := by kernel_rfl
theorem cd_readby (P : Params) : codeIn (hd.heap_39 P) fdreadby.code fdreadby.qualname = true := by kernel_rfl
theorem nd_readby : ((localsOf fdreadby.scope).map (·.1)).Nodup := by decide +kernel
theorem ns_readby : localsOf fdreadby.scope = [(Str.ofString "rules"), (Str.ofString "reader"), (Str.ofString "text"), (Str.ofString "line"), (Str.ofString "sign"), (Str.ofString "waiting"), (Str.ofString "left"), (Str.ofString "right"), (Str.ofString "one"), (Str.ofString "k")].map fun k => (k, none) := by kernel_rfl
noncomputable def bdreadby : List Stmt := bodyD (topAt pw_pw0009_02 20)
theorem hb_readby (env : Env) : bodyCode fdreadby env = .func bdreadby env := by kernel_rfl
theorem ce_readby (L : Addr) (l : Led) : cellLed (L + 1) fdreadby.scope.names l = (L + 1, isCell none) :: l := by kernel_rfl
theorem cf_readby (L : Addr) : cellsFrom (L + 1) fdreadby.scope.names fdreadby.closure = [((Str.ofString "word"), L + 1)] := by kernel_rfl
theorem fk_readby : fdreadby.scope.kind = .function := by kernel_rfl
noncomputable def fdfirst : FuncData := fdAt (hd.heap_39 P0) 178
theorem fn_first (P : Params) : (hd.heap_39 P).lookup 178 = some { cls := .type "function", dict := none, data := .func fdfirst, slots := #[] } := by kernel_rfl
theorem cd_first (P : Params) : codeIn (hd.heap_39 P) fdfirst.code fdfirst.qualname = true := by kernel_rfl
theorem nd_first : ((localsOf fdfirst.scope).map (·.1)).Nodup := by decide +kernel
theorem ns_first : localsOf fdfirst.scope = [(Str.ofString "maps"), (Str.ofString "first"), (Str.ofString "level"), (Str.ofString "longer"), (Str.ofString "sign"), (Str.ofString "text"), (Str.ofString "end"), (Str.ofString "whole")].map fun k => (k, none) := by kernel_rfl
noncomputable def bdfirst : List Stmt := bodyD (topAt pw_pw0009_02 21)
theorem hb_first (env : Env) : bodyCode fdfirst env = .func bdfirst env := by kernel_rfl
theorem ce_first (L : Addr) (l : Led) : cellLed (L + 1) fdfirst.scope.names l = l := by kernel_rfl
theorem cf_first (L : Addr) : cellsFrom (L + 1) fdfirst.scope.names fdfirst.closure = [] := by kernel_rfl
theorem fk_first : fdfirst.scope.kind = .function := by kernel_rfl
noncomputable def fdrules : FuncData := fdAt (hd.heap_39 P0) 183
theorem fn_rules (P : Params) : (hd.heap_39 P).lookup 183 = some { cls := .type "function", dict := none, data := .func fdrules, slots := #[] } := by kernel_rfl
theorem cd_rules (P : Params) : codeIn (hd.heap_39 P) fdrules.code fdrules.qualname = true := by kernel_rfl
theorem nd_rules : ((localsOf fdrules.scope).map (·.1)).Nodup := by decide +kernel
theorem ns_rules : localsOf fdrules.scope = [(Str.ofString "least"), (Str.ofString "rules"), (Str.ofString "word")].map fun k => (k, none) := by kernel_rfl
noncomputable def bdrules : List Stmt := bodyD (topAt pw_pw0009_02 22)
theorem hb_rules (env : Env) : bodyCode fdrules env = .func bdrules env := by kernel_rfl
theorem ce_rules (L : Addr) (l : Led) : cellLed (L + 1) fdrules.scope.names l = (L + 2, isCell none) :: (L + 1, isCell none) :: l := by kernel_rfl
theorem cf_rules (L : Addr) : cellsFrom (L + 1) fdrules.scope.names fdrules.closure = [((Str.ofString "first"), L + 2), ((Str.ofString "maps"), L + 1)] := by kernel_rfl
theorem fk_rules : fdrules.scope.kind = .function := by kernel_rfl
noncomputable def fdlaw : FuncData := fdAt (hd.heap_39 P0) 188
theorem fn_law (P : Params) : (hd.heap_39 P).lookup 188 = some { cls := .type "function", dict := none, data := .func fdlaw, slots := #[] } := by kernel_rfl
theorem cd_law (P : Params) : codeIn (hd.heap_39 P) fdlaw.code fdlaw.qualname = true := by kernel_rfl
theorem nd_law : ((localsOf fdlaw.scope).map (·.1)).Nodup := by decide +kernel
theorem ns_law : localsOf fdlaw.scope = [(Str.ofString "script"), (Str.ofString "own"), (Str.ofString "numbers"), (Str.ofString "sign"), (Str.ofString "words"), (Str.ofString "writing"), (Str.ofString "told"), (Str.ofString "kept"), (Str.ofString "first"), (Str.ofString "heads"), (Str.ofString "seen"), (Str.ofString "due"), (Str.ofString "blind"), (Str.ofString "whole_text")].map fun k => (k, none) := by kernel_rfl
noncomputable def bdlaw : List Stmt := bodyD (topAt pw_pw0009_02 23)
theorem hb_law (env : Env) : bodyCode fdlaw env = .func bdlaw env := by kernel_rfl
theorem ce_law (L : Addr) (l : Led) : cellLed (L + 1) fdlaw.scope.names l = (L + 6, isCell none) :: (L + 5, isCell none) :: (L + 4, isCell none) :: (L + 3, isCell none) :: (L + 2, isCell none) :: (L + 1, isCell none) :: l := by kernel_rfl
theorem cf_law (L : Addr) : cellsFrom (L + 1) fdlaw.scope.names fdlaw.closure = [((Str.ofString "way"), L + 6), ((Str.ofString "reader"), L + 5), ((Str.ofString "rules"), L + 4), ((Str.ofString "lexer"), L + 3), ((Str.ofString "text"), L + 2), ((Str.ofString "maps"), L + 1)] := by kernel_rfl
theorem fk_law : fdlaw.scope.kind = .function := by kernel_rfl
theorem kept_def {w : World} {os : OsState} {g h : Heap} {l : Led} {a : Addr} {fd : FuncData} (S : St (c2 w os) g h l) (e : (hd.heap_39 w.params).lookup a = some { cls := .type "function", dict := none, data := .func fd, slots := #[] }) : Kept (c2 w os) h (.ref a) := kept_func (S.topH.k _ _ e) rfl
theorem lit_1 : Str.ofString "/" = str [47] := by kernel_rfl
theorem lit_5 : Str.ofString "" = str [] := by kernel_rfl
theorem lit_6 : Str.ofString "." = str [46] := by kernel_rfl
theorem lit_7 : Str.ofString ".." = str [46, 46] := by kernel_rfl
theorem lit_8 : Str.ofString "012" = str [48, 49, 50] := by kernel_rfl
theorem lit_9 : Str.ofString "\n\t\r " = str [10, 9, 13, 32] := by kernel_rfl
theorem lit_18 : Str.ofString "\"\"\\\"" = str [34, 34, 92, 34] := by kernel_rfl
theorem lit_19 : Str.ofString "y" = str [121] := by kernel_rfl
theorem lit_20 : Str.ofString "\n" = str [10] := by kernel_rfl
theorem lit_21 : Str.ofString "normpath" = str [110, 111, 114, 109, 112, 97, 116, 104] := by kernel_rfl
theorem lit_22 : Str.ofString "_path_normpath" = str [95, 112, 97, 116, 104, 95, 110, 111, 114, 109, 112, 97, 116, 104] := by kernel_rfl
theorem lit_23 : Str.ofString "path" = str [112, 97, 116, 104] := by kernel_rfl
theorem lit_24 : Str.ofString "<string>" = str [60, 115, 116, 114, 105, 110, 103, 62] := by kernel_rfl
theorem lit_25 : Str.ofString "\"\\#" = str [34, 92, 35] := by kernel_rfl
theorem lit_26 : Str.ofString "\"" = str [34] := by kernel_rfl
theorem lit_27 : Str.ofString "//." = str [47, 47, 46] := by kernel_rfl
theorem lit_28 : Str.ofString "/x" = str [47, 120] := by kernel_rfl
theorem lit_29 : Str.ofString "\n\t\r \\" = str [10, 9, 13, 32, 92] := by kernel_rfl
theorem lit_30 : Str.ofString "a" = str [97] := by kernel_rfl
theorem lit_31 : Str.ofString "ab" = str [97, 98] := by kernel_rfl
theorem lit_32 : Str.ofString "./" = str [46, 47] := by kernel_rfl
theorem lit_33 : Str.ofString "\"\\" = str [34, 92] := by kernel_rfl
theorem lit_34 : Str.ofString "\\" = str [92] := by kernel_rfl
theorem lit_36 : Str.ofString "\n\t\r" = str [10, 9, 13] := by kernel_rfl
theorem lit_37 : Str.ofString " #\n" = str [32, 35, 10] := by kernel_rfl
theorem gl_kind (P : Params) : nsIn (hd.heap_39 P) mainGlobals (Str.ofString "_kind") = some (some (.ref 70)) := by kernel_rfl
theorem gl_c_path (P : Params) : nsIn (hd.heap_39 P) mainGlobals (Str.ofString "_c_path") = some (some (.ref 77)) := by kernel_rfl
theorem gl_splitroot (P : Params) : nsIn (hd.heap_39 P) mainGlobals (Str.ofString "_splitroot") = some (some (.ref 84)) := by kernel_rfl
theorem gl_npath (P : Params) : nsIn (hd.heap_39 P) mainGlobals (Str.ofString "_normpath") = some (some (.ref 91)) := by kernel_rfl
theorem gl_normpath (P : Params) : nsIn (hd.heap_39 P) mainGlobals (Str.ofString "normpath") = some (some (.ref 98)) := by kernel_rfl
theorem gl_lexer (P : Params) : nsIn (hd.heap_39 P) mainGlobals (Str.ofString "_law_lexer") = some (some (.ref 132)) := by kernel_rfl
theorem gl_piece (P : Params) : nsIn (hd.heap_39 P) mainGlobals (Str.ofString "_law_piece") = some (some (.ref 137)) := by kernel_rfl
theorem gl_name (P : Params) : nsIn (hd.heap_39 P) mainGlobals (Str.ofString "_law_name") = some (some (.ref 142)) := by kernel_rfl
theorem gl_reader (P : Params) : nsIn (hd.heap_39 P) mainGlobals (Str.ofString "_law_reader") = some (some (.ref 147)) := by kernel_rfl
theorem gl_out (P : Params) : nsIn (hd.heap_39 P) mainGlobals (Str.ofString "_law_out") = some (some (.ref 154)) := by kernel_rfl
theorem gl_behind (P : Params) : nsIn (hd.heap_39 P) mainGlobals (Str.ofString "_law_behind") = some (some (.ref 159)) := by kernel_rfl
theorem gl_kept (P : Params) : nsIn (hd.heap_39 P) mainGlobals (Str.ofString "_law_kept") = some (some (.ref 166)) := by kernel_rfl
theorem gl_readby (P : Params) : nsIn (hd.heap_39 P) mainGlobals (Str.ofString "_law_read_by") = some (some (.ref 171)) := by kernel_rfl
theorem gl_first (P : Params) : nsIn (hd.heap_39 P) mainGlobals (Str.ofString "_law_first") = some (some (.ref 178)) := by kernel_rfl
theorem gl_rules (P : Params) : nsIn (hd.heap_39 P) mainGlobals (Str.ofString "_law_rules") = some (some (.ref 183)) := by kernel_rfl
theorem gl_law (P : Params) : nsIn (hd.heap_39 P) mainGlobals (Str.ofString "law") = some (some (.ref 188)) := by kernel_rfl
theorem gl_netrc (P : Params) : nsIn (hd.heap_39 P) mainGlobals (Str.ofString "_netrclex") = some (some (.ref 59)) := by kernel_rfl
theorem gl_Ignore (P : Params) : nsIn (hd.heap_39 P) mainGlobals (Str.ofString "_Ignore") = some (some (.ref 121)) := by kernel_rfl
theorem bn_int (P : Params) : nsIn (hd.heap_39 P) mainGlobals (Str.ofString "int") = some none := by kernel_rfl
theorem bv_int : bootBuiltins (Str.ofString "int") = some (.type "int") := by kernel_rfl
theorem bn_len (P : Params) : nsIn (hd.heap_39 P) mainGlobals (Str.ofString "len") = some none := by kernel_rfl
theorem bv_len : bootBuiltins (Str.ofString "len") = some (.builtin "len") := by kernel_rfl
theorem bn_list (P : Params) : nsIn (hd.heap_39 P) mainGlobals (Str.ofString "list") = some none := by kernel_rfl
theorem bv_list : bootBuiltins (Str.ofString "list") = some (.type "list") := by kernel_rfl
theorem bn_set (P : Params) : nsIn (hd.heap_39 P) mainGlobals (Str.ofString "set") = some none := by kernel_rfl
theorem bv_set : bootBuiltins (Str.ofString "set") = some (.type "set") := by kernel_rfl
theorem bn_range (P : Params) : nsIn (hd.heap_39 P) mainGlobals (Str.ofString "range") = some none := by kernel_rfl
theorem bv_range : bootBuiltins (Str.ofString "range") = some (.type "range") := by kernel_rfl
theorem bn_zip (P : Params) : nsIn (hd.heap_39 P) mainGlobals (Str.ofString "zip") = some none := by kernel_rfl
theorem bv_zip : bootBuiltins (Str.ofString "zip") = some (.type "zip") := by kernel_rfl
theorem bn_sorted (P : Params) : nsIn (hd.heap_39 P) mainGlobals (Str.ofString "sorted") = some none := by kernel_rfl
theorem bv_sorted : bootBuiltins (Str.ofString "sorted") = some (.builtin "sorted") := by kernel_rfl
theorem bn_str (P : Params) : nsIn (hd.heap_39 P) mainGlobals (Str.ofString "str") = some none := by kernel_rfl
theorem bv_str : bootBuiltins (Str.ofString "str") = some (.type "str") := by kernel_rfl
theorem bn_type (P : Params) : nsIn (hd.heap_39 P) mainGlobals (Str.ofString "type") = some none := by kernel_rfl
theorem bv_type : bootBuiltins (Str.ofString "type") = some (.type "type") := by kernel_rfl
theorem bn_max (P : Params) : nsIn (hd.heap_39 P) mainGlobals (Str.ofString "max") = some none := by kernel_rfl
theorem bv_max : bootBuiltins (Str.ofString "max") = some (.builtin "max") := by kernel_rfl
noncomputable def sepT : Tok := match nsIn (hd.heap_39 P0) mainGlobals (Str.ofString "sep") with
 | some (some (.str _ t)) => t
 | _ => 0
theorem gl_sep (P : Params) : nsIn (hd.heap_39 P) mainGlobals (Str.ofString "sep") = some (some (.str (str [47]) sepT)) := by kernel_rfl
def mxTab : String := "\n~=лk3 ψ ξ k4 π θ Ι ok_Call Κ η k2 κ ξ k2 π θ Ι ok_Attribute к ok_isTrue к ok_x_set к ok_x_expr~кΚ κ θ Ι~йk4 ρ '\"m\" Ω k5 ρ '\"m\" Ω~и'; [ Ρ '\"av\" σ θ Π~з]Lean.Parser.Term.syntheticHole ', [ '? '_ ]Lean.Parser.Term.syntheticHole ]null '⟩ ]Lean.Parser.Term.anonymousCtor~ж[ Γ Α 'exact~е'; [ 'intro [~дρ '\"kd\"~гβ а 'simp Λ [ ]null [ 'only ]null [ '[ φ ]null [ ]null List.length_cons υ List.length_nil Φ 'lia Λ ]Lean.Parser.Tactic.lia τ б~вα ]Lean.Parser.Tactic.tacticRepeat_~бα ]Lean.Parser.Tactic.case~а'( φ [~Ωζ ξ~Ψ'[ φ ]null [ ]null strs_len υ signs_len υ List.length_append υ List.length_cons υ List.length_nil υ List.length_map υ List.length_reverse υ List.length_drop υ List.length_take υ List.length_dropLast~Χε 'case φ~Φ]Lean.Parser.Tactic.simpLemma ]null '] ]null [ ]null ]Lean.Parser.Tactic.simp '; [~ΥΑ 'exact [ '. here ]Lean.Parser.Term.dotIdent ]Lean.Parser.Tactic.exact λ χ λ 'exact~ΤΚ η k2 η k3 η k4 η k5~Σ]Lean.Parser.Term.syntheticHole δ ο ξ~Ρ'walk_at [~Π'refine' [~Ο[ St.tail [ [ St.tail [ [ St.tail [~Ξ[ 'fun [ [ t_ ]null [ ]null '=> [ '? '_ ]Lean.Parser.Term.syntheticHole ]Lean.Parser.Term.basicFun ]Lean.Parser.Term.fun~Ν]Lean.Parser.Tactic.exact ν~Μ[ 'by φ [ χ α ]Lean.Parser.Term.byTactic~Λ[ [ ]null ]Lean.Parser.Tactic.optConfig~Κ[ [ '? k1~Ι'refine [~Θ[ ι γ [~Ηh_ S_ ]null ]Lean.Parser.Tactic.intro~Ζ]Lean.Parser.Term.syntheticHole ω ]Lean.Parser.Tactic.refine'~Ε[ '_ ]Lean.Parser.Term.hole~Δ]Lean.Parser.Term.dotIdent γ [ '.~Γ'with_reducible φ~Β[ δ λ 'refine [~Α[ 'first [ [ '| φ [~ω]null ]Lean.Parser.Term.app~ψβ 'decide [ [ ]null ]Lean.Parser.Tactic.optConfig ]Lean.Parser.Tactic.decide α ]Lean.Parser.Tactic.case~χ'assumption ]Lean.Parser.Tactic.assumption~φ[ [ [~υ]Lean.Parser.Tactic.simpLemma ', [ [ ]null [ ]null~τα ') ]Lean.Parser.Tactic.paren~σ]str ]PyProof.Rows.tacticWalk_at_~ρβ 'walk_at [~πβ 'rfl ]Lean.Parser.Tactic.tacticRfl α ]Lean.Parser.Tactic.case~οα ]Lean.Parser.Tactic.withReducible~ξ'; [ 'case [ [ [~να ]group ]null ]Lean.Parser.Tactic.first~μ[ 'fun [ [ t_ ]null [ ]null '=> [ '? '_ ]Lean.Parser.Term.syntheticHole ]Lean.Parser.Term.basicFun ]Lean.Parser.Term.fun ]null ]Lean.Parser.Term.app ]Lean.Parser.Tactic.refine~λα ]group [ '| [ [ [ [~κ]Lean.Parser.Term.syntheticHole δ α ]Lean.Parser.Tactic.withReducible '; [ 'case [ [ [ k1 β 'rfl ]Lean.Parser.Tactic.tacticRfl α ]Lean.Parser.Tactic.case~ι[ '_ ]Lean.Parser.Term.hole ]null ]Lean.Parser.Term.app~θα ') ]Lean.Parser.Tactic.paren α ]group [ '| [ [ [ [ '( [ [ [ [ 'with_reducible [ [ [ [~η]Lean.Parser.Term.syntheticHole [ '?~ζ]str ]PyProof.Rows.tacticWalk_at_ α ]Lean.Parser.Tactic.case~ε]Lean.Parser.Term.syntheticHole [ '? '_ ]Lean.Parser.Term.syntheticHole ]null ]Lean.Parser.Term.app ]Lean.Parser.Tactic.refine' α ]Lean.Parser.Tactic.withReducible '; [ 'case [ [ [ k1 β 'assumption ]Lean.Parser.Tactic.assumption α ]Lean.Parser.Tactic.case '; [~δ[ '? '_ ]Lean.Parser.Term.syntheticHole ]null ]Lean.Parser.Term.app ]Lean.Parser.Tactic.refine~γ]Lean.Parser.Tactic.exact α ]group [ '| [ [ [ [ 'exact~β]Lean.binderIdent [ ]null ]Lean.Parser.Tactic.caseArg ]null '=> [ [ [ [~α]null ]Lean.Parser.Tactic.tacticSeq1Indented ]Lean.Parser.Tactic.tacticSeq\nm=[ Γ Υ [ '. i1 Δ i2 Δ i3 Δ i4 Δ i5 Δ i6 Δ i7 Δ i8 Δ i9 Δ i10 Δ i11 Δ i12 Δ i13 Δ i14 ]Lean.Parser.Term.dotIdent γ lawFr.h0 γ lawFr.h1 γ lawFr.p1 γ lawFr.h2 γ lawFr.p2 γ lawFr.h3 γ lawFr.p3 γ lawFr.h4 γ lawFr.p4 γ lawFr.h5 γ lawFr.p5 γ lawFr.h6 γ lawFr.p6 γ lawFr.h7 γ lawFr.p7 γ lawFr.h8 γ lawFr.p8 γ lawFr.h9 γ lawFr.p9 γ lawFr.h10 γ lawFr.p10 γ lawFr.h11 γ lawFr.p11 γ lawFr.h12 γ lawFr.p12 γ lawFr.h13 γ lawFr.p13 γ keptFr.h0 γ keptFr.h1 γ keptFr.h2 γ keptFr.p2 γ keptFr.h3 γ keptFr.p3 γ keptFr.h4 γ keptFr.p4 γ keptFr.h5 γ keptFr.p5 γ keptFr.h6 γ keptFr.p6 γ keptFr.h7 γ keptFr.p7 γ firstFr.h0 γ firstFr.h1 γ firstFr.h2 γ firstFr.p2 γ firstFr.h3 γ firstFr.p3 γ firstFr.h4 γ firstFr.p4 γ firstFr.h5 γ firstFr.p5 γ firstFr.h6 γ firstFr.p6 γ firstFr.h7 γ firstFr.p7 γ rbFr.h0 γ rbFr.h1 γ rbFr.h2 γ rbFr.h3 γ rbFr.h4 γ rbFr.p4 γ rbFr.h5 γ rbFr.p5 γ rbFr.h6 γ rbFr.p6 γ rbFr.h7 γ rbFr.p7 γ rbFr.h8 γ rbFr.p8 γ rbFr.h9 γ rbFr.p9 γ rulesFr.h0 γ rulesFr.p0 γ rulesFr.h1 γ rulesFr.p1 γ rulesFr.h2 γ rulesFr.p2 ]Lean.Parser.Tactic.exact λ 'repeat φ Υ PutA.there γ Up.there γ HasA.there γ At.there γ Del.there Ν в ν ο\nrp=ж rep_str γ rep_int γ rep_ref γ rep_none γ rep_type ]Lean.Parser.Tactic.exact λ χ ν ο\nrps=Α Γ [ 'exact Reps.nil' ]Lean.Parser.Tactic.exact ο λ а Γ [ Π Reps.cons' [ [ '? kr η kt Ζ ο ξ kr ρ '\"rp\" Ω kt ρ '\"rps\" ζ τ ν\nav=[ Γ Α Ι allP_str [ μ λ Ι allP_int [ μ λ Ι allP_ref Β allP_none Β allP_type Β all_str [ μ λ Ι all_int [ μ λ Ι all_ref Β all_none Β all_type Β all_bool [ δ λ а Ι all_file [ δ е v_ rfv ]null ]Lean.Parser.Tactic.intro τ λ 'intro [ Η ν ο\nho=Α Γ [ χ ο λ а Π St.get [ Μ [ '? kh Ζ ξ kh ρ '\"m\" ζ '; [ 'done ]Lean.Parser.Tactic.done τ λ Γ [ 'exact [ St.here [ Μ Μ ω ]Lean.Parser.Tactic.exact ο ν\nnm=Α а Γ [ Π ok_nM Κ η k3 η k4 η k5 Χ й k3 д ζ и ok_nCM Κ η k3 η k5 η k6 Χ k3 д Ω k5 π ξ k6 ρ '\"m\" ζ и ok_nGM Κ η k2 η k5 Χ k5 ρ '\"gl\" Ω k2 д ζ θ Π ok_nK Κ η k6 η k2 η k3 η k4 η k5 Χ й k2 π ξ k3 д Ω k6 ψ и ok_nBM Κ η k2 η k6 η k7 Χ k7 ρ '\"bv\" Ω k6 ρ '\"bn\" Ω k2 д ζ θ Ι ok_Name Κ Σ k1 ψ '; [ Ρ '\"ld\" σ τ ν\nld=Α а Γ [ Π ok_ldM' Τ Χ й k2 ρ '\"fk\" Ω k3 д ζ и ok_ldCK' Κ η k2 η k3 η k5 η k6 Χ k3 д Ω k2 π ξ k5 π ξ k6 ρ '\"m\" ζ и ok_ldGK Τ Χ k5 ρ '\"gl\" Ω k2 д Ω k3 π ξ k4 д ζ τ λ Ρ '\"bt\" σ ν\nbt=Α а Γ [ Π ok_ldBM Τ η k6 η k7 η k8 Χ k7 ρ '\"bv\" Ω k6 ρ '\"bn\" Ω k2 д Ω k3 д Ω k4 ρ '\"fk\" Ω k5 д Ω k8 ψ θ Π ok_ldBK Τ η k6 η k7 η k8 Χ k7 ρ '\"bv\" Ω k6 ρ '\"bn\" Ω k2 д Ω k3 д Ω k4 π ξ k5 д Ω k8 ψ τ ν\nsx=[ Γ Α а Π ok_lit [ [ '? ke ]Lean.Parser.Term.syntheticHole Ξ ω ]Lean.Parser.Tactic.refine' ξ ke ρ '\"lit\" ζ τ λ Ι ok_int [ μ λ Ι ok_none Β ok_unary Β ok_neg [ μ λ Ι ok_x_ret Β ok_args_nil Β ok_isTrue_and_nil Β ok_isTrue_or_nil Β ok_BinOp Β ok_isTrue_and Β ok_isTrue_or Β ok_isTrue_not Β ok_List Β ok_execs_nil Β ok_truthy_bool Β ok_Subscript Β ok_Slice Β ok_part_none Β ok_part Β ok_s Β ok_x_aug Β ok_x_cont Β then_next Β then_ret Β then_cont [ δ ν ο\nsy=Α а Γ [ Ι ok_args_cons к ok_isTrue_Compare к ok_Compare к ok_CallM Κ η k2 η k3 η k4 κ ξ k2 π ξ л Κ η k2 κ ξ k2 π θ Ι ok_x_setAttr Κ η k2 κ ξ k2 π θ Ι ok_x_setItem к ok_x_tup Κ η k2 κ ξ k2 π τ ν\nvl=[ Γ Α Ι ok_eq_int Β ok_ne_int Β ok_lt_int Β ok_gt_int Β ok_eqS Β ok_neS Β ok_inS Β ok_eqB Β ok_add_int [ μ λ Ι ok_sub_int [ μ λ Ι ok_iadd_int [ μ λ а Ι ok_addS [ [ '? kz ]Lean.Parser.Term.syntheticHole μ ξ kz ρ '\"sz\" ζ τ λ а Ι ok_iaddS [ [ '? kz ]Lean.Parser.Term.syntheticHole μ ξ kz ρ '\"sz\" ζ τ λ а Ι ok_truthyS [ [ '? kz ]Lean.Parser.Term.syntheticHole δ ξ kz ρ '\"sz\" ζ τ ν ο\nst=Α а Γ [ Π ok_sM Κ η k3 η k4 η k5 η k6 Χ k6 ρ '\"rp\" Ω й k3 д ζ е Η θ Π ok_sCM Κ η k3 η k4 η k5 η k6 Χ k6 ρ '\"rp\" Ω k3 д Ω k4 π ξ k5 ρ '\"m\" ζ е Η θ Π ok_stK' Τ η k6 Χ k6 ρ '\"rp\" Ω й k2 π ξ k3 д ζ е Η τ ν\npv=ж PartV.none γ PartV.some Ν ο\nkp=Α 'exact kept_builtin γ kept_type ]Lean.Parser.Tactic.exact λ Ρ '\"kf\" σ ν\nslot=ж PySem.F.slot_str_join γ PySem.F.slot_str_startswith γ PySem.F.slot_str_split γ PySem.F.slot_str_count γ PySem.F.slot_list_append γ PySem.F.slot_list_pop γ PySem.F.slot_dict_items Ν ο\nslott=ж PySem.F.type_str_join γ PySem.F.type_str_startswith γ PySem.F.type_str_split γ PySem.F.type_str_count γ PySem.F.type_list_append γ PySem.F.type_list_pop γ PySem.F.type_dict_items Ν ο\ngo=[ 'repeat φ Α Ρ '\"sx\" σ λ Ρ '\"nm\" σ λ Ρ '\"sy\" σ λ Ρ '\"vl\" σ λ Ρ '\"st\" σ λ Ρ '\"ld\" σ λ Ρ '\"mk\" σ ν в\nbn=ж [ bn_int Θ bn_len Θ bn_list Θ bn_set Θ bn_range Θ bn_zip Θ bn_sorted Θ bn_str Θ bn_type Θ bn_max [ ι Ν ο\nbv=ж bv_int γ bv_len γ bv_list γ bv_set γ bv_range γ bv_zip γ bv_sorted γ bv_str γ bv_type γ bv_max Ν ο\npk=Α а Γ [ Ι pkT [ [ '? ke Σ ke ρ '\"bb\" ζ θ Ι pkF [ [ '? ke Σ ke ρ '\"bb\" ζ θ Ι pkT' [ [ '? ke Σ ke ρ '\"bb\" ζ θ Ι pkF' [ [ '? ke Σ ke ρ '\"bb\" ζ τ ν\ntst=[ а Ρ '\"go\" σ '; Α а Ρ '\"pk\" σ '; [ Ρ '\"tst\" σ τ λ 'skip ]Lean.Parser.Tactic.skip ν τ\npc=Α 'exact [ pc_lex Θ pc_ign [ ι Ν\nme=ж [ me_push Θ me_tok Θ me_names [ ι Ν ο\nty=ж [ ty_push Θ ty_tok Θ ty_names [ ι Ν ο\nfr=ж [ fr_mods Θ fr_dirs Θ fr_ignore Θ fr_lineno [ ι Ν ο\ngl=ж [ gl_kind Θ gl_c_path Θ gl_splitroot Θ gl_npath Θ gl_normpath Θ gl_lexer Θ gl_piece Θ gl_name Θ gl_reader Θ gl_out Θ gl_behind Θ gl_kept Θ gl_readby Θ gl_first Θ gl_rules Θ gl_law Θ gl_netrc Θ gl_Ignore Θ gl_sep [ ι Ν ο\nlit=ж lit_0 γ lit_1 γ lit_2 γ lit_3 γ lit_4 γ lit_5 γ lit_6 γ lit_7 γ lit_8 γ lit_9 γ lit_10 γ lit_11 γ lit_12 γ lit_13 γ lit_14 γ lit_15 γ lit_16 γ lit_17 γ lit_18 γ lit_19 γ lit_20 γ lit_21 γ lit_22 γ lit_23 γ lit_24 γ lit_25 γ lit_26 γ lit_27 γ lit_28 γ lit_29 γ lit_30 γ lit_31 γ lit_32 γ lit_33 γ lit_34 γ lit_35 γ lit_36 γ lit_37 Ν ο\nkd=[ 'kernel_rfl! ]PyProof.Rows.tacticKernel_rfl!\nfk=Α Γ [ χ ο λ 'kernel_rfl! ]PyProof.Rows.tacticKernel_rfl! ν\nli=Α Γ [ χ ο λ а Π Nat.le_trans [ [ '? q1 η q2 Ζ ξ q1 β Γ [ χ ο б ξ q2 β 'exact [ Nat.le_of_ble_eq_true [ rfl ω ]Lean.Parser.Tactic.exact б τ λ Ρ '\"lx\" σ ν\nsz=Α Ρ '\"li\" σ λ а 'simp Λ [ ]null [ 'only ]null [ Ψ Φ 'lia Λ ]Lean.Parser.Tactic.lia τ λ а Ρ '\"ch\" σ '; [ 'try φ [ 'simp Λ [ ]null [ 'only ]null [ Ψ ]Lean.Parser.Tactic.simpLemma ]null '] ]null [ [ 'at [ '* ]Lean.Parser.Tactic.locationWildcard ]Lean.Parser.Tactic.location ]null ]Lean.Parser.Tactic.simp α ]Lean.Parser.Tactic.tacticTry_ '; [ 'lia Λ ]Lean.Parser.Tactic.lia τ ν\ndr=Α χ λ 'exact [ St.tail [ Μ ω γ [ St.tail [ [ St.tail [ Μ ω ω γ Ο Μ ω ω ω γ Ο [ St.tail [ Μ ω ω ω ω γ Ο [ St.tail [ [ St.tail [ Μ ω ω ω ω ω γ Ο Ο Μ ω ω ω ω ω ω Ν\nbb=Α Γ [ 'rfl ]Lean.Parser.Tactic.tacticRfl ο λ а 'simp Λ [ ]null [ ]null [ '[ φ ]null [ ]null strsOf υ signsOf Φ 'done ]Lean.Parser.Tactic.done τ ν\ntsp=[ а Ρ '\"go\" σ '; Α [ Ι '⟨ [ Ξ ', Ξ ]null '⟩ ]Lean.Parser.Term.anonymousCtor ]Lean.Parser.Tactic.refine '<;> [ Ρ '\"tsp\" σ ]Lean.Parser.Tactic.tactic_<;>_ λ 'skip ]Lean.Parser.Tactic.skip ν τ\nmk=Α а Γ [ Π ok_newListA Κ η k2 η k3 Χ k2 ρ '\"rps\" Ω k3 г е Ε Η θ Π '⟨ [ Ε ', Ε ', [ '? k1 з ]Lean.Parser.Tactic.refine' ο ξ k1 β а 'show [ St [ Ε Ε Ε ι ]Lean.Parser.Tactic.show '; [ χ τ б е Ε Η θ Π ok_iter_str Κ ε 'intro [ Ε Η θ Π ok_sliceS Κ η k3 η k4 η k2 Χ k3 ρ '\"pv\" Ω k4 ρ '\"pv\" Ω k2 ρ '\"sz\" ζ е Η θ Π ok_revS Κ η k2 Χ k2 ρ '\"sz\" ζ е Η θ Π ok_method_str Κ η k2 η '_ Ζ ο ξ k1 ρ '\"slot\" Ω k2 ρ '\"slott\" ζ θ Π ok_getMethod_L [ [ '? k3 η k1 η k2 η '_ Ζ ο ξ k3 ρ '\"ho\" Ω k1 ρ '\"slot\" Ω k2 ρ '\"slott\" ζ θ Π ok_getMethodD [ [ '? k3 η k1 η k2 η '_ Ζ ο ξ k3 ρ '\"ho\" Ω k1 ρ '\"slot\" Ω k2 ρ '\"slott\" ζ θ Π ok_getAttrA Τ η k6 Χ k4 ρ '\"ho\" Ω k2 ρ '\"pc\" Ω k3 ρ '\"fr\" Ω k5 ρ '\"ho\" Ω k6 ρ '\"m\" ζ и ok_getMethodA Τ η k6 η k7 Χ k5 ρ '\"ho\" Ω k2 ρ '\"pc\" Ω k3 ρ '\"me\" Ω k4 ρ '\"ty\" Ω k6 ρ '\"ho\" Ω k7 д ζ θ Π ok_setAttrA Τ η k6 η k7 η k8 Χ k4 ρ '\"ho\" Ω k2 ρ '\"pc\" Ω k3 д Ω k7 ρ '\"rp\" Ω k5 ρ '\"m\" Ω k6 ρ '\"m\" Ω k8 г е Η θ Π ok_appendA Κ η k2 η k3 η k4 Χ k3 ρ '\"rp\" Ω k2 ρ '\"m\" Ω k4 ρ '\"sz\" ζ е Η τ λ а 'intro [ pl ]null ]Lean.Parser.Tactic.intro '; [ Γ [ 'show [ Ok [ Ε Ε [ getMethod [ Ε Ε ι Ε ι ]Lean.Parser.Tactic.show ο θ Ι '⟨ Κ з ]Lean.Parser.Tactic.refine ο ξ k1 β а Γ [ 'show [ Kept [ Ε Ε ι ]Lean.Parser.Tactic.show ο '; [ Ρ '\"kp\" σ τ б '; [ 'try φ [ 'dsimp Λ [ ]null [ 'only ]null [ '[ φ ]null [ ]null List.cons_append υ List.nil_append ]Lean.Parser.Tactic.simpLemma ]null '] ]null [ ]null ]Lean.Parser.Tactic.dsimp α ]Lean.Parser.Tactic.tacticTry_ θ 'show [ Ok [ Ε Ε [ assignInOrder [ Ε ι Ε ι ]Lean.Parser.Tactic.show ο '; Α а Ι ok_aio_cons [ δ '; [ Ι ok_assign_Name [ δ τ λ Ι ok_aio_nil [ δ ν τ λ Γ [ Ι ok_assign_Name [ δ ο λ Γ [ Ι ok_tests_one [ δ ο λ а Γ [ Ι ok_tests_nil [ δ ο '; [ Ρ '\"pk\" σ θ Ι ok_x_comp Κ Σ k1 д ζ θ Ι ok_x_compD Κ Σ k1 д ζ θ Π ok_len_str Κ ]Lean.Parser.Term.syntheticHole Ξ ω ]Lean.Parser.Tactic.refine' ο ξ k1 ρ '\"sz\" ζ θ Π ok_splitA Κ η k2 Χ k2 ρ '\"sz\" ζ е Ε Η θ Π ok_truthy_L Κ η k2 η '_ Ζ ο ξ k1 ρ '\"ho\" Ω k2 ρ '\"sz\" ζ τ ν\nch=[ 'repeat φ [ а 'rename [ HO [ Ε Ε ι '=> X_ ]Lean.Parser.Tactic.rename '; [ 'clear [ X_ ]null ]Lean.Parser.Tactic.clear τ в\nlx=[ а Ρ '\"ch\" σ '; [ 'lia Λ ]Lean.Parser.Tactic.lia τ\nkf=[ а Π kept_def [ Μ [ '? kf Ζ ξ kf β 'first [ [ '| φ [ 'exact [ fn_lexinit Θ fn_char Θ fn_tok Θ fn_push Θ fn_igninit Θ fn_names Θ fn_kind Θ fn_c_path Θ fn_splitroot Θ fn_npath Θ fn_normpath Θ fn_lexer Θ fn_piece Θ fn_name Θ fn_reader Θ fn_out Θ fn_behind Θ fn_kept Θ fn_readby Θ fn_first Θ fn_rules Θ fn_law [ ι Ν б τ\nom=[ Γ Υ [ '. i1 Δ i2 Δ i3 Δ i4 Δ i5 Δ i6 Δ i7 Δ i8 Δ i9 Δ i10 ]Lean.Parser.Term.dotIdent ]Lean.Parser.Tactic.exact λ 'repeat φ Υ Put.there γ Up.there γ Has.there γ At.there γ Del.there Ν в ν ο\nonm=[ а Γ [ Ι ok_Name Κ Σ k1 ψ '; [ Ρ '\"old\" σ τ\nold=Α а Γ [ Π ok_ldM Τ Χ k4 ρ '\"om\" Ω k5 ρ '\"om\" Ω k2 π ξ k3 ρ '\"okd\" ζ θ Π ok_ldFM Τ η k6 Χ k3 ρ '\"okd\" Ω k2 π ξ k4 ψ ξ k5 π ξ k6 β χ б τ λ Ρ '\"obt\" σ ν\nobt=Α а Γ [ Π ok_ldBM Τ η k6 η k7 η k8 Χ k7 ρ '\"obv\" Ω k6 ρ '\"obn\" Ω k2 π ξ k3 π ξ k4 π ξ k5 ρ '\"okd\" Ω k8 ψ τ ν\nosx=[ Γ Α Ι ok_str [ μ λ Ι ok_int [ μ λ Ι ok_x_ret Β ok_args_nil Β ok_isTrue_and_nil Β ok_x_if Β ok_IfExp Β ok_isTrue_and Β ok_List Β ok_execs_nil Β ok_truthy_bool Β ok_s Β ok_x_aug Β ok_x_augAttr Β ok_x_cont Β then_next Β then_ret Β then_cont [ δ ν ο\nosy=Α а Γ [ Ι ok_args_cons к ok_isTrue_Compare к ok_CallM Κ η k2 η k3 η k4 κ ξ k2 π ξ л Κ η k2 κ ξ k2 π τ ν\novl=[ Γ Α Ι ok_eq_int Β ok_eq_str Β ok_in_str [ δ ν ο\nost=Α а Γ [ Π ok_stM Τ Χ k4 ρ '\"om\" Ω k5 ρ '\"om\" Ω k2 π ξ k3 ρ '\"okd\" ζ е Η τ ν\nogo=[ 'repeat φ Α Ρ '\"osx\" σ λ Ρ '\"onm\" σ λ Ρ '\"osy\" σ λ Ρ '\"ovl\" σ λ Ρ '\"ost\" σ λ Ρ '\"old\" σ ν в\nokd=[ 'kernel_rfl! ]PyProof.Rows.tacticKernel_rfl!\ngs=[ а Ρ '\"go\" σ '; [ 'rename [ St [ Ε Ε Ε ι '=> S ]Lean.Parser.Tactic.rename τ\n"
def mxPut (x : Lean.Syntax) (st : List (List Lean.Syntax)) : List (List Lean.Syntax) := (x :: st.headD []) :: st.drop 1
def mxStep (st : List (List Lean.Syntax)) (w : String) : List (List Lean.Syntax) :=
 let c := w.front
 let r := String.ofList (w.toList.drop 1)
 if c == '[' then [] :: st
 else if c == ']' then mxPut (.node .none ((r.splitOn ".").foldl Lean.Name.str .anonymous) (st.headD []).reverse.toArray) (st.drop 1)
 else mxPut (if c == '\'' then .atom .none r else Lean.mkIdent w.toName) st
def mxSub (r d : String) : String := String.intercalate (String.ofList (d.toList.drop 1)) (r.splitOn (String.ofList (d.toList.take 1)))
def mxRow (k : String) : String := ((((mxTab.splitOn ("\n" ++ k ++ "=")).drop 1).headD "").splitOn "\n").headD ""
def mxRun (r : String) : Lean.Syntax := ((((((mxRow "~").splitOn "~").foldl mxSub r).splitOn " ").foldl mxStep []).headD []).headD .missing
local macro_rules | `(tactic| walk_at $s:str) => pure (mxRun (mxRow s.getString))
variable {w : World} {os : OsState} {n : Nat} {g h : Heap} {l : Led} {P : VP}
theorem gc_name {v_word v_mark : Value} {av_word av_mark : AV} (S : St (c2 w os) g h l) (r_word : av_word.rep v_word) (r_mark : av_mark.rep v_mark)
  (k : ∀ L h', St (c2 w os) g h' ((L + 1, isC (some av_mark)) :: (L, isFr [((Str.ofString "word"), some av_word)]) :: l) → Ok (c2 w os) n (execs bdname (mkEnv fdname 142 L [((Str.ofString "mark"), L + 1)])) (kFn P) h') :
  OkC (c2 w os) (n + 1) (.call (.ref 142) ⟨[v_word, v_mark], []⟩) (fun fl h' => ∃ v, fl = .ret v ∧ P v h') h := by
 refine (okC_call (fd := fdname) S (S.topH.k _ _ (fn_name _)) rfl rfl rfl (codeRec_of S.topH.k (cd_name _)) nd_name ?_)
 have hb : bindArgs fdname ⟨[v_word, v_mark], []⟩ = pure [((Str.ofString "word"), v_word), ((Str.ofString "mark"), v_mark)] := by kernel_rfl
 rw [hb]
 refine ok_pure ⟨_, S, fun L h S => ?_⟩
 rw [ns_name, ce_name] at S
 rw [cf_name, hb_name]
 have S := S.weak (.there .here) fun o q => isFr_none q
 refine ok_bind_cons ?_
 refine ok_stM' S fk_name (by kernel_rfl) (.there .here) .here r_word fun h S => ?_
 refine ok_bind_cons ?_
 refine ok_stCM' S fk_name (by kernel_rfl) rfl (v₀ := none) .here r_mark fun h S => ?_
 exact ok_bind_nil ⟨S.topH, okC_func ((k L _ S).mono fun f h' z => ⟨_, rfl, z⟩)⟩
theorem go_name {v_word v_mark : Value} {av_word av_mark : AV} (S : St (c2 w os) g h l) (r_word : av_word.rep v_word) (r_mark : av_mark.rep v_mark)
  (k : ∀ L h', St (c2 w os) g h' ((L + 1, isC (some av_mark)) :: (L, isFr [((Str.ofString "word"), some av_word)]) :: l) → Ok (c2 w os) n (execs bdname (mkEnv fdname 142 L [((Str.ofString "mark"), L + 1)])) (kFn P) h') :
  Ok (c2 w os) (n + 1) (call (.ref 142) [v_word, v_mark]) P h := ok_call (gc_name S r_word r_mark k)
noncomputable def nm (mark : Nat) (s : List Nat) : List Nat := if (decide (s = [34]) == decide ([mark] = [46])) then [97] else [97, 98]
noncomputable def nameOf (w : List Nat) (mark : Nat) : List Nat := glueL [mark] (w.reverse.map fun s => nm mark [s])
theorem nm_le (mark : Nat) (s : List Nat) : (nm mark s).length ≤ 2 := by unfold nm; split <;> simp
theorem sum_le {xs : List (List Nat)} {b : Nat} (h : ∀ x ∈ xs, x.length ≤ b) : (xs.map (·.length)).sum ≤ b * xs.length := by
 induction xs with
 | nil => simp
 | cons x r ih =>
  have h1 := h x List.mem_cons_self
  have h2 := ih fun y hy => h y (List.mem_cons_of_mem _ hy)
  simp only [List.map_cons, List.sum_cons, List.length_cons, Nat.mul_add, Nat.mul_one]; walk_at "lx"
theorem name_ok {ks : List Nat} {mark : Nat} {t u : Tok} (S : St (c2 w os) g h l) (hz : ks.length ≤ 100000)
  (k : ∀ h' t, St (c2 w os) g h' l → P (.str (str (nameOf ks mark)) t) h') : Ok (c2 w os) (n + 1) (call (.ref 142) [.str (str ks) t, .str (str [mark]) u]) P h := by
 refine go_name S rep_str rep_str fun L h S => ok_s ?_
 walk_at "go"
 refine ok_map1 (Str.ofString ".0") (Str.ofString "sign") (fun u_ => rfl) rfl rfl (by kernel_rfl) (by kernel_rfl) (fun u_ => by kernel_rfl) (by decide) ?_
 walk_at "gs"
 refine ⟨_, _, _, _, _, _, rfl, srcA_str, by rw [signs_len]; simp; walk_at "lx", S, fun u_ u_ u_ => trivial, mapT (nm mark), ?_, ?_⟩
 ·rintro i C D ys o h av v hi rv S
  obtain ⟨k, hk, rfl⟩ := signs_get hi
  walk_at "go"
  refine ok_IfExp ?_
  walk_at "go"
  refine ⟨fun e => ?_, fun e => ?_⟩
  ·walk_at "go"
   refine ⟨?_, S⟩
   show (AV.str (nm mark [k])).rep _
   rw [nm, if_pos e]; exact rep_str
  ·walk_at "go"
   refine ⟨?_, S⟩
   show (AV.str (nm mark [k])).rep _
   rw [nm, if_neg (by rw [e]; decide)]; exact rep_str
 ·intro D h S
  rw [mapT_signs] at S
  walk_at "go"
  refine ok_joinA (S.get .here) ?_ fun t => k _ _ (by walk_at "dr")
  have := sum_le (xs := ks.reverse.map fun k => nm mark [k]) (b := 2) fun x hx => by obtain ⟨y, _, rfl⟩ := List.mem_map.mp hx; exact nm_le _ _
  simp only [List.length_map, List.length_reverse, List.length_cons, List.length_nil] at this ⊢
  walk_at "lx"
theorem gc_behind {v_whole v_step : Value} {av_whole av_step : AV} (S : St (c2 w os) g h l) (r_whole : av_whole.rep v_whole) (r_step : av_step.rep v_step)
  (k : ∀ L h', St (c2 w os) g h' ((L + 1, isC (some av_step)) :: (L, isFr [((Str.ofString "whole"), some av_whole)]) :: l) → Ok (c2 w os) n (execs bdbehind (mkEnv fdbehind 159 L [((Str.ofString "step"), L + 1)])) (kFn P) h') :
  OkC (c2 w os) (n + 1) (.call (.ref 159) ⟨[v_whole, v_step], []⟩) (fun fl h' => ∃ v, fl = .ret v ∧ P v h') h := by
 refine (okC_call (fd := fdbehind) S (S.topH.k _ _ (fn_behind _)) rfl rfl rfl (codeRec_of S.topH.k (cd_behind _)) nd_behind ?_)
 have hb : bindArgs fdbehind ⟨[v_whole, v_step], []⟩ = pure [((Str.ofString "whole"), v_whole), ((Str.ofString "step"), v_step)] := by kernel_rfl
 rw [hb]
 refine ok_pure ⟨_, S, fun L h S => ?_⟩
 rw [ns_behind, ce_behind] at S
 rw [cf_behind, hb_behind]
 have S := S.weak (.there .here) fun o q => isFr_none q
 refine ok_bind_cons ?_
 refine ok_stM' S fk_behind (by kernel_rfl) (.there .here) .here r_whole fun h S => ?_
 refine ok_bind_cons ?_
 refine ok_stCM' S fk_behind (by kernel_rfl) rfl (v₀ := none) .here r_step fun h S => ?_
 exact ok_bind_nil ⟨S.topH, okC_func ((k L _ S).mono fun f h' z => ⟨_, rfl, z⟩)⟩
theorem go_behind {v_whole v_step : Value} {av_whole av_step : AV} (S : St (c2 w os) g h l) (r_whole : av_whole.rep v_whole) (r_step : av_step.rep v_step)
  (k : ∀ L h', St (c2 w os) g h' ((L + 1, isC (some av_step)) :: (L, isFr [((Str.ofString "whole"), some av_whole)]) :: l) → Ok (c2 w os) n (execs bdbehind (mkEnv fdbehind 159 L [((Str.ofString "step"), L + 1)])) (kFn P) h') :
  Ok (c2 w os) (n + 1) (call (.ref 159) [v_whole, v_step]) P h := ok_call (gc_behind S r_whole r_step k)
noncomputable def digits (ks : List Nat) : Prop := ∀ k ∈ ks, 48 ≤ k ∧ k < 51
theorem glue_one (xs : List Nat) (f : Nat → Nat) : glueL [] (xs.map fun k => [f k]) = xs.map f := by
 rw [glue_nil]
 induction xs with
 | nil => rfl
 | cons x r ih => simp [ih]
theorem ok_intS {c : Cx} {h : Heap} {k : Nat} {t : Tok} (hk : 48 ≤ k ∧ k < 51) (p : ∀ t, P (.int ((k - 48 : Nat) : Int) t) h) : Ok c n (call (.type "int") [.str (str [k]) t]) P h := by
 refine ok_int_str ?_ (by rw [str_len]; show 1 ≤ 640; walk_at "lx") p
 obtain ⟨h1, h2⟩ := hk
 obtain rfl | rfl | rfl : k = 48 ∨ k = 49 ∨ k = 50 := by walk_at "li"
 all_goals decide +kernel
theorem behind_ok {a b : List Nat} {t u : Tok} (S : St (c2 w os) g h l)
  (ha : digits a) (hla : a.length = 3) (hlb : b.length = 3)
  (k : ∀ h' t, St (c2 w os) g h' l → P (.str (str (a.map fun k => b.getD (k - 48) 0)) t) h') : Ok (c2 w os) (n + 1) (call (.ref 159) [.str (str a) t, .str (str b) u]) P h := by
 refine go_behind S rep_str rep_str fun L h S => ok_s ?_
 walk_at "go"
 refine ok_map1 (Str.ofString ".0") (Str.ofString "k") (fun u_ => rfl) rfl rfl (by kernel_rfl) (by kernel_rfl) (fun u_ => by kernel_rfl) (by decide) ?_
 walk_at "gs"
 refine ⟨_, _, _, _, _, _, rfl, srcA_str, by rw [signs_len]; walk_at "lx", S, fun u_ u_ u_ => trivial, mapT fun s => [b.getD (s.headD 0 - 48) 0], ?_, ?_⟩
 ·rintro i C D ys o h av v hi rv S
  obtain ⟨k, hk, rfl⟩ := signs_get hi
  have hk2 := ha k (List.mem_of_getElem? hk)
  walk_at "go"
  refine ok_intS hk2 fun u_ => ?_
  refine ok_itemS (by walk_at "li") (by walk_at "li") (k := b.getD (k - 48) 0) ?_ fun u_ => ⟨rep_str, S⟩
  have : k - 48 < b.length := by walk_at "li"
  simp [List.getD, this]
 ·intro D h S
  rw [mapT_signs] at S
  walk_at "go"
  refine ok_joinA (S.get .here) ?_ fun t => ?_
  ·simp only [List.map_map, List.length_map, List.length_nil, Nat.mul_zero, Nat.add_zero]
   have := sum_le (xs := a.map fun k => [b.getD ([k].headD 0 - 48) 0]) (b := 1) fun x hx => by obtain ⟨y, _, rfl⟩ := List.mem_map.mp hx; simp
   simp only [List.map_map, List.length_map] at this
   walk_at "lx"
  ·rw [glue_one]
   exact k _ _ (by walk_at "dr")
theorem gc_piece {v_word v_manner v_blank : Value} {av_word av_manner av_blank : AV} (S : St (c2 w os) g h l) (r_word : av_word.rep v_word) (r_manner : av_manner.rep v_manner) (r_blank : av_blank.rep v_blank)
  (k : ∀ L h', St (c2 w os) g h' ((L + 1, isC none) :: (L, isFr [((Str.ofString "word"), some av_word), ((Str.ofString "manner"), some av_manner), ((Str.ofString "blank"), some av_blank), ((Str.ofString "text"), none)]) :: l) → Ok (c2 w os) n (execs bdpiece (mkEnv fdpiece 137 L [((Str.ofString "risky"), L + 1)])) (kFn P) h') :
  OkC (c2 w os) (n + 1) (.call (.ref 137) ⟨[v_word, v_manner, v_blank], []⟩) (fun fl h' => ∃ v, fl = .ret v ∧ P v h') h := by
 refine (okC_call (fd := fdpiece) S (S.topH.k _ _ (fn_piece _)) rfl rfl rfl (codeRec_of S.topH.k (cd_piece _)) nd_piece ?_)
 have hb : bindArgs fdpiece ⟨[v_word, v_manner, v_blank], []⟩ = pure [((Str.ofString "word"), v_word), ((Str.ofString "manner"), v_manner), ((Str.ofString "blank"), v_blank)] := by kernel_rfl
 rw [hb]
 refine ok_pure ⟨_, S, fun L h S => ?_⟩
 rw [ns_piece, ce_piece] at S
 rw [cf_piece, hb_piece]
 have S := S.weak (.there .here) fun o q => isFr_none q
 refine ok_bind_cons ?_
 refine ok_stM' S fk_piece (by kernel_rfl) (.there .here) .here r_word fun h S => ?_
 refine ok_bind_cons ?_
 refine ok_stM' S fk_piece (by kernel_rfl) (.there .here) (.there .here) r_manner fun h S => ?_
 refine ok_bind_cons ?_
 refine ok_stM' S fk_piece (by kernel_rfl) (.there .here) (.there (.there .here)) r_blank fun h S => ?_
 exact ok_bind_nil ⟨S.topH, okC_func ((k L _ S).mono fun f h' z => ⟨_, rfl, z⟩)⟩
theorem go_piece {v_word v_manner v_blank : Value} {av_word av_manner av_blank : AV} (S : St (c2 w os) g h l) (r_word : av_word.rep v_word) (r_manner : av_manner.rep v_manner) (r_blank : av_blank.rep v_blank)
  (k : ∀ L h', St (c2 w os) g h' ((L + 1, isC none) :: (L, isFr [((Str.ofString "word"), some av_word), ((Str.ofString "manner"), some av_manner), ((Str.ofString "blank"), some av_blank), ((Str.ofString "text"), none)]) :: l) → Ok (c2 w os) n (execs bdpiece (mkEnv fdpiece 137 L [((Str.ofString "risky"), L + 1)])) (kFn P) h') :
  Ok (c2 w os) (n + 1) (call (.ref 137) [v_word, v_manner, v_blank]) P h := ok_call (gc_piece S r_word r_manner r_blank k)
noncomputable def riskyOf (word : List Nat) : Nat → List Nat
 | 0 => [34, 92, 35]
 | 1 => [10, 9, 13, 32, 92] ++ (if word.take 1 = [34] then [34] else [])
 | _ => word
noncomputable def escOf (risky : List Nat) (s : List Nat) : List Nat := if decide (s.headD 0 ∈ risky) then [92] ++ s else s
noncomputable def escape (risky word : List Nat) : List Nat := (word.map fun k => escOf risky [k]).flatten
noncomputable def pieceOf (word : List Nat) (manner : Nat) (blank : List Nat) : List Nat :=
 if 0 < manner then escape (riskyOf word manner) word ++ blank else blank ++ [34] ++ escape (riskyOf word manner) word ++ [34]
theorem escOf_le (r s : List Nat) : (escOf r s).length ≤ s.length + 1 := by unfold escOf; split <;> simp
theorem flat_le {xs : List (List Nat)} {b : Nat} (h : ∀ x ∈ xs, x.length ≤ b) : xs.flatten.length ≤ b * xs.length := by
 rw [List.length_flatten]; exact sum_le h
theorem escape_le (r w : List Nat) : (escape r w).length ≤ 2 * w.length := by
 have := flat_le (xs := w.map fun k => escOf r [k]) (b := 2) fun x hx => by obtain ⟨y, _, rfl⟩ := List.mem_map.mp hx; exact escOf_le r [y]
 simpa [escape] using this
theorem piece_ok {word blank : List Nat} {manner : Nat} {t u t' : Tok} (S : St (c2 w os) g h l) (hz : word.length ≤ 100000) (hb : blank.length ≤ 10) (hm : manner < 3)
  (k : ∀ h' t, St (c2 w os) g h' l → P (.str (str (pieceOf word manner blank)) t) h') : Ok (c2 w os) (n + 1) (call (.ref 137) [.str (str word) t, .int manner u, .str (str blank) t']) P h := by
 refine go_piece S rep_str rep_int rep_str fun L h S => ok_s ?_
 walk_at "gs"
 refine ok_IfExpA S (.str (if word.take 1 = [34] then [34] else [])) ?_ fun v h rv S => ?_
 ·walk_at "gs"
  rw [piece_to _ (by decide)]
  refine ⟨fun e => ?_, fun e => ?_⟩
  ·rw [if_pos (show List.take 1 word = [34] from of_decide_eq_true e)]
   walk_at "go"
   exact ⟨rep_str, S⟩
  ·rw [if_neg (show ¬ List.take 1 word = [34] from of_decide_eq_false e)]
   walk_at "go"
   exact ⟨rep_str, S⟩
 obtain ⟨t1, rfl⟩ := rv
 refine ok_addS (by split <;> simp) fun u_ => ?_
 walk_at "gs"
 refine ok_item_L (S.get .here) (by walk_at "li") (by walk_at "li") (av := .str (riskyOf word manner)) ?_ ?_
 ·obtain rfl | rfl | rfl : manner = 0 ∨ manner = 1 ∨ manner = 2 := by walk_at "li"
  all_goals rfl
 walk_at "av"
 walk_at "go"
 refine ok_map1 (Str.ofString ".0") (Str.ofString "sign") (fun u_ => rfl) rfl rfl (by kernel_rfl) (by kernel_rfl) (fun u_ => by kernel_rfl) (by decide) ?_
 walk_at "gs"
 refine ⟨_, _, _, _, _, _, rfl, srcA_str, by rw [signs_len]; walk_at "lx", S, fun u_ u_ u_ => trivial, mapT (escOf (riskyOf word manner)), ?_, ?_⟩
 ·rintro i C D ys o h av v hi rv S
  obtain ⟨k, hk, rfl⟩ := signs_get hi
  refine ok_IfExp ?_
  walk_at "go"
  refine ⟨fun e => ?_, fun e => ?_⟩
  ·walk_at "go"
   refine ⟨?_, S⟩
   show (AV.str (escOf _ [k])).rep _
   rw [escOf, List.headD_cons, if_pos e]; exact rep_str
  ·walk_at "go"
   refine ⟨?_, S⟩
   show (AV.str (escOf _ [k])).rep _
   rw [escOf, List.headD_cons, if_neg (by rw [e]; decide)]; exact rep_str
 ·intro D h S
  rw [mapT_signs] at S
  walk_at "go"
  refine ok_joinA (S.get .here) ?_ fun t => ?_
  ·have := sum_le (xs := word.map fun k => escOf (riskyOf word manner) [k]) (b := 2) fun x hx => by obtain ⟨y, _, rfl⟩ := List.mem_map.mp hx; exact escOf_le _ _
   simp only [List.length_map, List.length_nil, Nat.mul_zero, Nat.add_zero] at this ⊢
   walk_at "lx"
  have hl := escape_le (riskyOf word manner) word
  have he : (List.map (fun k => escOf (riskyOf word manner) [k]) word).flatten = escape (riskyOf word manner) word := rfl
  rw [glue_nil, he]
  walk_at "gs"
  refine ok_IfExp ?_
  walk_at "go"
  refine ⟨fun e => ?_, fun e => ?_⟩
  ·walk_at "go"
   have : pieceOf word manner blank = escape (riskyOf word manner) word ++ blank := if_pos (by have := of_decide_eq_true e; walk_at "lx")
   rw [← this]
   exact k _ _ (by walk_at "dr")
  ·walk_at "go"
   have : pieceOf word manner blank = blank ++ [34] ++ escape (riskyOf word manner) word ++ [34] := if_neg (by have := of_decide_eq_false e; walk_at "lx")
   rw [← this]
   exact k _ _ (by walk_at "dr")
theorem gc_kind {v_name v_x : Value} {av_name av_x : AV} (S : St (c2 w os) g h l) (r_name : av_name.rep v_name) (r_x : av_x.rep v_x)
  (k : ∀ L h', St (c2 w os) g h' ((L, isFr [((Str.ofString "name"), some av_name), ((Str.ofString "x"), some av_x), ((Str.ofString "t"), none)]) :: l) → Ok (c2 w os) n (execs bdkind (mkEnv fdkind 70 L [])) (kFn P) h') :
  OkC (c2 w os) (n + 1) (.call (.ref 70) ⟨[v_name, v_x], []⟩) (fun fl h' => ∃ v, fl = .ret v ∧ P v h') h := by
 refine (okC_call (fd := fdkind) S (S.topH.k _ _ (fn_kind _)) rfl rfl rfl (codeRec_of S.topH.k (cd_kind _)) nd_kind ?_)
 have hb : bindArgs fdkind ⟨[v_name, v_x], []⟩ = pure [((Str.ofString "name"), v_name), ((Str.ofString "x"), v_x)] := by kernel_rfl
 rw [hb]
 refine ok_pure ⟨_, S, fun L h S => ?_⟩
 rw [ns_kind, ce_kind] at S
 rw [cf_kind, hb_kind]
 have S := S.weak .here fun o q => isFr_none q
 refine ok_bind_cons ?_
 refine ok_stM' S fk_kind (by kernel_rfl) .here .here r_name fun h S => ?_
 refine ok_bind_cons ?_
 refine ok_stM' S fk_kind (by kernel_rfl) .here (.there .here) r_x fun h S => ?_
 exact ok_bind_nil ⟨S.topH, okC_func ((k L _ S).mono fun f h' z => ⟨_, rfl, z⟩)⟩
theorem go_kind {v_name v_x : Value} {av_name av_x : AV} (S : St (c2 w os) g h l) (r_name : av_name.rep v_name) (r_x : av_x.rep v_x)
  (k : ∀ L h', St (c2 w os) g h' ((L, isFr [((Str.ofString "name"), some av_name), ((Str.ofString "x"), some av_x), ((Str.ofString "t"), none)]) :: l) → Ok (c2 w os) n (execs bdkind (mkEnv fdkind 70 L [])) (kFn P) h') :
  Ok (c2 w os) (n + 1) (call (.ref 70) [v_name, v_x]) P h := ok_call (gc_kind S r_name r_x k)
theorem kind_ok {nm x : List Nat} {t u : Tok} (S : St (c2 w os) g h l)
  (k : ∀ h' t, St (c2 w os) g h' l → P (.str (str []) t) h') : Ok (c2 w os) (n + 1) (call (.ref 70) [.str (str nm) t, .str (str x) u]) P h := by
 refine go_kind S rep_str rep_str fun L h S => ok_s ?_
 walk_at "go"
 refine ok_type_str ?_
 walk_at "go"
 refine ok_x_if ?_
 walk_at "go"
 refine ok_isP rfl ?_
 walk_at "go"
 refine ⟨fun u_ => ?_, fun e => by cases e⟩
 walk_at "go"
 exact k _ _ (by walk_at "dr")
theorem gc_splitroot {v_p : Value} {av_p : AV} (S : St (c2 w os) g h l) (r_p : av_p.rep v_p)
  (k : ∀ L h', St (c2 w os) g h' ((L, isFr [((Str.ofString "p"), some av_p), ((Str.ofString "sep"), none), ((Str.ofString "empty"), none)]) :: l) → Ok (c2 w os) n (execs bdsplitroot (mkEnv fdsplitroot 84 L [])) (kFn P) h') :
  OkC (c2 w os) (n + 1) (.call (.ref 84) ⟨[v_p], []⟩) (fun fl h' => ∃ v, fl = .ret v ∧ P v h') h := by
 refine (okC_call (fd := fdsplitroot) S (S.topH.k _ _ (fn_splitroot _)) rfl rfl rfl (codeRec_of S.topH.k (cd_splitroot _)) nd_splitroot ?_)
 have hb : bindArgs fdsplitroot ⟨[v_p], []⟩ = pure [((Str.ofString "p"), v_p)] := by kernel_rfl
 rw [hb]
 refine ok_pure ⟨_, S, fun L h S => ?_⟩
 rw [ns_splitroot, ce_splitroot] at S
 rw [cf_splitroot, hb_splitroot]
 have S := S.weak .here fun o q => isFr_none q
 refine ok_bind_cons ?_
 refine ok_stM' S fk_splitroot (by kernel_rfl) .here .here r_p fun h S => ?_
 exact ok_bind_nil ⟨S.topH, okC_func ((k L _ S).mono fun f h' z => ⟨_, rfl, z⟩)⟩
theorem go_splitroot {v_p : Value} {av_p : AV} (S : St (c2 w os) g h l) (r_p : av_p.rep v_p)
  (k : ∀ L h', St (c2 w os) g h' ((L, isFr [((Str.ofString "p"), some av_p), ((Str.ofString "sep"), none), ((Str.ofString "empty"), none)]) :: l) → Ok (c2 w os) n (execs bdsplitroot (mkEnv fdsplitroot 84 L [])) (kFn P) h') :
  Ok (c2 w os) (n + 1) (call (.ref 84) [v_p]) P h := ok_call (gc_splitroot S r_p k)
theorem splitroot_ok {p : List Nat} {t : Tok} (S : St (c2 w os) g h l) (hz : p.length ≤ 1000) (hp : p.head? ≠ some 47)
  (k : ∀ a h', St (c2 w os) g h' ((a, isT [.str [], .str [], .str p]) :: l) → P (.ref a) h') : Ok (c2 w os) (n + 1) (call (.ref 84) [.str (str p) t]) P h := by
 refine go_splitroot S rep_str fun L h S => ok_s ?_
 walk_at "go"
 refine ok_x_if ?_
 walk_at "go"
 rw [piece_to _ (by decide)]
 refine ⟨fun e => ?_, fun e => ?_⟩
 ·walk_at "go"
  refine ok_Tuple ?_
  walk_at "gs"
  refine ⟨_, _, _, S, (by walk_at "rps"), (by simp), fun a h S => ?_⟩
  exact k _ _ S.f2.tail
 ·exfalso
  have : List.take 1 p = [47] := by simpa using e
  cases p with
  | nil => simp at this
  | cons x r => simp at this; exact hp (by simp [this])
theorem gc_c_path {v_name v_cname v_argname v_args v_kwargs : Value} {av_name av_cname av_argname av_args av_kwargs : AV} (S : St (c2 w os) g h l) (r_name : av_name.rep v_name) (r_cname : av_cname.rep v_cname) (r_argname : av_argname.rep v_argname) (r_args : av_args.rep v_args) (r_kwargs : av_kwargs.rep v_kwargs)
  (k : ∀ L h', St (c2 w os) g h' ((L, isFr [((Str.ofString "name"), some av_name), ((Str.ofString "cname"), some av_cname), ((Str.ofString "argname"), some av_argname), ((Str.ofString "args"), some av_args), ((Str.ofString "kwargs"), some av_kwargs), ((Str.ofString "x"), none), ((Str.ofString "k"), none)]) :: l) → Ok (c2 w os) n (execs bdc_path (mkEnv fdc_path 77 L [])) (kFn P) h') :
  OkC (c2 w os) (n + 1) (.call (.ref 77) ⟨[v_name, v_cname, v_argname, v_args, v_kwargs], []⟩) (fun fl h' => ∃ v, fl = .ret v ∧ P v h') h := by
 refine (okC_call (fd := fdc_path) S (S.topH.k _ _ (fn_c_path _)) rfl rfl rfl (codeRec_of S.topH.k (cd_c_path _)) nd_c_path ?_)
 have hb : bindArgs fdc_path ⟨[v_name, v_cname, v_argname, v_args, v_kwargs], []⟩ = pure [((Str.ofString "name"), v_name), ((Str.ofString "cname"), v_cname), ((Str.ofString "argname"), v_argname), ((Str.ofString "args"), v_args), ((Str.ofString "kwargs"), v_kwargs)] := by kernel_rfl
 rw [hb]
 refine ok_pure ⟨_, S, fun L h S => ?_⟩
 rw [ns_c_path, ce_c_path] at S
 rw [cf_c_path, hb_c_path]
 have S := S.weak .here fun o q => isFr_none q
 refine ok_bind_cons ?_
 refine ok_stM' S fk_c_path (by kernel_rfl) .here .here r_name fun h S => ?_
 refine ok_bind_cons ?_
 refine ok_stM' S fk_c_path (by kernel_rfl) .here (.there .here) r_cname fun h S => ?_
 refine ok_bind_cons ?_
 refine ok_stM' S fk_c_path (by kernel_rfl) .here (.there (.there .here)) r_argname fun h S => ?_
 refine ok_bind_cons ?_
 refine ok_stM' S fk_c_path (by kernel_rfl) .here (.there (.there (.there .here))) r_args fun h S => ?_
 refine ok_bind_cons ?_
 refine ok_stM' S fk_c_path (by kernel_rfl) .here (.there (.there (.there (.there .here)))) r_kwargs fun h S => ?_
 exact ok_bind_nil ⟨S.topH, okC_func ((k L _ S).mono fun f h' z => ⟨_, rfl, z⟩)⟩
theorem go_c_path {v_name v_cname v_argname v_args v_kwargs : Value} {av_name av_cname av_argname av_args av_kwargs : AV} (S : St (c2 w os) g h l) (r_name : av_name.rep v_name) (r_cname : av_cname.rep v_cname) (r_argname : av_argname.rep v_argname) (r_args : av_args.rep v_args) (r_kwargs : av_kwargs.rep v_kwargs)
  (k : ∀ L h', St (c2 w os) g h' ((L, isFr [((Str.ofString "name"), some av_name), ((Str.ofString "cname"), some av_cname), ((Str.ofString "argname"), some av_argname), ((Str.ofString "args"), some av_args), ((Str.ofString "kwargs"), some av_kwargs), ((Str.ofString "x"), none), ((Str.ofString "k"), none)]) :: l) → Ok (c2 w os) n (execs bdc_path (mkEnv fdc_path 77 L [])) (kFn P) h') :
  Ok (c2 w os) (n + 1) (call (.ref 77) [v_name, v_cname, v_argname, v_args, v_kwargs]) P h := ok_call (gc_c_path S r_name r_cname r_argname r_args r_kwargs k)
theorem c_path_ok {n1 n2 n3 p : List Nat} {a d : Addr} {t1 t2 t3 : Tok} (S : St (c2 w os) g h l)
  (ha : HO g a (isT [.str p])) (hd : HO g d (isDic (K := Str) (c2 w os) [])) (hns : NotSys d)
  (k : ∀ h' t, St (c2 w os) g h' l → P (.str (str p) t) h') : Ok (c2 w os) (n + 2) (call (.ref 77) [.str (str n1) t1, .str (str n2) t2, .str (str n3) t3, .ref a, .ref d]) P h := by
 refine go_c_path S rep_str rep_str rep_str rep_ref rep_ref fun L h S => ok_s ?_
 refine ok_x_if ?_
 walk_at "go"
 refine ok_len_T (S.here ha) (by simp) fun u_ => ?_
 walk_at "go"
 refine ⟨fun u_ => ?_, fun e => by cases e⟩
 walk_at "go"
 refine ok_truthyD (S.here hd) hns (by simp) ?_
 refine ⟨fun u_ => ?_, fun e => by cases e⟩
 walk_at "go"
 refine ⟨fun u_ => ?_, fun e => by cases e⟩
 walk_at "go"
 refine ok_item_T (S.here ha) (by decide) (by decide) (av := .str p) rfl ?_
 walk_at "av"
 walk_at "gs"
 refine kind_ok S fun h t S => ?_
 walk_at "go"
 refine ok_x_if ?_
 walk_at "go"
 refine ⟨fun e => (by cases e), fun u_ => ?_⟩
 walk_at "go"
 exact k _ _ (by walk_at "dr")
noncomputable def npStep (st : List (List Nat)) (x : List Nat) : List (List Nat) :=
 if x = [] ∨ x = [46] then st else if x ≠ [46, 46] ∨ st = [] ∨ st.getLast? = some [46, 46] then st ++ [x] else st.dropLast
noncomputable def np (xs : List (List Nat)) : List (List Nat) := xs.foldl npStep []
noncomputable def npath (p : List Nat) : List Nat := if glueL [47] (np (cutAt 47 p)) = [] then [46] else glueL [47] (np (cutAt 47 p))
theorem np_mem (xs : List (List Nat)) : ∀ (st : List (List Nat)) (x : List Nat), x ∈ xs.foldl npStep st → x ∈ xs ∨ x ∈ st := by
 induction xs with
 | nil => intro st x h; exact .inr h
 | cons y xs ih =>
  intro st x h
  rcases ih (npStep st y) x h with h | h
  ·exact .inl (List.mem_cons_of_mem _ h)
  ·unfold npStep at h
   split at h
   ·exact .inr h
   ·split at h
    ·rcases List.mem_append.mp h with h | h
     ·exact .inr h
     ·exact .inl (by rw [List.mem_singleton.mp h]; exact List.mem_cons_self)
    ·exact .inr (List.dropLast_subset _ h)
theorem npStep_len (st : List (List Nat)) (x : List Nat) : (npStep st x).length ≤ st.length + 1 := by
 unfold npStep; split
 ·walk_at "lx"
 ·split <;> simp
  walk_at "lx"
theorem np_len (xs : List (List Nat)) : ∀ st : List (List Nat), (xs.foldl npStep st).length ≤ st.length + xs.length := by
 induction xs with
 | nil => intro st; exact Nat.le_refl _
 | cons y xs ih =>
  intro st
  have h1 := ih (npStep st y)
  have h2 := npStep_len st y
  simp only [List.foldl_cons, List.length_cons]; walk_at "lx"
theorem cutAt_len (k : Nat) (p : List Nat) : (cutAt k p).length ≤ p.length + 1 ∧ ∀ x ∈ cutAt k p, x.length ≤ p.length := by
 induction p with
 | nil => exact ⟨Nat.le_refl _, fun x hx => by rw [List.mem_singleton.mp hx]; exact Nat.le_refl _⟩
 | cons y r ih =>
  obtain ⟨a, b, e⟩ := cutAt_ne k r
  rw [cutAt_cons, e]
  rw [e] at ih
  by_cases h : y = k
  ·rw [if_pos h]
   refine ⟨Nat.succ_le_succ ih.1, fun x hx => ?_⟩
   rcases List.mem_cons.mp hx with rfl | hx
   ·exact Nat.zero_le _
   ·exact Nat.le_succ_of_le (ih.2 x hx)
  ·rw [if_neg h]
   refine ⟨Nat.le_succ_of_le ih.1, fun x hx => ?_⟩
   rcases List.mem_cons.mp hx with rfl | hx
   ·exact Nat.succ_le_succ (ih.2 a List.mem_cons_self)
   ·exact Nat.le_succ_of_le (ih.2 x (List.mem_cons_of_mem _ hx))
theorem gc_npath {v_path : Value} {av_path : AV} (S : St (c2 w os) g h l) (r_path : av_path.rep v_path)
  (k : ∀ L h', St (c2 w os) g h' ((L, isFr [((Str.ofString "path"), some av_path), ((Str.ofString "sep"), none), ((Str.ofString "dot"), none), ((Str.ofString "dotdot"), none), ((Str.ofString "_"), none), ((Str.ofString "initial_slashes"), none), ((Str.ofString "comps"), none), ((Str.ofString "new_comps"), none), ((Str.ofString "comp"), none)]) :: l) → Ok (c2 w os) n (execs bdnpath (mkEnv fdnpath 91 L [])) (kFn P) h') :
  OkC (c2 w os) (n + 1) (.call (.ref 91) ⟨[v_path], []⟩) (fun fl h' => ∃ v, fl = .ret v ∧ P v h') h := by
 refine (okC_call (fd := fdnpath) S (S.topH.k _ _ (fn_npath _)) rfl rfl rfl (codeRec_of S.topH.k (cd_npath _)) nd_npath ?_)
 have hb : bindArgs fdnpath ⟨[v_path], []⟩ = pure [((Str.ofString "path"), v_path)] := by kernel_rfl
 rw [hb]
 refine ok_pure ⟨_, S, fun L h S => ?_⟩
 rw [ns_npath, ce_npath] at S
 rw [cf_npath, hb_npath]
 have S := S.weak .here fun o q => isFr_none q
 refine ok_bind_cons ?_
 refine ok_stM' S fk_npath (by kernel_rfl) .here .here r_path fun h S => ?_
 exact ok_bind_nil ⟨S.topH, okC_func ((k L _ S).mono fun f h' z => ⟨_, rfl, z⟩)⟩
theorem go_npath {v_path : Value} {av_path : AV} (S : St (c2 w os) g h l) (r_path : av_path.rep v_path)
  (k : ∀ L h', St (c2 w os) g h' ((L, isFr [((Str.ofString "path"), some av_path), ((Str.ofString "sep"), none), ((Str.ofString "dot"), none), ((Str.ofString "dotdot"), none), ((Str.ofString "_"), none), ((Str.ofString "initial_slashes"), none), ((Str.ofString "comps"), none), ((Str.ofString "new_comps"), none), ((Str.ofString "comp"), none)]) :: l) → Ok (c2 w os) n (execs bdnpath (mkEnv fdnpath 91 L [])) (kFn P) h') :
  Ok (c2 w os) (n + 1) (call (.ref 91) [v_path]) P h := ok_call (gc_npath S r_path k)
theorem glue_le1 (k b : Nat) (xs : List (List Nat)) (h : ∀ x ∈ xs, x.length ≤ b) : (glueL [k] xs).length ≤ (b + 1) * xs.length := by
 cases xs with
 | nil => exact Nat.zero_le _
 | cons x r =>
  have h1 := h x List.mem_cons_self
  have h2 := flat_le (xs := r.map fun y => [k] ++ y) (b := b + 1) fun y hy => by
   obtain ⟨z, hz, rfl⟩ := List.mem_map.mp hy
   have := h z (List.mem_cons_of_mem _ hz)
   simp; walk_at "lx"
  simp only [glueL, List.length_append, List.length_cons, Nat.mul_add, Nat.mul_one] at h2 ⊢
  rw [List.flatMap_def]
  simp only [List.length_map] at h2
  walk_at "lx"
theorem glue_le {b : Nat} (xs : List (List Nat)) (h : ∀ x ∈ xs, x.length ≤ b) : (glueL [47] xs).length ≤ (b + 1) * xs.length := glue_le1 47 b xs h
noncomputable abbrev npFr (p : List Nat) (cl nc : Addr) (oc : Option AV) : AM := [(Str.ofString "path", some (AV.str p)), (Str.ofString "sep", some (AV.str [47])), (Str.ofString "dot", some (AV.str [46])), (Str.ofString "dotdot", some (AV.str [46, 46])),
  (Str.ofString "_", some (AV.str [])), (Str.ofString "initial_slashes", some (AV.str [])), (Str.ofString "comps", some (AV.ref cl)), (Str.ofString "new_comps", some (AV.ref nc)), (Str.ofString "comp", oc)]
set_option tactic.hygienic true in
theorem npath_ok {p : List Nat} {t : Tok} (S : St (c2 w os) g h l) (hz : p.length ≤ 1000) (h0 : p ≠ []) (hp : p.head? ≠ some 47)
  (k : ∀ h' t, St (c2 w os) g h' l → P (.str (str (npath p)) t) h') : Ok (c2 w os) (n + 2) (call (.ref 91) [.str (str p) t]) P h := by
 refine go_npath S rep_str fun L h S => ok_s ?_
 walk_at "go"
 refine ok_x_if ?_
 walk_at "go"
 refine ⟨fun e => ?_, fun u_ => ?_⟩
 ·exfalso
  cases p with
  | nil => exact h0 rfl
  | cons x r => simp at e
 walk_at "gs"
 refine splitroot_ok S hz hp fun a h S => ?_
 refine ok_assign_Tuple S (S.get .here) rfl rfl fun h us r S => ?_
 revert us
 refine Reps.eC fun v1 r1 => ?_
 refine Reps.eC fun v2 r2 => ?_
 refine Reps.eC fun v3 r3 => ?_
 refine Reps.eN ?_
 walk_at "go"
 rename_i cl _ _ _ _ nc _ _
 rename St _ _ _ _ => S
 refine ok_x_for (fun u_ => rfl) ?_
 walk_at "go"
 have hlen := cutAt_len 47 p
 refine ok_iterLA S (S.get (.i1)) fun it h S => ?_
 have stlen : ∀ i, (((cutAt 47 p).take i).foldl npStep []).length ≤ 1001 := fun i => by
  have := np_len ((cutAt 47 p).take i) []
  simp only [List.length_nil, List.length_take] at this
  walk_at "lx"
 refine okC_forT (σ := Option AV) (srcA_list (vs := strsOf (cutAt 47 p))) (fun i oc => (nc, isL (strsOf (((cutAt 47 p).take i).foldl npStep []))) :: (cl, isL (strsOf (cutAt 47 p))) :: (a, isT [AV.str [], AV.str [], AV.str p]) :: (L, isFr (npFr p cl nc oc)) :: l) ?_ ?_ ?_ none S
 ·intro i oc h W' S
  exact S.get (.i2)
 ·intro i T hT oc h av v hi rv S
  revert av v
  refine turn_strs fun x t hx => ?_
  have hxl := hlen.2 x (List.mem_of_getElem? hx)
  have hst := stlen i
  have hfin : ((cutAt 47 p).take (i + 1)).foldl npStep [] = npStep (((cutAt 47 p).take i).foldl npStep []) x := fold_take _ _ _ _ _ hx
  generalize ((cutAt 47 p).take i).foldl npStep [] = st at hst hfin S
  refine ok_assign_Name ?_
  walk_at "gs"
  refine ok_x_ifT S (decide (x = [] ∨ x = [46])) ?_ (fun h S e => ?_) (fun h S e => ?_)
  ·walk_at "tsp"
   all_goals refine ⟨?_, S⟩
   all_goals simp_all
  ·walk_at "go"
   have e := of_decide_eq_true e
   rw [npStep, if_pos e] at hfin
   exact hT _ _ ⟨_, by rw [hfin]; exact S⟩
  have e := of_decide_eq_false e
  rw [npStep, if_neg e] at hfin
  walk_at "go"
  refine ok_x_ifT S (decide (x ≠ [46, 46] ∨ st = [] ∨ st.getLast? = some [46, 46])) ?_ (fun h S e => ?_) (fun h S e => ?_)
  ·by_cases hx2 : x = [46, 46]
   ·subst hx2
    rcases List.eq_nil_or_concat st with rfl | ⟨st', y, rfl⟩
    ·walk_at "tst"
     exact ⟨rfl, S⟩
    ·rw [List.concat_eq_append] at hst S ⊢
     rw [strs_snoc] at S
     walk_at "tst"
     refine ok_last_L (S.get (.i1)) ?_
     walk_at "av"
     walk_at "tst"
     by_cases hy : y = [46, 46]
     ·subst hy
      walk_at "tst"
      exact ⟨by simp, by rw [strs_snoc]; exact S⟩
     ·refine pkF (decide_eq_false hy) ?_
      walk_at "tst"
      exact ⟨by simp [hy], by rw [strs_snoc]; exact S⟩
   ·walk_at "go"
    refine pkT' (by rw [decide_eq_false hx2]; rfl) ?_
    walk_at "tst"
    exact ⟨by simp [hx2], S⟩
  ·have e := of_decide_eq_true e
   rw [if_pos e] at hfin
   walk_at "gs"
   rw [← strs_snoc] at S
   exact hT _ _ ⟨_, by rw [hfin]; exact S⟩
  ·have e := of_decide_eq_false e
   rw [if_neg e] at hfin
   have hne : st ≠ [] := fun q => e (.inr (.inl q))
   walk_at "go"
   refine ok_x_ifT S true ?_ (fun h S e => ?_) (fun h S e => by cases e)
   ·walk_at "go"
    exact ⟨by cases st with | nil => exact (hne rfl).elim | cons a r => rfl, S⟩
   walk_at "go"
   obtain ⟨st', y, rfl⟩ := (List.eq_nil_or_concat st).resolve_left hne
   rw [List.concat_eq_append, strs_snoc] at S
   refine ok_popA S (.i1) (by rw [strs_len]; simp at hst; walk_at "lx") fun h S => ?_
   walk_at "av"
   walk_at "go"
   exact hT _ _ ⟨_, by rw [hfin, List.concat_eq_append, List.dropLast_concat]; exact S⟩
 ·intro oc h S
  walk_at "gs"
  have hnp : ((cutAt 47 p).take (strsOf (cutAt 47 p)).length).foldl npStep [] = np (cutAt 47 p) := by rw [strs_len, List.take_of_length_le (Nat.le_refl _)]; rfl
  rw [hnp] at S
  have hb : ∀ x ∈ np (cutAt 47 p), x.length ≤ 1000 := fun x hx => by
   rcases np_mem _ _ _ hx with h | h
   ·have := hlen.2 x h; walk_at "lx"
   ·cases h
  have hs := sum_le hb
  have hl := np_len (cutAt 47 p) []
  have hl : (np (cutAt 47 p)).length ≤ 1001 := by
   have : (np (cutAt 47 p)).length ≤ 0 + (cutAt 47 p).length := hl
   walk_at "lx"
  have hg := glue_le (np (cutAt 47 p)) hb
  have hg : (glueL [47] (np (cutAt 47 p))).length ≤ 1100000 := by
   have := Nat.mul_le_mul_left 1001 hl
   walk_at "lx"
  refine ok_joinA (S.get .here) (by simp only [List.length_cons, List.length_nil]; walk_at "lx") fun u_ => ?_
  refine ok_addS (by simp only [List.length_nil]; walk_at "lx") fun u_ => ?_
  rw [List.nil_append]
  walk_at "gs"
  refine ok_bo_or ?_
  walk_at "go"
  by_cases hg0 : glueL [47] (np (cutAt 47 p)) = []
  ·refine pkF (by rw [hg0]; rfl) ?_
   refine ok_bo_one ?_
   walk_at "go"
   have : npath p = [46] := if_pos hg0
   rw [← this]
   exact k _ _ (by walk_at "dr")
  ·refine pkT (by cases h : glueL [47] (np (cutAt 47 p)) with | nil => exact (hg0 h).elim | cons a r => rfl) ?_
   have : npath p = glueL [47] (np (cutAt 47 p)) := if_neg hg0
   rw [← this]
   exact k _ _ (by walk_at "dr")
theorem hb0_normpath (v : Value) : bindArgs fdnormpath ⟨[v], []⟩ = (newTuple [v] >>= fun t => newDict >>= fun d => pure [(Str.ofString "args", t), (Str.ofString "kwargs", d)]) := by kernel_rfl
theorem normpath_ok {p : List Nat} {t : Tok} (S : St (c2 w os) g h l) (hz : p.length ≤ 1000) (h0 : p ≠ []) (hp : p.head? ≠ some 47)
  (k : ∀ h' t, St (c2 w os) g h' l → P (.str (str (npath p)) t) h') : Ok (c2 w os) (n + 3) (call (.ref 98) [.str (str p) t]) P h := by
 refine ok_call (okC_call (fd := fdnormpath) S (S.topH.k _ _ (fn_normpath _)) rfl rfl rfl (codeRec_of S.topH.k (cd_normpath _)) nd_normpath ?_)
 rw [hb0_normpath]
 refine ok_bind (ok_newTupleA S (vs := [.str p]) ⟨rep_str, trivial⟩ (by simp) fun a h S1 => ?_)
 refine ok_bind (ok_newDictA (K := Str) S1 fun d h S2 => ?_)
 have hns : NotSys d := S2.sys .here
 refine ok_pure ⟨_, S2, fun L h S3 => ?_⟩
 rw [ns_normpath, ce_normpath] at S3
 rw [cf_normpath, hb_normpath]
 have S3 := S3.weak .here fun o q => isFr_none q
 refine ok_bind_cons (ok_stM' S3 fk_normpath (by kernel_rfl) .here .here rep_ref fun h S3 => ?_)
 refine ok_bind_cons (ok_stM' S3 fk_normpath (by kernel_rfl) .here (.i1) rep_ref fun h S3 => ?_)
 have S3 := S3.b3
 obtain ⟨g2, k2, S3, X⟩ := S3.freezeL (l₁ := [(d, _), (a, _)])
 have X2 := X _ List.mem_cons_self
 have X1 := X _ (List.mem_cons_of_mem _ List.mem_cons_self)
 refine ok_bind_nil ⟨S3.topH, okC_func (ok_s ?_)⟩
 walk_at "go"
 refine c_path_ok S3 X1 X2 hns fun h t S4 => ?_
 walk_at "go"
 refine npath_ok S4 hz h0 hp fun h t S5 => ?_
 exact ⟨_, rfl, k _ _ (S5.tail.back S k2)⟩
theorem pc_ign (P : Params) : PlainC (hd.heap_39 P) 121 := ⟨by kernel_rfl, by kernel_rfl, by kernel_rfl, by kernel_rfl, by kernel_rfl⟩
theorem fr_mods (P : Params) : findIn (hd.heap_39 P) (.ref 121) (Str.ofString "_mods") = some none := by kernel_rfl
theorem fr_dirs (P : Params) : findIn (hd.heap_39 P) (.ref 121) (Str.ofString "_dirs") = some none := by kernel_rfl
theorem fr_ignore (P : Params) : findIn (hd.heap_39 P) (.ref 121) (Str.ofString "_ignore") = some none := by kernel_rfl
noncomputable abbrev ignNs (s dl ig : Addr) : AM := [(Str.ofString "_mods", some (.ref s)), (Str.ofString "_dirs", some (.ref dl)), (Str.ofString "_ignore", some (.ref ig))]
theorem gc_igninit {v_self v_modules v_dirs : Value} {av_self av_modules av_dirs : AV} (S : St (c2 w os) g h l) (r_self : av_self.rep v_self) (r_modules : av_modules.rep v_modules) (r_dirs : av_dirs.rep v_dirs)
  (k : ∀ L h', St (c2 w os) g h' ((L, isFr [((Str.ofString "self"), some av_self), ((Str.ofString "modules"), some av_modules), ((Str.ofString "dirs"), some av_dirs)]) :: l) → Ok (c2 w os) n (execs bdigninit (mkEnv fdigninit 111 L [])) (kFn P) h') :
  OkC (c2 w os) (n + 1) (.call (.ref 111) ⟨[v_self, v_modules, v_dirs], []⟩) (fun fl h' => ∃ v, fl = .ret v ∧ P v h') h := by
 refine (okC_call (fd := fdigninit) S (S.topH.k _ _ (fn_igninit _)) rfl rfl rfl (codeRec_of S.topH.k (cd_igninit _)) nd_igninit ?_)
 refine ok_loadRaw (a := 106) (p := none) (o := (((hd.heap_39 P0).lookup 106).getD default)) (by kernel_rfl) (S.topH.k _ _ (show (hd.heap_39 w.params).lookup 106 = _ from by kernel_rfl)) ?_
 have hb : loadK (bindArgs fdigninit ⟨[v_self, v_modules, v_dirs], []⟩) (((hd.heap_39 P0).lookup 106).getD default) = pure [((Str.ofString "self"), v_self), ((Str.ofString "modules"), v_modules), ((Str.ofString "dirs"), v_dirs)] := by kernel_rfl
 rw [hb]
 refine ok_pure ⟨_, S, fun L h S => ?_⟩
 rw [ns_igninit, ce_igninit] at S
 rw [cf_igninit, hb_igninit]
 have S := S.weak .here fun o q => isFr_none q
 refine ok_bind_cons ?_
 refine ok_stM' S fk_igninit (by kernel_rfl) .here .here r_self fun h S => ?_
 refine ok_bind_cons ?_
 refine ok_stM' S fk_igninit (by kernel_rfl) .here (.there .here) r_modules fun h S => ?_
 refine ok_bind_cons ?_
 refine ok_stM' S fk_igninit (by kernel_rfl) .here (.there (.there .here)) r_dirs fun h S => ?_
 exact ok_bind_nil ⟨S.topH, okC_func ((k L _ S).mono fun f h' z => ⟨_, rfl, z⟩)⟩
theorem igninit_ok {x d ml dl : Addr} {mods dirs : List (List Nat)} (S : St (c2 w os) g h ((x, isInst 121 d) :: (d, isFr [(Str.ofString "_mods", none), (Str.ofString "_dirs", none), (Str.ofString "_ignore", none)]) :: l))
  (hm : HO g ml (isL (strsOf mods))) (hd : HO g dl (isL (strsOf dirs))) (hzm : mods.length ≤ 900) (hzd : dirs.length ≤ 100000) (hp : ∀ p ∈ dirs, p ≠ [] ∧ p.head? ≠ some 47 ∧ p.length ≤ 1000)
  (k : ∀ s dl' ig h', St (c2 w os) g h' ((ig, isD (c2 w os) [(str [60, 115, 116, 114, 105, 110, 103, 62], .int 1)]) :: (dl', isL (strsOf (dirs.map npath))) :: (s, isSet (c2 w os) mods) :: (x, isInst 121 d) :: (d, isFr (ignNs s dl' ig)) :: l) → P .none h') :
  OkC (c2 w os) (n + 8) (.call (.ref 111) ⟨[.ref x, .ref ml, .ref dl], []⟩) (fun fl h' => ∃ v, fl = .ret v ∧ P v h') h := by
 refine gc_igninit S rep_ref rep_ref rep_ref fun L h S => ok_s ?_
 walk_at "gs"
 have hmm := S.here hm
 refine Ok.mono (P := fun v h => ∃ s, v = .ref s ∧ St (c2 w os) g h ((s, isSet (c2 w os) mods) :: (L, isFr [(Str.ofString "self", some (.ref x)), (Str.ofString "modules", some (.ref ml)), (Str.ofString "dirs", some (.ref dl))]) :: (x, isInst 121 d) :: (d, isFr [(Str.ofString "_mods", none), (Str.ofString "_dirs", none), (Str.ofString "_ignore", none)]) :: l)) ?_ ?_
 ·refine ok_IfExp ?_
  walk_at "go"
  refine ⟨fun e => ?_, fun e => ?_⟩
  ·have : mods = [] := by cases mods with | nil => rfl | cons a r => simp [strsOf] at e
   subst this
   walk_at "go"
   exact ok_setNew S fun s h S => ⟨_, rfl, S⟩
  ·walk_at "go"
   exact (ok_setOf (n := n + 3) S hm hzm fun s h S => ⟨_, rfl, S⟩)
 rintro v h ⟨s, rfl, S⟩
 walk_at "gs"
 refine Ok.mono (P := fun v h => ∃ dl', v = .ref dl' ∧ St (c2 w os) g h ((dl', isL (strsOf (dirs.map npath))) :: (s, isSet (c2 w os) mods) :: (L, isFr [(Str.ofString "self", some (.ref x)), (Str.ofString "modules", some (.ref ml)), (Str.ofString "dirs", some (.ref dl))]) :: (x, isInst 121 d) :: (d, isFr [(Str.ofString "_mods", some (.ref s)), (Str.ofString "_dirs", none), (Str.ofString "_ignore", none)]) :: l)) ?_ ?_
 ·refine ok_IfExp ?_
  have hdd := S.here hd
  walk_at "go"
  refine ⟨fun e => ?_, fun e => ?_⟩
  ·have : dirs = [] := by cases dirs with | nil => rfl | cons a r => simp [strsOf] at e
   subst this
   walk_at "go"
   exact ⟨_, rfl, (by assumption)⟩
  ·refine ok_map1 (Str.ofString ".0") (Str.ofString "d") (fun u_ => rfl) rfl rfl (by kernel_rfl) (by kernel_rfl) (fun u_ => by kernel_rfl) (by decide) ?_
   walk_at "gs"
   refine ok_iterLA S (S.here hd) fun it h S => ?_
   refine ⟨_, _, _, _, _, _, rfl, srcA_list, by rw [strs_len]; walk_at "lx", S, fun h l' S => S.here hd, mapT npath, ?_, ?_⟩
   ·rintro i C D ys o h av v hi rv S
    obtain ⟨p, hpi, rfl⟩ := strs_get hi
    obtain ⟨t, rfl⟩ := rv
    obtain ⟨h1, h2, h3⟩ := hp p (List.mem_of_getElem? hpi)
    walk_at "go"
    refine (normpath_ok (n := n + 4) S h3 h1 h2 fun h t S => ⟨rep_str, S⟩)
   ·intro D h S
    rw [mapT_strs] at S
    exact ⟨_, rfl, S⟩
 rintro v h ⟨dl', rfl, S⟩
 walk_at "gs"
 refine ok_Dict1 Str S fun ig h S => ?_
 refine ok_pairs_cons ?_
 walk_at "go"
 refine ok_pairs_nil ⟨[(_, .int 1)], _, S, .cons rep_key rep_int .nil, by simp, fun h S => ?_⟩
 walk_at "gs"
 exact k s dl' ig _ (S.del (.i3) (Same.refl _ _))
structure RdS (c : Cx) (g : Heap) (x ig : Addr) (mods dirs : List (List Nat)) : Prop where
 is : ∃ d s dl, HO g x (isInst 121 d) ∧ HO g d (isFr (ignNs s dl ig)) ∧ HO g s (isSet c mods) ∧ HO g dl (isL (strsOf dirs))
theorem RdS.gr {c : Cx} {g g' : Heap} {x ig : Addr} {mods dirs : List (List Nat)} (X : RdS c g x ig mods dirs) (k : Gr g g') : RdS c g' x ig mods dirs :=
 ⟨X.is.imp fun u_ y => y.imp fun u_ z => z.imp fun u_ x => ⟨x.1.gr k, x.2.1.gr k, x.2.2.1.gr k, x.2.2.2.gr k⟩⟩
noncomputable def fileAV : Option (List Nat) → AV
 | none => .none
 | some f => .str f
noncomputable def under (dirs : List (List Nat)) : Option (List Nat) → Bool
 | none => true
 | some f => dirs.any fun d => decide ((d ++ [47]) <+: f)
noncomputable def ansOf (mods dirs : List (List Nat)) (fn : Option (List Nat)) (mn : List Nat) : Bool :=
 decide (mn ∈ mods) || (mods.any fun m => decide ((m ++ [46]) <+: mn)) || under dirs fn
theorem take_all {α : Type} {p : α → Prop} {xs : List α} {i : Nat} {y : α} (h : ∀ z ∈ xs.take i, p z) (hy : xs[i]? = some y) (hp : p y) : ∀ z ∈ xs.take (i + 1), p z := by
 intro z hz
 rw [List.take_add_one, hy] at hz
 rcases List.mem_append.mp hz with hz | hz
 ·exact h z hz
 ·simp at hz; subst hz; exact hp
noncomputable def intB (b : Bool) : Int := if b then 1 else 0
theorem gc_names {v_self v_filename v_modulename : Value} {av_self av_filename av_modulename : AV} (S : St (c2 w os) g h l) (r_self : av_self.rep v_self) (r_filename : av_filename.rep v_filename) (r_modulename : av_modulename.rep v_modulename)
  (k : ∀ L h', St (c2 w os) g h' ((L, isFr [((Str.ofString "self"), some av_self), ((Str.ofString "filename"), some av_filename), ((Str.ofString "modulename"), some av_modulename), ((Str.ofString "mod"), none), ((Str.ofString "d"), none)]) :: l) → Ok (c2 w os) n (execs bdnames (mkEnv fdnames 118 L [])) (kFn P) h') :
  OkC (c2 w os) (n + 1) (.call (.ref 118) ⟨[v_self, v_filename, v_modulename], []⟩) (fun fl h' => ∃ v, fl = .ret v ∧ P v h') h := by
 refine (okC_call (fd := fdnames) S (S.topH.k _ _ (fn_names _)) rfl rfl rfl (codeRec_of S.topH.k (cd_names _)) nd_names ?_)
 have hb : bindArgs fdnames ⟨[v_self, v_filename, v_modulename], []⟩ = pure [((Str.ofString "self"), v_self), ((Str.ofString "filename"), v_filename), ((Str.ofString "modulename"), v_modulename)] := by kernel_rfl
 rw [hb]
 refine ok_pure ⟨_, S, fun L h S => ?_⟩
 rw [ns_names, ce_names] at S
 rw [cf_names, hb_names]
 have S := S.weak .here fun o q => isFr_none q
 refine ok_bind_cons ?_
 refine ok_stM' S fk_names (by kernel_rfl) .here .here r_self fun h S => ?_
 refine ok_bind_cons ?_
 refine ok_stM' S fk_names (by kernel_rfl) .here (.there .here) r_filename fun h S => ?_
 refine ok_bind_cons ?_
 refine ok_stM' S fk_names (by kernel_rfl) .here (.there (.there .here)) r_modulename fun h S => ?_
 exact ok_bind_nil ⟨S.topH, okC_func ((k L _ S).mono fun f h' z => ⟨_, rfl, z⟩)⟩
theorem go_names {v_self v_filename v_modulename : Value} {av_self av_filename av_modulename : AV} (S : St (c2 w os) g h l) (r_self : av_self.rep v_self) (r_filename : av_filename.rep v_filename) (r_modulename : av_modulename.rep v_modulename)
  (k : ∀ L h', St (c2 w os) g h' ((L, isFr [((Str.ofString "self"), some av_self), ((Str.ofString "filename"), some av_filename), ((Str.ofString "modulename"), some av_modulename), ((Str.ofString "mod"), none), ((Str.ofString "d"), none)]) :: l) → Ok (c2 w os) n (execs bdnames (mkEnv fdnames 118 L [])) (kFn P) h') :
  Ok (c2 w os) (n + 1) (call (.ref 118) [v_self, v_filename, v_modulename]) P h := ok_call (gc_names S r_self r_filename r_modulename k)
theorem names_hit {x ig : Addr} {mods dirs : List (List Nat)} {fn : Option (List Nat)} {mn : List Nat} {m : DM Str} {i : Int} {vf : Value} {t : Tok}
  (X : RdS (c2 w os) g x ig mods dirs) (S : St (c2 w os) g h ((ig, isDic (c2 w os) m) :: l)) (rf : (fileAV fn).rep vf) (hm : at? m (str mn) = some (.int i))
  (k : ∀ h' t, St (c2 w os) g h' ((ig, isDic (c2 w os) m) :: l) → P (.int i t) h') : Ok (c2 w os) (n + 1) (call (.ref 118) [.ref x, vf, .str (str mn) t]) P h := by
 obtain ⟨d, s, dl, X1, X2, X3, X4⟩ := X.is
 refine go_names S rep_ref rf rep_str fun L h S => ok_s ?_
 refine ok_x_if ?_
 walk_at "go"
 refine ok_inD (S.get (.i1)) (S.sys (.i1)) rep_key ?_
 rw [hm]
 walk_at "go"
 walk_at "pk"
 walk_at "go"
 refine ok_itemD (S.get (.i1)) rep_key hm ?_
 walk_at "av"
 walk_at "go"
 exact k _ _ (by walk_at "dr")
noncomputable abbrev nmFr (x : Addr) (fn : Option (List Nat)) (mn : List Nat) (o1 o2 : Option AV) : AM := [(Str.ofString "self", some (.ref x)), (Str.ofString "filename", some (fileAV fn)), (Str.ofString "modulename", some (.str mn)), (Str.ofString "mod", o1), (Str.ofString "d", o2)]
theorem names_miss {x ig : Addr} {mods dirs : List (List Nat)} {fn : Option (List Nat)} {mn : List Nat} {m : DM Str} {vf : Value} {t : Tok}
  (X : RdS (c2 w os) g x ig mods dirs) (S : St (c2 w os) g h ((ig, isDic (c2 w os) m) :: l)) (rf : (fileAV fn).rep vf) (hm : at? m (str mn) = none)
  (hz : m.length ≤ 900000) (hzm : mods.length ≤ 900) (hzd : dirs.length ≤ 100000) (hzs : ∀ s ∈ mods, s.length ≤ 1000) (hzs2 : ∀ s ∈ dirs, s.length ≤ 100000)
  (k : ∀ h' t, St (c2 w os) g h' ((ig, isDic (c2 w os) (m ++ [(str mn, .int (intB (ansOf mods dirs fn mn)))])) :: l) → P (.int (intB (ansOf mods dirs fn mn)) t) h') : Ok (c2 w os) (n + 1) (call (.ref 118) [.ref x, vf, .str (str mn) t]) P h := by
 obtain ⟨d, s, dl, X1, X2, X3, X4⟩ := X.is
 have S0 := S
 refine go_names S rep_ref rf rep_str fun L h S => ok_s ?_
 refine ok_x_if ?_
 walk_at "go"
 refine ok_inD (S.get (.i1)) (S.sys (.i1)) rep_key ?_
 rw [hm]
 walk_at "go"
 walk_at "pk"
 walk_at "go"
 have store : ∀ {g' h : Heap} (k' : Gr g g') {o1 o2 : Option AV} (b : Bool) (e : ansOf mods dirs fn mn = b) {v : Value} {t' : Tok} (rv : (AV.int (intB b)).rep v), St (c2 w os) g' h ((L, isFr (nmFr x fn mn o1 o2)) :: (ig, isDic (c2 w os) m) :: l) →
   Ok (c2 w os) n (setItem (.ref ig) (.str (str mn) t') v) (fun u_ h4 => ∀ t, P (.int (intB b) t) h4) h := by
  intro g' h k' o1 o2 b e v t' rv S
  subst e
  refine ok_setItemD S (.i1) rep_key rv (by walk_at "li") fun h S => ?_
  rw [putAt_new hm] at S
  exact fun t => k _ _ (S.tail.back S0 k')
 rename St _ _ _ _ => S
 refine ok_x_ifT S (decide (mn ∈ mods)) ?_ (fun h S e => ?_) (fun h S e => ?_)
 ·walk_at "go"
  refine ok_inSet (S.here X3) ?_
  walk_at "go"
  exact ⟨rfl, S⟩
 ·walk_at "go"
  refine (store (Gr.refl g) true (by rw [ansOf, e]; rfl) rep_int S).mono fun u_ h p => ?_
  walk_at "go"
  exact p _
 have e1 := e
 walk_at "go"
 refine ok_x_for (fun u_ => rfl) ?_
 walk_at "go"
 refine ok_iterSet S X3 fun g1 it h W xs k1 hxs hlen src S => ?_
 have X1 := X1.gr k1
 have X2 := X2.gr k1
 have X4 := X4.gr k1
 have hx2 : ∀ y ∈ xs, y.length ≤ 1000 := fun y hy => hzs y ((hxs y).mp hy)
 refine okC_forS (σ := Option AV) src (fun i u_ => ∀ y ∈ xs.take i, ¬ (y ++ [46]) <+: mn) (fun i oc => (L, isFr (nmFr x fn mn oc none)) :: (ig, isDic (c2 w os) m) :: l) ?_ ?_ ?_ none (by simp) S
 ·intro i oc h W' S
  exact S.keep
 ·intro i T hT oc h av v hi hno rv S
  revert av v
  refine turn_strs fun y t hy => ?_
  have hyl := hx2 y (List.mem_of_getElem? hy)
  refine ok_assign_Name ?_
  walk_at "gs"
  refine ok_x_ifT S (decide ((y ++ [46]) <+: mn)) ?_ (fun h S e => ?_) (fun h S e => ?_)
  ·walk_at "go"
   refine ok_startswith ?_
   walk_at "go"
   exact ⟨rfl, S⟩
  ·have hans : ansOf mods dirs fn mn = true := by
    unfold ansOf
    rw [Bool.or_eq_true, Bool.or_eq_true]
    exact .inl (.inr (List.any_eq_true.mpr ⟨y, (hxs y).mp (List.mem_of_getElem? hy), e⟩))
   have S := S.tail
   walk_at "go"
   refine (store k1 true hans rep_int S).mono fun u_ h p => ?_
   walk_at "go"
   exact hT _ _ (p _)
  ·walk_at "go"
   exact hT _ _ ⟨_, take_all hno hy (of_decide_eq_false e), S⟩
 ·intro oc h hno S
  have hno : (mods.any fun m => decide ((m ++ [46]) <+: mn)) = false := by
   rw [List.any_eq_false]
   intro y hy e
   exact hno y (by rw [strs_len, List.take_of_length_le (Nat.le_refl _)]; exact (hxs y).mpr hy) (of_decide_eq_true e)
  walk_at "go"
  cases fn with
  | none =>
   simp only [nmFr, fileAV] at S
   refine ok_x_if ?_
   walk_at "go"
   refine ok_isP rfl ?_
   walk_at "go"
   walk_at "pk"
   walk_at "go"
   refine (store k1 true (by unfold ansOf under; simp) rep_int S).mono fun u_ h p => ?_
   walk_at "go"
   exact p _
  | some f =>
   obtain ⟨tf, rfl⟩ := rf
   simp only [nmFr, fileAV] at S
   refine ok_x_ifT S false ?_ (fun h S e => by cases e) (fun h S e => ?_)
   ·walk_at "go"
    refine ok_isP rfl ?_
    walk_at "go"
    exact ⟨rfl, S⟩
   walk_at "go"
   refine ok_x_for (fun u_ => rfl) ?_
   walk_at "go"
   refine ok_iterLA S (S.here X4) fun it h S => ?_
   refine okC_forS (σ := Option AV × Option AV) (srcA_list (vs := strsOf dirs)) (fun i u_ => ∀ y ∈ dirs.take i, ¬ (y ++ [47]) <+: f) (fun i o => (L, isFr (nmFr x (some f) mn o.1 o.2)) :: (ig, isDic (c2 w os) m) :: l) ?_ ?_ ?_ (oc, none) (by simp) S
   ·intro i o h W' S
    exact S.here X4
   ·intro i T hT o h av v hi hno2 rv S
    revert av v
    refine turn_strs fun y t hy => ?_
    simp only [nmFr, fileAV] at S
    have hyl := hzs2 y (List.mem_of_getElem? hy)
    refine ok_assign_Name ?_
    walk_at "gs"
    refine ok_x_ifT S (decide ((y ++ [47]) <+: f)) ?_ (fun h S e => ?_) (fun h S e => ?_)
    ·walk_at "go"
     refine ok_startswith ?_
     walk_at "go"
     exact ⟨rfl, S⟩
    ·have hans : ansOf mods dirs (some f) mn = true := by
      unfold ansOf under
      rw [Bool.or_eq_true]
      exact .inr (List.any_eq_true.mpr ⟨y, List.mem_of_getElem? hy, e⟩)
     have S := S.tail
     walk_at "go"
     refine (store k1 true hans rep_int S).mono fun u_ h p => ?_
     walk_at "go"
     exact hT _ _ (p _)
    ·walk_at "go"
     exact hT _ _ ⟨(o.1, some (.str y)), take_all hno2 hy (of_decide_eq_false e), S⟩
   ·intro o h hno2 S
    have hno2 : (dirs.any fun m => decide ((m ++ [47]) <+: f)) = false := by
     rw [List.any_eq_false]
     intro y hy e
     exact hno2 y (by rw [strs_len, List.take_of_length_le (Nat.le_refl _)]; exact hy) (of_decide_eq_true e)
    have hans : ansOf mods dirs (some f) mn = false := by
     have hu : under dirs (some f) = false := hno2
     unfold ansOf
     rw [e1, hno, hu]; rfl
    walk_at "go"
    refine (store k1 false hans rep_int S).mono fun u_ h p => ?_
    walk_at "go"
    exact p _
noncomputable def bodyOf (fd : FuncData) : List Stmt := match fd.body with | .stmts b => b | .expr _ => []
noncomputable def lamD {α : Type} (d : α) (k : Arguments → PySem.Expr → Scope → Pos → α) (e : PySem.Expr) : α := if h : e.ctorIdx = 4 then PySem.Expr.Lambda.elim (motive_1 := fun u_ => α) e h k else d
noncomputable def nestedDef (b : List Stmt) (i : Nat) : Arguments × List Stmt × Scope := funD (⟨[], [], none, [], [], none, []⟩, [], ⟨.function, [], false, false, []⟩) (fun a b c u_ => (a, b, c)) (nthOf b i)
theorem pc_lex (P : Params) : PlainC (hd.heap_39 P) 59 := ⟨by kernel_rfl, by kernel_rfl, by kernel_rfl, by kernel_rfl, by kernel_rfl⟩
noncomputable def fdLexer : FuncData := fdAt (hd.heap_39 P0) 132
noncomputable def rdDef := nestedDef (bodyOf fdLexer) 1
noncomputable def fdRd (k : Addr) (doc pm : Value) (cv : Addr) (ctv : Value) : FuncData :=
 fnX (Str.ofString "_law_read") (Str.ofString "_law_lexer.<locals>._law_read") rdDef.1 rdDef.2.1 rdDef.2.2 [(Str.ofString "signs", k)] .none .none doc pm none (.ref cv) ctv
noncomputable def chr (k : Nat) : Str := ⟨#[k]⟩
inductive Signs : List Value → List Nat → Prop
 | nil : Signs [] []
 | cons {t : Tok} {k : Nat} {vs : List Value} {ks : List Nat} : Signs vs ks → Signs (.str (chr k) t :: vs) (k :: ks)
theorem chr_beq (x y : Nat) : (chr x == chr y) = decide (x = y) := by
 by_cases e : x = y
 ·subst e; simp
 ·rw [decide_eq_false e]
  refine beq_eq_false_iff_ne.mpr fun q => e ?_
  have := congrArg (fun s => s.cps.toList) q
  simpa [chr] using this
theorem s_nl : Str.ofString "\n" = chr 10 := by kernel_rfl
theorem Signs.len {vs : List Value} {ks : List Nat} (s : Signs vs ks) : vs.length = ks.length := by
 induction s with
 | nil => rfl
 | cons _ ih => simp [ih]
theorem ond_rd (k : Addr) (doc pm : Value) (cv : Addr) (ctv : Value) : ((localsOf (fdRd k doc pm cv ctv).scope).map (·.1)).Nodup := by
 have : localsOf (fdRd k doc pm cv ctv).scope = [(Str.ofString "size", none)] := by kernel_rfl
 rw [this]; simp
theorem read_ok {rd k q cv : Addr} {doc pm ctv : Value} {vs : List Value} {ks : List Nat} {t : Tok} {P : VP}
  (S : St (c2 w os) g h ((q, isList vs) :: l)) (hf : ∃ o, g.get? rd = some o ∧ isFn (fdRd k doc pm cv ctv) none o) (hk : ∃ o, g.get? k = some o ∧ isCell (some (.ref q)) o) (hc : ∃ o, g.get? cv = some o ∧ isCode (fdRd k doc pm cv ctv).qualname o)
  (sg : Signs vs ks) (hz : ks.length ≤ 1000000)
  (p0 : ks = [] → ∀ h' t, St (c2 w os) g h' ((q, isList vs) :: l) → P (.str (Str.ofString "") t) h')
  (p1 : ∀ x r rs t, ks = x :: rs → Signs r rs → ∀ h', St (c2 w os) g h' ((q, isList r) :: l) → P (.str (chr x) t) h') :
  Ok (c2 w os) (n + 2) (call (.ref rd) [.int 1 t]) P h := by
 obtain ⟨of, hof, sl, rfl⟩ := hf
 refine ok_call (okC_call (fd := fdRd k doc pm cv ctv) S (S.keep _ _ hof) rfl (by kernel_rfl) (by kernel_rfl) (codeRec_isCode (S.here hc)) (ond_rd ..) ?_)
 have hb : bindArgs (fdRd k doc pm cv ctv) ⟨[.int 1 t], []⟩ = pure [(Str.ofString "size", .int 1 t)] := by kernel_rfl
 rw [hb]
 refine ok_pure ⟨_, S, fun L h S => ?_⟩
 rw [show localsOf (fdRd k doc pm cv ctv).scope = [(Str.ofString "size", none)] from by kernel_rfl, show ∀ l, cellLed (L + 1) (fdRd k doc pm cv ctv).scope.names l = l from fun l => by kernel_rfl] at S
 rw [show cellsFrom (L + 1) (fdRd k doc pm cv ctv).scope.names (fdRd k doc pm cv ctv).closure = [(Str.ofString "signs", k)] from by kernel_rfl]
 refine ok_bind_cons ?_
 walk_at "ost"
 rename Heap => h
 rename St _ _ _ _ => S
 refine ok_bind_nil ⟨S.topH, ?_⟩
 refine okC_func (ok_s ?_)
 walk_at "ogo"
 refine ⟨fun u_ => ?_, fun e => by cases e⟩
 walk_at "ogo"
 refine ok_newList (by assumption) (by simp) fun e h S => ?_
 refine ok_ne_nil S (.i2) .here ?_
 walk_at "ogo"
 cases sg with
 | nil =>
  refine ⟨fun e => (by cases e), fun u_ => ⟨fun e => (by cases e), fun u_ => ?_⟩⟩
  walk_at "ogo"
  exact ⟨_, rfl, p0 rfl _ _ S.tail.tail⟩
 | cons sg =>
  refine ⟨fun u_ => ?_, fun e => by cases e⟩
  walk_at "ogo"
  refine ⟨fun u_ => ?_, fun e => by cases e⟩
  walk_at "ogo"
  intro pl
  refine ok_getMethod_list S (.i2) F.slot_list_pop F.type_list_pop ?_
  walk_at "ogo"
  refine ⟨kept_builtin, ok_pop0 S (.i2) (by have := sg.len; simp at hz; lia) fun h S => ?_⟩
  exact ⟨_, rfl, p1 _ _ _ _ rfl sg _ S.tail.tail⟩
structure LexS (g : Heap) (a d st q : Addr) : Prop where
 obj : g.get? a = some (instObj 59 d)
 str : ∃ fdS ds rd k doc pm cv ctv, (∃ o, g.get? st = some o ∧ isFn fdS (some ds) o) ∧ (∃ o, g.get? ds = some o ∧ isNs [(Str.ofString "read", some (.ref rd))] o) ∧
  (∃ o, g.get? rd = some o ∧ isFn (fdRd k doc pm cv ctv) none o) ∧ (∃ o, g.get? k = some o ∧ isCell (some (.ref q)) o) ∧ (∃ o, g.get? cv = some o ∧ isCode (fdRd k doc pm cv ctv).qualname o)
noncomputable def lexNs (ln : Int) (t1 : Tok) (st p : Addr) (t2 : Tok) : List (Str × Option Value) :=
 [(Str.ofString "lineno", some (.int ln t1)), (Str.ofString "instream", some (.ref st)), (Str.ofString "whitespace", some (.str (Str.ofString "\n\t\r ") t2)), (Str.ofString "pushback", some (.ref p))]
noncomputable def fdChar : FuncData := fdAt (hd.heap_39 P0) 42
theorem ofn_char (P : Params) : (hd.heap_39 P).lookup 42 = some { cls := .type "function", dict := none, data := .func fdChar, slots := #[] } := by kernel_rfl
theorem ocd_char (P : Params) : codeIn (hd.heap_39 P) fdChar.code fdChar.qualname = true := by kernel_rfl
theorem ons_char : localsOf fdChar.scope = [(Str.ofString "self", none), (Str.ofString "ch", none)] := by kernel_rfl
theorem ond_char : ((localsOf fdChar.scope).map (·.1)).Nodup := by decide +kernel
theorem fr_ins (P : Params) : findIn (hd.heap_39 P) (.ref 59) (Str.ofString "instream") = some none := by kernel_rfl
theorem fr_lin (P : Params) : findIn (hd.heap_39 P) (.ref 59) (Str.ofString "lineno") = some none := by kernel_rfl
theorem tk_lin (P : Params) : takerIn (hd.heap_39 P) 59 (Str.ofString "lineno") = some none := by kernel_rfl
theorem char_ok {a d st p q : Addr} {ln : Int} {t1 t2 : Tok} {vs : List Value} {ks : List Nat} {P : VP}
  (S : St (c2 w os) g h ((d, isNs (lexNs ln t1 st p t2)) :: (q, isList vs) :: l)) (X : LexS g a d st q) (sg : Signs vs ks) (hz : ks.length ≤ 1000000)
  (p0 : ks = [] → ∀ h' t, St (c2 w os) g h' ((d, isNs (lexNs ln t1 st p t2)) :: (q, isList vs) :: l) → P (.str (Str.ofString "") t) h')
  (p1 : ∀ x r rs t t1', ks = x :: rs → Signs r rs → ∀ h', St (c2 w os) g h' ((d, isNs (lexNs (ln + if x = 10 then 1 else 0) t1' st p t2)) :: (q, isList r) :: l) → P (.str (chr x) t) h') :
  OkC (c2 w os) (n + 4) (.call (.ref 42) ⟨[.ref a], []⟩) (fun fl h' => ∃ v, fl = .ret v ∧ P v h') h := by
 obtain ⟨ho, fdS, ds, rd, k, doc, pm, cv, ctv, x1, x2, x3, x4, x5⟩ := X
 refine (okC_call (fd := fdChar) S (S.topH.k _ _ (ofn_char _)) rfl rfl rfl (codeRec_of S.topH.k (ocd_char _)) ond_char ?_)
 have hb : bindArgs fdChar ⟨[.ref a], []⟩ = pure [(Str.ofString "self", .ref a)] := by kernel_rfl
 rw [hb]
 refine ok_pure ⟨_, S, fun L h S => ?_⟩
 rw [ons_char, show ∀ l, cellLed (L + 1) fdChar.scope.names l = l from fun l => by kernel_rfl] at S
 rw [show cellsFrom (L + 1) fdChar.scope.names fdChar.closure = [] from by kernel_rfl]
 refine ok_bind_cons ?_
 walk_at "ost"
 rename Heap => h
 rename St _ _ _ _ => S
 refine ok_bind_nil ⟨S.topH, ?_⟩
 refine okC_func (ok_s ?_)
 walk_at "ogo"
 refine ok_getAttr S (pc_lex _) (fr_ins _) (S.keep _ _ ho) (.i1) (.i1) rfl ?_
 intro pl
 refine ok_fnGetMethod S (S.here x1) (S.here x2) .here fread rfl ?_
 walk_at "ogo"
 refine ⟨kept_isFn (S.here x3), ?_⟩
 refine read_ok S.f3 x3 x4 x5 sg hz (fun e h t S => ?_) (fun x r rs t e sg' h S => ?_)
 ·have S := S.b3
  walk_at "ogo"
  refine ⟨fun e => (by cases e), fun u_ => ?_⟩
  walk_at "ogo"
  exact ⟨_, rfl, p0 e _ _ (St.tail (by assumption))⟩
 ·have S := S.b3
  walk_at "ogo"
  rename St _ _ _ _ => S
  refine iteB (by rw [s_nl, chr_beq]) (fun e1 => ?_) (fun e1 => ?_)
  ·walk_at "ogo"
   refine ok_getAttr S (pc_lex _) (fr_lin _) (S.keep _ _ ho) (.i1) .here rfl ?_
   walk_at "ogo"
   refine ok_iadd_int fun t1' => ?_
   refine ok_setAttr S (pc_lex _) (tk_lin _) (S.keep _ _ ho) (.i1) .here (by show 4 ≤ 1000; lia) fun h S => ?_
   walk_at "ogo"
   have hx : x = 10 := of_decide_eq_true e1
   refine ⟨_, rfl, p1 x r rs t t1' e sg' _ ?_⟩
   rw [if_pos hx]
   exact S.tail
  ·walk_at "ogo"
   have hx : x ≠ 10 := of_decide_eq_false e1
   refine ⟨_, rfl, p1 x r rs t t1 e sg' _ ?_⟩
   rw [if_neg hx, Int.add_zero]
   exact S.tail
noncomputable def white (k : Nat) : Bool := k == 10 || k == 9 || k == 13 || k == 32
noncomputable def inQ : List Nat → List Nat → List Nat × List Nat
 | [], acc => (acc, [])
 | [k], acc => if k = 34 then (acc, []) else if k = 92 then (acc, []) else (acc ++ [k], [])
 | k :: k' :: r, acc => if k = 34 then (acc, k' :: r) else if k = 92 then inQ r (acc ++ [k']) else inQ (k' :: r) (acc ++ [k])
noncomputable def inB : List Nat → List Nat → List Nat × List Nat
 | [], acc => (acc, [])
 | [k], acc => if white k then (acc, []) else if k = 92 then (acc, []) else (acc ++ [k], [])
 | k :: k' :: r, acc => if white k then (acc, k' :: r) else if k = 92 then inB r (acc ++ [k']) else inB (k' :: r) (acc ++ [k])
noncomputable def token : List Nat → List Nat × List Nat
 | [] => ([], [])
 | k :: r => if white k then token r else if k = 34 then inQ r [] else if k = 92 then (match r with | [] => ([], []) | k' :: r' => inB r' [k']) else inB r [k]
theorem inQ_end (r acc : List Nat) : inQ (34 :: r) acc = (acc, r) := by cases r with | nil => rfl | cons j r => rfl
theorem inQ_bs0 (acc : List Nat) : inQ [92] acc = (acc, []) := rfl
theorem inQ_bs (k : Nat) (r acc : List Nat) : inQ (92 :: k :: r) acc = inQ r (acc ++ [k]) := rfl
theorem inQ_go {k : Nat} (h1 : k ≠ 34) (h2 : k ≠ 92) (r acc : List Nat) : inQ (k :: r) acc = inQ r (acc ++ [k]) := by
 cases r with | nil => exact (if_neg h1).trans (if_neg h2) | cons j r => exact (if_neg h1).trans (if_neg h2)
theorem inB_end {k : Nat} (h : white k = true) (r acc : List Nat) : inB (k :: r) acc = (acc, r) := by cases r with | nil => exact if_pos h | cons j r => exact if_pos h
theorem inB_bs0 (acc : List Nat) : inB [92] acc = (acc, []) := rfl
theorem inB_bs (k : Nat) (r acc : List Nat) : inB (92 :: k :: r) acc = inB r (acc ++ [k]) := rfl
theorem inB_go {k : Nat} (h1 : white k = false) (h2 : k ≠ 92) (r acc : List Nat) : inB (k :: r) acc = inB r (acc ++ [k]) := by
 have h0 : ¬ white k = true := by rw [h1]; exact Bool.false_ne_true
 cases r with | nil => exact (if_neg h0).trans (if_neg h2) | cons j r => exact (if_neg h0).trans (if_neg h2)
theorem token_cons (k : Nat) (r : List Nat) : token (k :: r) = if white k then token r else if k = 34 then inQ r [] else if k = 92 then (match r with | [] => ([], []) | k' :: r' => inB r' [k']) else inB r [k] := by
 cases r <;> rfl
theorem str_snoc (ks : List Nat) (k : Nat) : str ks ++ chr k = str (ks ++ [k]) := by
 show (⟨ks.toArray ++ #[k]⟩ : Str) = _
 simp [str]
theorem s_one (k : Nat) : chr k = str [k] := rfl
theorem str_nil (ks : List Nat) : str ks ++ Str.ofString "" = str ks := by
 have : Str.ofString "" = ⟨#[]⟩ := by kernel_rfl
 rw [this]
 show (⟨ks.toArray ++ #[]⟩ : Str) = _
 simp [str]
theorem s_empty : Str.ofString "" = str [] := by kernel_rfl
theorem ne_empty (k : Nat) : chr k ≠ Str.ofString "" := by
 rw [s_empty]; intro e
 have := congrArg (fun s => s.cps.size) e
 simp [chr, str] at this
theorem in_one (x : Str) (k : Nat) : Txt.contains x (chr k) = decide (k ∈ x.cps.toList) := StrLaws.found_one x k
theorem white_contains (k : Nat) : Txt.contains (Str.ofString "\n\t\r ") (chr k) = white k := by
 rw [in_one, show (Str.ofString "\n\t\r ").cps.toList = [10, 9, 13, 32] from by kernel_rfl]
 simp only [List.mem_cons, List.not_mem_nil, or_false, white]
 rw [Bool.eq_iff_iff]
 simp [or_assoc]
theorem s_dq : Str.ofString "\"" = chr 34 := by kernel_rfl
theorem s_bs : Str.ofString "\\" = chr 92 := by kernel_rfl
noncomputable def fdTok : FuncData := fdAt (hd.heap_39 P0) 49
theorem ofn_tok (P : Params) : (hd.heap_39 P).lookup 49 = some { cls := .type "function", dict := none, data := .func fdTok, slots := #[] } := by kernel_rfl
theorem ocd_tok (P : Params) : codeIn (hd.heap_39 P) fdTok.code fdTok.qualname = true := by kernel_rfl
theorem ons_tok : localsOf fdTok.scope = [(Str.ofString "self", none), (Str.ofString "token", none), (Str.ofString "fiter", none), (Str.ofString "ch", none)] := by kernel_rfl
theorem ond_tok : ((localsOf fdTok.scope).map (·.1)).Nodup := by decide +kernel
theorem fr_pb (P : Params) : findIn (hd.heap_39 P) (.ref 59) (Str.ofString "pushback") = some none := by kernel_rfl
theorem fr_ws (P : Params) : findIn (hd.heap_39 P) (.ref 59) (Str.ofString "whitespace") = some none := by kernel_rfl
theorem me_char (P : Params) : findIn (hd.heap_39 P) (.ref 59) (Str.ofString "_read_char") = some (some (.ref 42)) := by kernel_rfl
theorem ty_char (P : Params) : typeIn (hd.heap_39 P) (.ref 42) = some (.type "function") := by kernel_rfl
theorem ge_char (P : Params) : specialIn (hd.heap_39 P) (.ref 42) "__get__" = some (some (.builtin "function.__get__")) := by kernel_rfl
theorem ta_char (P : Params) : takesIn (hd.heap_39 P) (.ref 42) = some false := by kernel_rfl
theorem gl_iter (P : Params) : nsIn (hd.heap_39 P) mainGlobals (Str.ofString "iter") = some none := by kernel_rfl
theorem bt_iter : bootBuiltins (Str.ofString "iter") = some (.builtin "iter") := by kernel_rfl
noncomputable abbrev tkNs (a ia : Addr) (acc : List Nat) (tk : Tok) (ch : Option Value) : List (Str × Option Value) :=
 [(Str.ofString "self", some (.ref a)), (Str.ofString "token", some (.str (str acc) tk)), (Str.ofString "fiter", some (.ref ia)), (Str.ofString "ch", ch)]
noncomputable def cn (ks : List Nat) : Int := ks.count 10
theorem cn_cons (k : Nat) (ks : List Nat) : cn (k :: ks) = cn ks + if k = 10 then 1 else 0 := by
 unfold cn
 rw [List.count_cons]
 by_cases e : k = 10 <;> simp [e]
noncomputable abbrev tkLed (a d q p L ia b st : Addr) (ci : Obj → Prop) (ln : Int) (t1 t2 : Tok) (vs : List Value) (acc : List Nat) (tk : Tok) (ch : Option Value) (l : Led) : Led :=
 (d, isNs (lexNs ln t1 st p t2)) :: (q, isList vs) :: (p, isList []) :: (L, isNs (tkNs a ia acc tk ch)) :: (ia, ci) :: (b, isMeth 42 a) :: l
theorem next_ok {a d q p L ia b st : Addr} {ln : Int} {t1 t2 tk : Tok} {vs : List Value} {ks acc : List Nat} {ch : Option Value} {P : Option Value → Heap → Prop}
  (X : LexS g a d st q) (S : St (c2 w os) g h (tkLed a d q p L ia b st (isCI b (Str.ofString "")) ln t1 t2 vs acc tk ch l)) (sg : Signs vs ks) (hz : ks.length ≤ 1000000)
  (p0 : ks = [] → ∀ h', St (c2 w os) g h' (tkLed a d q p L ia b st isCIe ln t1 t2 vs acc tk ch l) → P none h')
  (p1 : ∀ x r rs t t1', ks = x :: rs → Signs r rs → ∀ h', St (c2 w os) g h' (tkLed a d q p L ia b st (isCI b (Str.ofString "")) (ln + if x = 10 then 1 else 0) t1' t2 r acc tk ch l) → P (some (.str (chr x) t)) h') :
  Ok (c2 w os) (n + 5) (pyNext (.ref ia)) P h := by
 refine ok_next_ci (n := n + 4) S (.i4) (.i5) (S.top.k _ _ (ofn_char _)) rfl ?_
 refine (char_ok (P := fun v h₁ => ∃ r t l₁ l₂, v = .str r t ∧ St (c2 w os) g h₁ l₁ ∧ Up l₁ ia (isCI b (Str.ofString "")) isCIe l₂ ∧ At l₁ b (isMeth 42 a) ∧ (r ≠ Str.ofString "" → P (some (.str r t)) h₁) ∧ (r = Str.ofString "" → ∀ h₂, St (c2 w os) g h₂ l₂ → P none h₂)) S X sg hz (fun e h t S => ?_) (fun x r rs t t1' e sg' h S => ?_)).mono fun fl h' z => ?_
 ·exact ⟨_, _, _, _, rfl, S, .i4, .i5, fun q => absurd rfl q, fun u_ h₂ S₂ => p0 e _ S₂⟩
 ·exact ⟨_, _, _, _, rfl, S, .i4, .i5, fun u_ => p1 _ _ _ _ _ e sg' _ S, fun q => absurd q (ne_empty x)⟩
 ·obtain ⟨v, rfl, r, t, l₁, l₂, rfl, z⟩ := z
  exact ⟨r, t, l₁, l₂, rfl, z⟩
theorem readCh_ok {a d q p L ia b st : Addr} {ln : Int} {t1 t2 tk : Tok} {vs : List Value} {ks acc : List Nat} {ch : Option Value} {ci : Obj → Prop}
  (X : LexS g a d st q) (S : St (c2 w os) g h (tkLed a d q p L ia b st ci ln t1 t2 vs acc tk ch l)) (sg : Signs vs ks) (hz : ks.length ≤ 1000000)
  (p0 : ks = [] → ∀ h' t, St (c2 w os) g h' (tkLed a d q p L ia b st ci ln t1 t2 vs acc tk ch l) → P (.str (Str.ofString "") t) h')
  (p1 : ∀ x r rs t t1', ks = x :: rs → Signs r rs → ∀ h', St (c2 w os) g h' (tkLed a d q p L ia b st ci (ln + if x = 10 then 1 else 0) t1' t2 r acc tk ch l) → P (.str (chr x) t) h') :
  Ok (c2 w os) (n + 5) (call (.ref 42) [.ref a]) P h :=
 ok_call ((char_ok (n := n) S X sg hz p0 p1).room (by lia))
inductive TkQ (w : World) (os : OsState) (g : Heap) (a d q p L ia b st : Addr) (t2 : Tok) (l : Led) (f : List Nat → List Nat → List Nat × List Nat) (N : Int) (R : List Nat × List Nat) (m : Nat) (h : Heap) : Prop
 | mk (ks2 : List Nat) (vs2 : List Value) (ln2 : Int) (t12 : Tok) (ch2 : Option Value) (tk2 : Tok) (acc : List Nat) (e : m = ks2.length) (hz : acc.length + ks2.length ≤ 1000000) (sg : Signs vs2 ks2) (hN : ln2 + cn ks2 = N) (hR : f ks2 acc = R)
   (S : St (c2 w os) g h (tkLed a d q p L ia b st (isCI b (Str.ofString "")) ln2 t12 t2 vs2 acc tk2 ch2 l)) : TkQ w os g a d q p L ia b st t2 l f N R m h
inductive TkA (w : World) (os : OsState) (g : Heap) (a d q p L ia b st : Addr) (t2 : Tok) (l : Led) (N : Int) (R : List Nat × List Nat) (m : Nat) (h : Heap) : Prop
 | inl (ks' : List Nat) (vs' : List Value) (ln' : Int) (t1' : Tok) (ch : Option Value) (tk : Tok) (e : m = ks'.length + 1) (hz : ks'.length ≤ 1000000) (sg : Signs vs' ks') (hN : ln' + cn ks' = N) (hR : token ks' = R)
   (S : St (c2 w os) g h (tkLed a d q p L ia b st (isCI b (Str.ofString "")) ln' t1' t2 vs' [] tk ch l)) : TkA w os g a d q p L ia b st t2 l N R m h
 | inr (e : m = 0) (hR2 : R.2 = []) (vs' : List Value) (ln' : Int) (t1' : Tok) (ch : Option Value) (tk : Tok) (sg : Signs vs' []) (hN : ln' = N) (S : St (c2 w os) g h (tkLed a d q p L ia b st isCIe ln' t1' t2 vs' R.1 tk ch l)) : TkA w os g a d q p L ia b st t2 l N R m h
inductive TkM (w : World) (os : OsState) (g : Heap) (a d q p L ia b st : Addr) (t2 : Tok) (l : Led) (N : Int) (R : List Nat × List Nat) (k : Nat) (f : Flow) (h : Heap) : Prop
 | mk (e : f = .next) (ks2 : List Nat) (vs2 : List Value) (ln2 : Int) (t12 tk2 t0 : Tok) (sg0 : List Nat) (sg : Signs vs2 ks2) (hz : sg0.length + ks2.length ≤ 1000000) (hN : ln2 + cn ks2 = N) (hR : inB ks2 sg0 = R) (hl : ks2.length ≤ k)
   (S : St (c2 w os) g h (tkLed a d q p L ia b st (isCI b (Str.ofString "")) ln2 t12 t2 vs2 [] tk2 (some (.str (str sg0) t0)) l)) : TkM w os g a d q p L ia b st t2 l N R k f h
theorem tok_read {a d q p st : Addr} {ln : Int} {t1 t2 : Tok} {vs : List Value} {ks : List Nat} {P : VP}
  (X : LexS g a d st q) (S : St (c2 w os) g h ((d, isNs (lexNs ln t1 st p t2)) :: (q, isList vs) :: (p, isList []) :: l)) (sg : Signs vs ks) (hz : ks.length ≤ 1000000)
  (k : ∀ h' t t1' vs', Signs vs' (token ks).2 → St (c2 w os) g h' ((d, isNs (lexNs (ln + cn ks - cn (token ks).2) t1' st p t2)) :: (q, isList vs') :: (p, isList []) :: l) → P (.str (str (token ks).1) t) h') :
  Ok (c2 w os) (n + 8) (call (.ref 49) [.ref a]) P h := by
 refine ok_call (okC_call (fd := fdTok) S (S.topH.k _ _ (ofn_tok _)) rfl rfl rfl (codeRec_of S.topH.k (ocd_tok _)) ond_tok ?_)
 have hb : bindArgs fdTok ⟨[.ref a], []⟩ = pure [(Str.ofString "self", .ref a)] := by kernel_rfl
 rw [hb]
 refine ok_pure ⟨_, S, fun L h S => ?_⟩
 rw [ons_tok, show ∀ l, cellLed (L + 1) fdTok.scope.names l = l from fun l => by kernel_rfl] at S
 rw [show cellsFrom (L + 1) fdTok.scope.names fdTok.closure = [] from by kernel_rfl]
 have S := S.b4
 refine ok_bind_cons ?_
 walk_at "ost"
 rename St _ _ _ _ => S
 refine ok_bind_nil ⟨S.topH, ?_⟩
 refine okC_func (ok_s ?_)
 walk_at "ogo"
 refine ok_getAttr S (pc_lex _) (fr_pb _) (S.keep _ _ X.obj) .here (.i3) rfl ?_
 refine ok_truthy_list S (.i2) (by simp) ?_
 refine ⟨fun e => (by cases e), fun u_ => ?_⟩
 walk_at "ogo"
 rename St _ _ _ _ => S
 refine ok_Name (by decide) (ok_ldBM S rfl rfl rfl (by kernel_rfl) (gl_iter _) bt_iter (by decide) ?_)
 walk_at "ogo"
 refine ok_getAttr_bound S (pc_lex _) (me_char _) (ty_char _) (ge_char _) (ta_char _) (by decide +kernel) (S.keep _ _ X.obj) .here (by kernel_rfl) fun b h S => ?_
 walk_at "ogo"
 refine ⟨kept_builtin, ok_iter2 S .here fun ia h S => ?_⟩
 have S := S.m24
 walk_at "ogo"
 rename St _ _ _ _ => S
 refine ok_x_for (fun u_ => rfl) ?_
 walk_at "ogo"
 refine ok_iter_ci S (.i4) ?_
 have N : ∃ N, N = ln + cn ks := ⟨_, rfl⟩
 obtain ⟨N, hN⟩ := N
 have R : ∃ R, R = token ks := ⟨_, rfl⟩
 obtain ⟨R, hR⟩ := R
 rw [← hR] at k
 have fin : ∀ {ci : Obj → Prop} {ln' : Int} {t1' tk t : Tok} {vs' : List Value} {acc : List Nat} {ch : Option Value} {h' : Heap}, Signs vs' R.2 → ln' + cn R.2 = N → St (c2 w os) g h' (tkLed a d q p L ia b st ci ln' t1' t2 vs' acc tk ch l) → P (.str (str R.1) t) h' := by
  intro ci ln' t1' tk t vs' acc ch h' sg' hn S
  refine k _ _ t1' _ sg' ?_
  have : ln + cn ks - cn R.2 = ln' := by lia
  rw [this]
  exact S.d3
 refine okC_for (TkA w os g a d q p L ia b st t2 l N R) ?_ (ks.length + 1) (.inl ks vs ln t1 none _ rfl hz sg hN.symm hR.symm (by rw [s_empty] at S; exact S))
 rintro m T hT h (⟨ks', vs', ln', t1', ch, tk, rfl, hz', sg', hN', hR', S⟩ | ⟨rfl, hR2, vs', ln', t1', ch, tk, sg', hN', S⟩)
 ·refine next_ok X S sg' hz' (fun e h S => ?_) (fun x r rs t t1'' e sg'' h S => ?_)
  ·subst e
   have e1 : R = ([], []) := hR'.symm
   walk_at "ogo"
   have q := fin (t := tk) (by rw [e1]; exact sg') (by rw [e1]; exact hN') S
   rw [e1] at q
   exact ⟨_, rfl, q⟩
  ·subst e
   have hN2 : (ln' + if x = 10 then 1 else 0) + cn rs = N := by rw [← hN', cn_cons]; lia
   refine ok_letOwned (ok_assign_Name ?_)
   walk_at "ogo"
   rename St _ _ _ _ => S
   refine ok_getAttr S (pc_lex _) (fr_ws _) (S.keep _ _ X.obj) .here (.i2) rfl ?_
   walk_at "ogo"
   refine iteB (by rw [white_contains]) (fun e1 => ?_) (fun e1 => ?_)
   ·walk_at "ogo"
    refine hT _ _ ⟨rs.length + 1, by simp, .inl rs r _ _ _ _ rfl (by simp at hz'; lia) sg'' hN2 ?_ S⟩
    rw [← hR', token_cons, if_pos e1]
   ·walk_at "ogo"
    refine iteB (by rw [s_dq, chr_beq]) (fun e2 => ?_) (fun e2 => ?_)
    ·walk_at "ogo"
     refine ok_x_for (fun u_ => rfl) ?_
     walk_at "ogo"
     refine ok_iter_ci S (.i4) ?_
     have e2 : x = 34 := of_decide_eq_true e2
     have hR3 : inQ rs [] = R := by rw [← hR', token_cons, if_neg (by rw [e1]; decide), if_pos e2]
     refine okC_for (TkQ w os g a d q p L ia b st t2 l inQ N R) ?_ rs.length
      ⟨rs, r, _, _, _, _, [], rfl, by simp at hz' ⊢; lia, sg'', hN2, hR3, S⟩
     rintro m T2 hT2 h ⟨ks2, vs2, ln2, t12, ch2, tk2, acc, rfl, hz2, sg2, hN3, hR4, S⟩
     refine next_ok X S sg2 (by lia) (fun e h S => ?_) (fun y r2 rs2 t t13 e sg3 h S => ?_)
     ·subst e
      have e3 : R = (acc, []) := hR4.symm
      walk_at "ogo"
      refine hT _ _ ⟨0, by lia, .inr rfl (by rw [e3]) vs2 ln2 t12 ch2 tk2 sg2 (by simpa [cn] using hN3) (by rw [e3]; exact S)⟩
     ·subst e
      have hN4 : (ln2 + if y = 10 then 1 else 0) + cn rs2 = N := by rw [← hN3, cn_cons]; lia
      simp only [List.length_cons] at hz2
      refine ok_letOwned (ok_assign_Name ?_)
      walk_at "ogo"
      rename St _ _ _ _ => S
      refine iteB (by rw [s_dq, chr_beq]) (fun e3 => ?_) (fun e3 => ?_)
      ·walk_at "ogo"
       have e3 : y = 34 := of_decide_eq_true e3
       subst e3
       rw [inQ_end] at hR4
       have q := fin (t := tk2) (by rw [← hR4]; exact sg3) (by rw [← hR4]; exact hN4) S
       rw [← hR4] at q
       exact hT2 _ _ (hT _ _ ⟨_, rfl, q⟩)
      ·have e3 : y ≠ 34 := of_decide_eq_false e3
       walk_at "ogo"
       refine iteB (by rw [s_bs, chr_beq]) (fun e4 => ?_) (fun e4 => ?_)
       ·have e4 : y = 92 := of_decide_eq_true e4
        subst e4
        walk_at "ogo"
        intro pl
        refine ok_getMethod S (pc_lex _) (me_char _) (ty_char _) (S.keep _ _ X.obj) .here (by kernel_rfl) ?_
        walk_at "ogo"
        refine ⟨kept_func (S.topH.k _ _ (ofn_char _)) rfl, ?_⟩
        refine (readCh_ok (n := n) X S sg3 (by lia) (fun e h t S => ?_) (fun z r4 rs4 t t14 e sg4 h S => ?_)).room (by lia)
        ·subst e
         walk_at "ogo"
         refine ok_iadd_str (by rw [str_len, s_empty, str_len]; simp; lia) fun u_ => ?_
         rw [str_nil]
         walk_at "ogo"
         rename St _ _ _ _ => S
         exact hT2 _ _ ⟨0, by simp, [], _, _, _, _, _, acc, rfl, by simp; lia, sg3, hN4, by rw [← hR4, inQ_bs0]; rfl, S⟩
        ·subst e
         simp only [List.length_cons] at hz2
         have hN5 : ((ln2 + if (92 : Nat) = 10 then 1 else 0) + if z = 10 then 1 else 0) + cn rs4 = N := by rw [← hN4, cn_cons]; lia
         walk_at "ogo"
         refine ok_iadd_str (by rw [str_len]; show _ + 1 ≤ _; lia) fun u_ => ?_
         rw [str_snoc]
         walk_at "ogo"
         rename St _ _ _ _ => S
         exact hT2 _ _ ⟨rs4.length, by simp; lia, rs4, _, _, _, _, _, acc ++ [z], rfl, by simp; lia, sg4, hN5, by rw [← hR4, inQ_bs], S⟩
       ·have e4 : y ≠ 92 := of_decide_eq_false e4
        walk_at "ogo"
        refine ok_iadd_str (by rw [str_len]; show _ + 1 ≤ _; lia) fun u_ => ?_
        rw [str_snoc]
        walk_at "ogo"
        rename St _ _ _ _ => S
        exact hT2 _ _ ⟨rs2.length, by simp, rs2, _, _, _, _, _, acc ++ [y], rfl, by simp; lia, sg3, hN4, by rw [← hR4, inQ_go e3 e4], S⟩
    ·have e2 : x ≠ 34 := of_decide_eq_false e2
     have hx := token_cons x rs
     rw [if_neg (by rw [e1]; decide), if_neg e2] at hx
     simp only [List.length_cons] at hz'
     refine ok_s ?_
     refine Ok.mono (P := TkM w os g a d q p L ia b st t2 l N R rs.length) ?_ ?_
     ·refine ok_If ?_
      walk_at "ogo"
      refine iteB (by rw [s_bs, chr_beq]) (fun e3 => ?_) (fun e3 => ?_)
      ·have e3 : x = 92 := of_decide_eq_true e3
       subst e3
       rw [if_pos rfl] at hx
       walk_at "ogo"
       intro pl
       refine ok_getMethod S (pc_lex _) (me_char _) (ty_char _) (S.keep _ _ X.obj) .here (by kernel_rfl) ?_
       walk_at "ogo"
       refine ⟨kept_func (S.topH.k _ _ (ofn_char _)) rfl, ?_⟩
       refine (readCh_ok (n := n) X S sg'' (by lia) (fun e h t S => ?_) (fun z r4 rs4 t t14 e sg4 h S => ?_)).room (by lia)
       ·subst e
        walk_at "ogo"
        rename St _ _ _ _ => S
        rw [s_empty] at S
        exact ⟨rfl, [], _, _, _, _, _, [], sg'', by simp, hN2, by rw [← hR', hx]; rfl, by simp, S⟩
       ·subst e
        simp only [List.length_cons] at hz'
        have hN5 : ((ln' + if (92 : Nat) = 10 then 1 else 0) + if z = 10 then 1 else 0) + cn rs4 = N := by rw [← hN2, cn_cons]; lia
        walk_at "ogo"
        rename St _ _ _ _ => S
        rw [s_one] at S
        exact ⟨rfl, rs4, _, _, _, _, _, [z], sg4, by simp; lia, hN5, by rw [← hR', hx], by simp, S⟩
      ·have e3 : x ≠ 92 := of_decide_eq_false e3
       rw [if_neg e3] at hx
       walk_at "ogo"
       rw [s_one] at S
       exact ⟨rfl, rs, _, _, _, _, _, [x], sg'', by simp; lia, hN2, by rw [← hR', hx], by simp, S⟩
     ·rintro _ h ⟨rfl, ks2, vs2, ln2, t12, tk2, t0, sg0, sg2, hz2, hN3, hR3, hle, S⟩
      walk_at "ogo"
      refine ok_iadd_str (by rw [str_len, str_len]; simp; lia) fun u_ => ?_
      rw [str_app, List.nil_append]
      walk_at "ogo"
      rename St _ _ _ _ => S
      refine ok_x_for (fun u_ => rfl) ?_
      walk_at "ogo"
      refine ok_iter_ci S (.i4) ?_
      refine okC_for (TkQ w os g a d q p L ia b st t2 l inB N R) ?_ ks2.length
       ⟨ks2, vs2, _, _, _, _, sg0, rfl, hz2, sg2, hN3, hR3, S⟩
      clear hz2 sg2 hN3 hR3 hle S
      rintro m T2 hT2 h ⟨ks2, vs2, ln2, t12, ch2, tk2, acc, rfl, hz2, sg2, hN3, hR4, S⟩
      refine next_ok X S sg2 (by lia) (fun e h S => ?_) (fun y r2 rs2 t t13 e sg3 h S => ?_)
      ·subst e
       have e3 : R = (acc, []) := hR4.symm
       walk_at "ogo"
       refine hT _ _ ⟨0, by lia, .inr rfl (by rw [e3]) vs2 ln2 t12 ch2 tk2 sg2 (by simpa [cn] using hN3) (by rw [e3]; exact S)⟩
      ·subst e
       have hN4 : (ln2 + if y = 10 then 1 else 0) + cn rs2 = N := by rw [← hN3, cn_cons]; lia
       simp only [List.length_cons] at hz2
       refine ok_letOwned (ok_assign_Name ?_)
       walk_at "ogo"
       rename St _ _ _ _ => S
       refine ok_getAttr S (pc_lex _) (fr_ws _) (S.keep _ _ X.obj) .here (.i2) rfl ?_
       walk_at "ogo"
       refine iteB (by rw [white_contains]) (fun e3 => ?_) (fun e3 => ?_)
       ·walk_at "ogo"
        rw [inB_end e3] at hR4
        have q := fin (t := tk2) (by rw [← hR4]; exact sg3) (by rw [← hR4]; exact hN4) S
        rw [← hR4] at q
        exact hT2 _ _ (hT _ _ ⟨_, rfl, q⟩)
       ·walk_at "ogo"
        refine iteB (by rw [s_bs, chr_beq]) (fun e4 => ?_) (fun e4 => ?_)
        ·have e4 : y = 92 := of_decide_eq_true e4
         subst e4
         walk_at "ogo"
         intro pl
         refine ok_getMethod S (pc_lex _) (me_char _) (ty_char _) (S.keep _ _ X.obj) .here (by kernel_rfl) ?_
         walk_at "ogo"
         refine ⟨kept_func (S.topH.k _ _ (ofn_char _)) rfl, ?_⟩
         refine (readCh_ok (n := n) X S sg3 (by lia) (fun e h t S => ?_) (fun z r4 rs4 t t14 e sg4 h S => ?_)).room (by lia)
         ·subst e
          walk_at "ogo"
          refine ok_iadd_str (by rw [str_len, s_empty, str_len]; simp; lia) fun u_ => ?_
          rw [str_nil]
          walk_at "ogo"
          rename St _ _ _ _ => S
          exact hT2 _ _ ⟨0, by simp, [], _, _, _, _, _, acc, rfl, by simp; lia, sg3, hN4, by rw [← hR4, inB_bs0]; rfl, S⟩
         ·subst e
          simp only [List.length_cons] at hz2
          have hN5 : ((ln2 + if (92 : Nat) = 10 then 1 else 0) + if z = 10 then 1 else 0) + cn rs4 = N := by rw [← hN4, cn_cons]; lia
          walk_at "ogo"
          refine ok_iadd_str (by rw [str_len]; show _ + 1 ≤ _; lia) fun u_ => ?_
          rw [str_snoc]
          walk_at "ogo"
          rename St _ _ _ _ => S
          exact hT2 _ _ ⟨rs4.length, by simp; lia, rs4, _, _, _, _, _, acc ++ [z], rfl, by simp; lia, sg4, hN5, by rw [← hR4, inB_bs], S⟩
        ·have e4 : y ≠ 92 := of_decide_eq_false e4
         walk_at "ogo"
         refine ok_iadd_str (by rw [str_len]; show _ + 1 ≤ _; lia) fun u_ => ?_
         rw [str_snoc]
         walk_at "ogo"
         rename St _ _ _ _ => S
         exact hT2 _ _ ⟨rs2.length, by simp, rs2, _, _, _, _, _, acc ++ [y], rfl, by simp; lia, sg3, hN4, by rw [← hR4, inB_go e3 e4], S⟩
 ·refine ok_next_cie S (.i4) fun h S => ?_
  walk_at "ogo"
  exact ⟨_, rfl, fin (by rw [hR2]; exact sg') (by rw [hR2]; simpa [cn] using hN') S⟩
theorem tok_pop {a d q p st : Addr} {ln : Int} {t1 t2 : Tok} {v : Value} {pb : List Value} {W : Obj → Prop}
  (X : LexS g a d st q) (S : St (c2 w os) g h ((d, isNs (lexNs ln t1 st p t2)) :: (q, W) :: (p, isList (v :: pb)) :: l)) (hz : pb.length ≤ 100000)
  (k : ∀ h', St (c2 w os) g h' ((d, isNs (lexNs ln t1 st p t2)) :: (q, W) :: (p, isList pb) :: l) → P v h') :
  Ok (c2 w os) (n + 8) (call (.ref 49) [.ref a]) P h := by
 refine ok_call (okC_call (fd := fdTok) S (S.topH.k _ _ (ofn_tok _)) rfl rfl rfl (codeRec_of S.topH.k (ocd_tok _)) ond_tok ?_)
 have hb : bindArgs fdTok ⟨[.ref a], []⟩ = pure [(Str.ofString "self", .ref a)] := by kernel_rfl
 rw [hb]
 refine ok_pure ⟨_, S, fun L h S => ?_⟩
 rw [ons_tok, show ∀ l, cellLed (L + 1) fdTok.scope.names l = l from fun l => by kernel_rfl] at S
 rw [show cellsFrom (L + 1) fdTok.scope.names fdTok.closure = [] from by kernel_rfl]
 refine ok_bind_cons ?_
 walk_at "ost"
 rename St _ _ _ _ => S
 refine ok_bind_nil ⟨S.topH, ?_⟩
 refine okC_func (ok_s ?_)
 walk_at "ogo"
 refine ok_getAttr S (pc_lex _) (fr_pb _) (S.keep _ _ X.obj) (.i1) (.i3) rfl ?_
 refine ok_truthy_list S (.i3) (by simp; lia) ?_
 refine ⟨fun u_ => ?_, fun e => (by cases e)⟩
 walk_at "ogo"
 refine ok_getAttr S (pc_lex _) (fr_pb _) (S.keep _ _ X.obj) (.i1) (.i3) rfl ?_
 intro pl
 refine ok_getMethod_list S (.i3) F.slot_list_pop F.type_list_pop ?_
 walk_at "ogo"
 exact ⟨kept_builtin, ok_pop0 S (.i3) (by lia) fun h S => ⟨_, rfl, k _ S.tail⟩⟩
noncomputable def fdPush : FuncData := fdAt (hd.heap_39 P0) 56
theorem ofn_push (P : Params) : (hd.heap_39 P).lookup 56 = some { cls := .type "function", dict := none, data := .func fdPush, slots := #[] } := by kernel_rfl
theorem ocd_push (P : Params) : codeIn (hd.heap_39 P) fdPush.code fdPush.qualname = true := by kernel_rfl
theorem ond_push : ((localsOf fdPush.scope).map (·.1)).Nodup := by decide +kernel
theorem ons_push : localsOf fdPush.scope = [(Str.ofString "self", none), (Str.ofString "token", none)] := by kernel_rfl
theorem push_ok {a d q p st : Addr} {ln : Int} {t1 t2 : Tok} {v : Value} {pb : List Value} {W : Obj → Prop}
  (X : LexS g a d st q) (S : St (c2 w os) g h ((d, isNs (lexNs ln t1 st p t2)) :: (q, W) :: (p, isList pb) :: l)) (hz : pb.length ≤ 100000)
  (k : ∀ h', St (c2 w os) g h' ((d, isNs (lexNs ln t1 st p t2)) :: (q, W) :: (p, isList (pb ++ [v])) :: l) → P .none h') :
  Ok (c2 w os) (n + 2) (call (.ref 56) [.ref a, v]) P h := by
 refine ok_call (okC_call (fd := fdPush) S (S.topH.k _ _ (ofn_push _)) rfl rfl rfl (codeRec_of S.topH.k (ocd_push _)) ond_push ?_)
 have hb : bindArgs fdPush ⟨[.ref a, v], []⟩ = pure [(Str.ofString "self", .ref a), (Str.ofString "token", v)] := by kernel_rfl
 rw [hb]
 refine ok_pure ⟨_, S, fun L h S => ?_⟩
 rw [ons_push, show ∀ l, cellLed (L + 1) fdPush.scope.names l = l from fun l => by kernel_rfl] at S
 rw [show cellsFrom (L + 1) fdPush.scope.names fdPush.closure = [] from by kernel_rfl]
 refine ok_bind_cons ?_
 walk_at "ost"
 refine ok_bind_cons ?_
 walk_at "ost"
 rename St _ _ _ _ => S
 refine ok_bind_nil ⟨S.topH, ?_⟩
 refine okC_func (ok_s ?_)
 walk_at "ogo"
 refine ok_getAttr S (pc_lex _) (fr_pb _) (S.keep _ _ X.obj) (.i1) (.i3) rfl ?_
 intro pl
 refine ok_getMethod_list S (.i3) F.slot_list_append F.type_list_append ?_
 walk_at "ogo"
 refine ⟨kept_builtin, ok_append S (.i3) (by lia) fun h S => ?_⟩
 walk_at "ogo"
 exact ⟨_, rfl, k _ S.tail⟩
noncomputable abbrev lexFr (ln : Int) (st p : Addr) : AM := [(Str.ofString "lineno", some (.int ln)), (Str.ofString "instream", some (.ref st)), (Str.ofString "whitespace", some (.str [10, 9, 13, 32])), (Str.ofString "pushback", some (.ref p))]
noncomputable abbrev lexLed (d q p st : Addr) (ln : Int) (ks : List Nat) (pb : List (List Nat)) (l : Led) : Led := (d, isFr (lexFr ln st p)) :: (q, isL (signsOf ks)) :: (p, isL (strsOf pb)) :: l
theorem signs_to {ks : List Nat} : ∀ {vs : List Value}, Reps (signsOf ks) vs → Signs vs ks := by
 induction ks with
 | nil => intro vs h; cases h.nil_inv; exact .nil
 | cons k ks ih => intro vs h; obtain ⟨v, r, rfl, ⟨t, rfl⟩, h2⟩ := h.cons_inv; exact .cons (ih h2)
theorem signs_from {ks : List Nat} {vs : List Value} (h : Signs vs ks) : Reps (signsOf ks) vs := by
 induction h with
 | nil => trivial
 | cons _ ih => exact ⟨⟨_, rfl⟩, ih⟩
theorem lexFr_to {ln : Int} {st p : Addr} {m' : List (Str × Option Value)} (h : RepM (lexFr ln st p) m') : ∃ t1 t2, m' = lexNs ln t1 st p t2 := by
 obtain ⟨v1, r1, rfl, ⟨t1, rfl⟩, q1⟩ := h.some_inv
 obtain ⟨v2, r2, rfl, h2, q2⟩ := q1.some_inv
 obtain ⟨v3, r3, rfl, ⟨t3, rfl⟩, q3⟩ := q2.some_inv
 obtain ⟨v4, r4, rfl, h4, q4⟩ := q3.some_inv
 cases q4.nil_inv
 cases h2
 cases h4
 refine ⟨t1, t3, ?_⟩
 unfold lexNs
 rw [show Str.ofString "\n\t\r " = str [10, 9, 13, 32] from by kernel_rfl]
theorem lexFr_from {ln : Int} {st p : Addr} {t1 t2 : Tok} : RepM (lexFr ln st p) (lexNs ln t1 st p t2) :=
 ⟨rfl, ⟨t1, rfl⟩, rfl, rfl, rfl, ⟨t2, by rw [show Str.ofString "\n\t\r " = str [10, 9, 13, 32] from by kernel_rfl]⟩, rfl, rfl, trivial⟩
section
variable {w : World} {os : OsState} {n : Nat} {g h : Heap} {a d q p st : Addr} {ln : Int} {ks : List Nat} {pb : List (List Nat)} {l : Led} {P : VP}
theorem lex_open (S : St (c2 w os) g h (lexLed d q p st ln ks pb l)) : ∃ t1 t2 vs us, Signs vs ks ∧ Reps (strsOf pb) us ∧ St (c2 w os) g h ((d, isNs (lexNs ln t1 st p t2)) :: (q, isList vs) :: (p, isList us) :: l) := by
 obtain ⟨o1, e1, m', r1, q1⟩ := S.get .here
 obtain ⟨o2, e2, vs, r2, q2⟩ := S.get (.i1)
 obtain ⟨o3, e3, us, r3, q3⟩ := S.get (.i2)
 obtain ⟨t1, t2, rfl⟩ := lexFr_to r1
 have S1 := S.upd .here (Heap.SameBut.refl ..) ⟨o1, e1, q1⟩
 have S2 := S1.upd (.i1) (Heap.SameBut.refl ..) ⟨o2, e2, q2⟩
 exact ⟨t1, t2, vs, us, signs_to r2, r3, S2.upd (.i2) (Heap.SameBut.refl ..) ⟨o3, e3, q3⟩⟩
theorem lex_close {t1 t2 : Tok} {vs us : List Value} (S : St (c2 w os) g h ((d, isNs (lexNs ln t1 st p t2)) :: (q, isList vs) :: (p, isList us) :: l)) (hs : Signs vs ks) (hu : Reps (strsOf pb) us) : St (c2 w os) g h (lexLed d q p st ln ks pb l) := by
 have S1 := S.weak .here (P' := isFr (lexFr ln st p)) fun o q => ⟨_, lexFr_from, q⟩
 have S2 := S1.weak (.i1) (P' := isL (signsOf ks)) fun o q => ⟨_, signs_from hs, q⟩
 exact S2.weak (.i2) fun o q => ⟨_, hu, q⟩
theorem tokA_read (X : LexS g a d st q) (S : St (c2 w os) g h (lexLed d q p st ln ks [] l)) (hz : ks.length ≤ 1000000)
  (k : ∀ h' t, St (c2 w os) g h' (lexLed d q p st (ln + cn ks - cn (token ks).2) (token ks).2 [] l) → P (.str (str (token ks).1) t) h') : Ok (c2 w os) (n + 8) (call (.ref 49) [.ref a]) P h := by
 obtain ⟨t1, t2, vs, us, hs, hu, S⟩ := lex_open S
 have : us = [] := by cases us with | nil => rfl | cons u r => exact hu.elim
 subst this
 exact tok_read X S hs hz fun h' t t1' vs' hs' S' => k _ _ (lex_close S' hs' trivial)
theorem tokA_pop {x : List Nat} (X : LexS g a d st q) (S : St (c2 w os) g h (lexLed d q p st ln ks (x :: pb) l)) (hz : pb.length ≤ 100000)
  (k : ∀ h' t, St (c2 w os) g h' (lexLed d q p st ln ks pb l) → P (.str (str x) t) h') : Ok (c2 w os) (n + 8) (call (.ref 49) [.ref a]) P h := by
 obtain ⟨t1, t2, vs, us, hs, hu, S⟩ := lex_open S
 obtain ⟨v, us, rfl, ⟨t, rfl⟩, hu2⟩ := hu.cons_inv
 have hl := hu2.len
 rw [List.length_map] at hl
 exact tok_pop X S (by walk_at "li") fun h' S' => k _ _ (lex_close S' hs hu2)
theorem pushA {x : List Nat} {t : Tok} (X : LexS g a d st q) (S : St (c2 w os) g h (lexLed d q p st ln ks pb l)) (hz : pb.length ≤ 100000)
  (k : ∀ h', St (c2 w os) g h' (lexLed d q p st ln ks (pb ++ [x]) l) → P .none h') : Ok (c2 w os) (n + 2) (call (.ref 56) [.ref a, .str (str x) t]) P h := by
 obtain ⟨t1, t2, vs, us, hs, hu, S⟩ := lex_open S
 have hl := hu.len
 rw [strs_len] at hl
 exact push_ok X S (by walk_at "li") fun h' S' => k _ (lex_close S' hs (by rw [strs_snoc]; exact hu.snoc ⟨t, rfl⟩))
theorem LexS.gr {g' : Heap} (X : LexS g a d st q) (k : Gr g g') : LexS g' a d st q := by
 obtain ⟨x0, fdS, ds, rd, kk, doc, pm, cv, ctv, x1, x2, x3, x4, x5⟩ := X
 exact ⟨k _ _ x0, fdS, ds, rd, kk, doc, pm, cv, ctv, HO.gr x1 k, HO.gr x2 k, HO.gr x3 k, HO.gr x4 k, HO.gr x5 k⟩
end
section
variable {c : Cx} {n : Nat} {g h : Heap} {l : Led} {ks : List Nat} {t : Tok} {P : VP}
theorem reps_items (ks : List Nat) : ∀ (l : List Value), l.length = ks.length → (∀ (i : Nat) v, l[i]? = some v → ∃ c u, ks[i]? = some c ∧ v = .str ⟨#[c]⟩ u) → Reps (signsOf ks) l := by
 induction ks with
 | nil => intro l h hi; cases List.length_eq_zero_iff.mp h; trivial
 | cons k ks ih =>
  intro l h hi
  obtain ⟨v, l2, rfl, h2⟩ := len_succ h
  obtain ⟨c, u, e1, rfl⟩ := hi 0 v rfl
  cases e1
  exact ⟨⟨u, rfl⟩, ih l2 h2 fun i v e => hi (i + 1) v e⟩
theorem ok_list_str (S : St c g h l) (hz : ks.length ≤ 1000000) (p : ∀ a h', St c g h' ((a, isL (signsOf ks)) :: l) → P (.ref a) h') : Ok c n (call (.type "list") [.str (str ks) t]) P h := by
 intro A d tk r
 refine call_list_str r.hand (str ks) t (fun h' tk' acc' c' hk hS hi => ⟨rfl, rfl, ?_⟩) (by rw [sizeLine_eq]; simp [str]; walk_at "lx")
 have S' : St c g h' l := S.same0 fun b o u_ e => hk b o e
 refine p _ _ (S'.add S rfl hS (W := isL (signsOf ks)) ⟨acc'.toList, ?_, c', rfl⟩ (Nat.le_refl _))
 refine reps_items ks _ ?_ fun i v e => ?_
 ·rw [Array.length_toList, hi.1]; simp [str]
 ·obtain ⟨c, u, e1, e2⟩ := hi.2 i v (by simpa using e)
  exact ⟨c, u, by simpa [str] using e1, e2⟩
end
theorem St.front {c : Cx} {l l' : Led} {a : Addr} {W : Obj → Prop} (S : St c g h l) (D : Del l a W l') : St c g h ((a, W) :: l') := S.perm D.perm
theorem gc_lexinit {v_self v_fp : Value} {av_self av_fp : AV} (S : St (c2 w os) g h l) (r_self : av_self.rep v_self) (r_fp : av_fp.rep v_fp)
  (k : ∀ L h', St (c2 w os) g h' ((L, isFr [((Str.ofString "self"), some av_self), ((Str.ofString "fp"), some av_fp)]) :: l) → Ok (c2 w os) n (execs bdlexinit (mkEnv fdlexinit 35 L [])) (kFn P) h') :
  OkC (c2 w os) (n + 1) (.call (.ref 35) ⟨[v_self, v_fp], []⟩) (fun fl h' => ∃ v, fl = .ret v ∧ P v h') h := by
 refine (okC_call (fd := fdlexinit) S (S.topH.k _ _ (fn_lexinit _)) rfl rfl rfl (codeRec_of S.topH.k (cd_lexinit _)) nd_lexinit ?_)
 have hb : bindArgs fdlexinit ⟨[v_self, v_fp], []⟩ = pure [((Str.ofString "self"), v_self), ((Str.ofString "fp"), v_fp)] := by kernel_rfl
 rw [hb]
 refine ok_pure ⟨_, S, fun L h S => ?_⟩
 rw [ns_lexinit, ce_lexinit] at S
 rw [cf_lexinit, hb_lexinit]
 have S := S.weak .here fun o q => isFr_none q
 refine ok_bind_cons ?_
 refine ok_stM' S fk_lexinit (by kernel_rfl) .here .here r_self fun h S => ?_
 refine ok_bind_cons ?_
 refine ok_stM' S fk_lexinit (by kernel_rfl) .here (.there .here) r_fp fun h S => ?_
 exact ok_bind_nil ⟨S.topH, okC_func ((k L _ S).mono fun f h' z => ⟨_, rfl, z⟩)⟩
theorem lexinit_ok {x d st : Addr} (S : St (c2 w os) g h ((x, isInst 59 d) :: (d, isFr [(Str.ofString "lineno", none), (Str.ofString "instream", none), (Str.ofString "whitespace", none), (Str.ofString "pushback", none)]) :: l))
  (k : ∀ p h', St (c2 w os) g h' ((p, isL []) :: (x, isInst 59 d) :: (d, isFr (lexFr 1 st p)) :: l) → P .none h') : OkC (c2 w os) (n + 3) (.call (.ref 35) ⟨[.ref x, .ref st], []⟩) (fun fl h' => ∃ v, fl = .ret v ∧ P v h') h := by
 refine gc_lexinit S rep_ref rep_ref fun L h S => ok_s ?_
 walk_at "gs"
 exact k _ _ (S.del (.i1) (Same.refl _ _))
theorem ch_lexer (P : Params) : codeHdIn (hd.heap_39 P) 131 127 = true := by kernel_rfl
theorem cl_netrc (P : Params) : (hd.heap_39 P).lookup 59 = some ((hd.heap_39 P0).lookup 59 |>.getD default) := by kernel_rfl
noncomputable def posOf (s : Stmt) : Pos := funD (if h : s.ctorIdx = 5 then Stmt.Assign.elim (motive_2 := fun u_ => Pos) s h fun u_ e u_ => lamD default (fun u_ u_ u_ p => p) e else default) (fun u_ u_ u_ p => p) s
noncomputable def rdPos : Pos := posOf (nthOf bdlexer 1)
noncomputable def stPos : Pos := posOf (nthOf bdlexer 2)
theorem gc_lexer {v_text : Value} {av_text : AV} (S : St (c2 w os) g h l) (r_text : av_text.rep v_text)
  (k : ∀ L h', St (c2 w os) g h' ((L + 1, isC none) :: (L, isFr [((Str.ofString "text"), some av_text), ((Str.ofString "_law_read"), none), ((Str.ofString "stream"), none)]) :: l) → Ok (c2 w os) n (execs bdlexer (mkEnv fdlexer 132 L [((Str.ofString "signs"), L + 1)])) (kFn P) h') :
  OkC (c2 w os) (n + 1) (.call (.ref 132) ⟨[v_text], []⟩) (fun fl h' => ∃ v, fl = .ret v ∧ P v h') h := by
 refine (okC_call (fd := fdlexer) S (S.topH.k _ _ (fn_lexer _)) rfl rfl rfl (codeRec_of S.topH.k (cd_lexer _)) nd_lexer ?_)
 have hb : bindArgs fdlexer ⟨[v_text], []⟩ = pure [((Str.ofString "text"), v_text)] := by kernel_rfl
 rw [hb]
 refine ok_pure ⟨_, S, fun L h S => ?_⟩
 rw [ns_lexer, ce_lexer] at S
 rw [cf_lexer, hb_lexer]
 have S := S.weak (.there .here) fun o q => isFr_none q
 refine ok_bind_cons ?_
 refine ok_stM' S fk_lexer (by kernel_rfl) (.there .here) .here r_text fun h S => ?_
 exact ok_bind_nil ⟨S.topH, okC_func ((k L _ S).mono fun f h' z => ⟨_, rfl, z⟩)⟩
theorem go_lexer {v_text : Value} {av_text : AV} (S : St (c2 w os) g h l) (r_text : av_text.rep v_text)
  (k : ∀ L h', St (c2 w os) g h' ((L + 1, isC none) :: (L, isFr [((Str.ofString "text"), some av_text), ((Str.ofString "_law_read"), none), ((Str.ofString "stream"), none)]) :: l) → Ok (c2 w os) n (execs bdlexer (mkEnv fdlexer 132 L [((Str.ofString "signs"), L + 1)])) (kFn P) h') :
  Ok (c2 w os) (n + 1) (call (.ref 132) [v_text]) P h := ok_call (gc_lexer S r_text k)
noncomputable def LexTab (g : Heap) : Prop := ∃ c1 c2', HO g 127 (isTab [rawInt rdPos.line, rawInt rdPos.col, .ref c1, rawInt stPos.line, rawInt stPos.col, .ref c2']) ∧ HO g c1 (isCode (Str.ofString "_law_lexer.<locals>._law_read")) ∧ HO g c2' (isCode (Str.ofString "_law_lexer.<locals>.<lambda>"))
theorem LexTab.gr {g g' : Heap} (x : LexTab g) (k : Gr g g') : LexTab g' := x.imp fun u_ y => y.imp fun u_ z => ⟨z.1.gr k, z.2.1.gr k, z.2.2.gr k⟩
theorem lexer_miss {ks : List Nat} {t : Tok} (S : St (c2 w os) g h ((127, isTab []) :: l)) (hz : ks.length ≤ 1000000)
  (k : ∀ g' a d q p st h', Gr g g' → LexTab g' → LexS g' a d st q → St (c2 w os) g' h' (lexLed d q p st 1 ks [] l) → P (.ref a) h') : Ok (c2 w os) (n + 9) (call (.ref 132) [.str (str ks) t]) P h := by
 refine go_lexer S rep_str fun L h S => ok_s ?_
 walk_at "go"
 refine ok_list_str S hz fun q h S => ?_
 walk_at "gs"
 refine ok_x_def rfl rfl rfl ?_
 refine ok_makeFnU S rfl (by kernel_rfl) (by kernel_rfl) (codeHd_of_K S.top.k (ch_lexer _)) (fun W => .i3) (by trivial) rfl fun rd c1 ctv1 doc1 pm1 h S => ?_
 rw [List.nil_append] at S
 walk_at "gs"
 refine ok_Lambda rfl rfl ?_
 refine ok_makeLamU S rfl (by kernel_rfl) (by kernel_rfl) (codeHd_of_K S.top.k (ch_lexer _)) (fun W => .i5) (by trivial) rfl fun st c2' ctv2 pm2 h S => ?_
 walk_at "gs"
 refine ok_fnSetAttr S .here fread fun h S => ?_
 walk_at "go"
 refine ⟨kept_cls S.topH.k (S.topH.k _ _ (cl_netrc _)) rfl (by kernel_rfl), ?_⟩
 refine ok_call (okC_make (n := n + 7) [Str.ofString "lineno", Str.ofString "instream", Str.ofString "whitespace", Str.ofString "pushback"] S (by kernel_rfl) (by kernel_rfl) (fI := 35) (by kernel_rfl) (by decide) fun a d h S => ?_)
 have S := S.weak (.i1) fun o q => isFr_none q
 simp only [List.map] at S
 refine (lexinit_ok (n := n + 4) (P := fun v h => v = .none ∧ P (.ref a) h) S fun p h S => ⟨rfl, ?_⟩).mono fun fl h ⟨v, e, e2, z⟩ => ⟨by rw [e, e2], _, rfl, z⟩
 have S := St.front (a := 127) S (by walk_at "m")
 have S := St.front (a := c1) S (by walk_at "m")
 have S := St.front (a := c2') S (by walk_at "m")
 have S := St.front (a := L + 1) S (by walk_at "m")
 have S := St.front (a := rd) S (by walk_at "m")
 have S := St.front (a := st) S (by walk_at "m")
 have S := St.front S (.i7)
 have S := St.front S (.i9)
 obtain ⟨g', k', S, X⟩ := S.freezeL (l₁ := [_, _, _, _, _, _, _, _])
 have x0 := X _ List.mem_cons_self
 have x1 := X _ (List.mem_cons_of_mem _ List.mem_cons_self)
 have x2 := X _ (List.mem_cons_of_mem _ (List.mem_cons_of_mem _ List.mem_cons_self))
 have x3 := X _ (List.mem_cons_of_mem _ (List.mem_cons_of_mem _ (List.mem_cons_of_mem _ List.mem_cons_self)))
 have x4 := X _ (List.mem_cons_of_mem _ (List.mem_cons_of_mem _ (List.mem_cons_of_mem _ (List.mem_cons_of_mem _ List.mem_cons_self))))
 have x5 := X _ (List.mem_cons_of_mem _ (List.mem_cons_of_mem _ (List.mem_cons_of_mem _ (List.mem_cons_of_mem _ (List.mem_cons_of_mem _ List.mem_cons_self)))))
 have x6 := X _ (List.mem_cons_of_mem _ (List.mem_cons_of_mem _ (List.mem_cons_of_mem _ (List.mem_cons_of_mem _ (List.mem_cons_of_mem _ (List.mem_cons_of_mem _ List.mem_cons_self))))))
 have x7 := X _ (List.mem_cons_of_mem _ (List.mem_cons_of_mem _ (List.mem_cons_of_mem _ (List.mem_cons_of_mem _ (List.mem_cons_of_mem _ (List.mem_cons_of_mem _ (List.mem_cons_of_mem _ List.mem_cons_self)))))))
 have S := S.b3.del (.i3) (Same.refl _ _)
 refine k g' a d q p st h k' ⟨c1, c2', ?_, ?_, ?_⟩ ⟨?_, _, _, rd, L + 1, doc1, pm1, c1, ctv1, x2, x0, ?_, ?_, ?_⟩ S
 ·exact x7
 ·exact x6
 ·exact x5
 ·obtain ⟨o, ho, rfl⟩ := x1; exact ho
 ·exact x3
 ·obtain ⟨o, ho, v, rv, q⟩ := x4
  cases rv
  exact ⟨o, ho, q⟩
 ·exact x6
theorem lexer_hit {ks : List Nat} {t : Tok} (T : LexTab g) (S : St (c2 w os) g h l) (hz : ks.length ≤ 1000000)
  (k : ∀ g' a d q p st h', Gr g g' → LexS g' a d st q → St (c2 w os) g' h' (lexLed d q p st 1 ks [] l) → P (.ref a) h') : Ok (c2 w os) (n + 9) (call (.ref 132) [.str (str ks) t]) P h := by
 obtain ⟨c1, c2', T1, T2, T3⟩ := T
 refine go_lexer S rep_str fun L h S => ok_s ?_
 walk_at "go"
 refine ok_list_str S hz fun q h S => ?_
 walk_at "gs"
 refine ok_x_def rfl rfl rfl ?_
 obtain ⟨ot, hot, rfl⟩ := T1
 refine ok_makeFn_hit (cv := .ref c1) S rfl (by kernel_rfl) (by kernel_rfl) (codeHd_of_K S.top.k (ch_lexer _)) (S.keep _ _ hot) (by trivial) (by kernel_rfl) fun rd ctv1 doc1 pm1 h S => ?_
 walk_at "gs"
 refine ok_Lambda rfl rfl ?_
 refine ok_makeLam_hit (cv := .ref c2') S rfl (by kernel_rfl) (by kernel_rfl) (codeHd_of_K S.top.k (ch_lexer _)) (S.keep _ _ hot) (by trivial) (by kernel_rfl) fun st ctv2 pm2 h S => ?_
 walk_at "gs"
 refine ok_fnSetAttr S .here fread fun h S => ?_
 walk_at "go"
 refine ⟨kept_cls S.topH.k (S.topH.k _ _ (cl_netrc _)) rfl (by kernel_rfl), ?_⟩
 refine ok_call (okC_make (n := n + 7) [Str.ofString "lineno", Str.ofString "instream", Str.ofString "whitespace", Str.ofString "pushback"] S (by kernel_rfl) (by kernel_rfl) (fI := 35) (by kernel_rfl) (by decide) fun a d h S => ?_)
 have S := S.weak (.i1) fun o q => isFr_none q
 simp only [List.map] at S
 refine (lexinit_ok (n := n + 4) (P := fun v h => v = .none ∧ P (.ref a) h) S fun p h S => ⟨rfl, ?_⟩).mono fun fl h ⟨v, e, e2, z⟩ => ⟨by rw [e, e2], _, rfl, z⟩
 have S := St.front (a := L + 1) S (by walk_at "m")
 have S := St.front (a := rd) S (by walk_at "m")
 have S := St.front (a := st) S (by walk_at "m")
 have S := St.front S (.i4)
 have S := St.front S (.i6)
 obtain ⟨g', k', S, X⟩ := S.freezeL (l₁ := [_, _, _, _, _])
 have x0 := X _ List.mem_cons_self
 have x1 := X _ (List.mem_cons_of_mem _ List.mem_cons_self)
 have x2 := X _ (List.mem_cons_of_mem _ (List.mem_cons_of_mem _ List.mem_cons_self))
 have x3 := X _ (List.mem_cons_of_mem _ (List.mem_cons_of_mem _ (List.mem_cons_of_mem _ List.mem_cons_self)))
 have x4 := X _ (List.mem_cons_of_mem _ (List.mem_cons_of_mem _ (List.mem_cons_of_mem _ (List.mem_cons_of_mem _ List.mem_cons_self))))
 have S := S.b3.del (.i3) (Same.refl _ _)
 refine k g' a d q p st h k' ⟨?_, _, _, rd, L + 1, doc1, pm1, c1, ctv1, x2, x0, ?_, ?_, ?_⟩ S
 ·obtain ⟨o, ho, rfl⟩ := x1; exact ho
 ·exact x3
 ·obtain ⟨o, ho, v, rv, q⟩ := x4
  cases rv
  exact ⟨o, ho, q⟩
 ·exact HO.gr T2 k'
noncomputable abbrev Rule := List Nat × List Nat
noncomputable def modOf (r : Rule) : Option (List Nat) := if r.2.length < r.1.length then some (nameOf r.1 46) else none
noncomputable def dirOf (r : Rule) : Option (List Nat) := if r.2.length = r.1.length then some ([46, 47] ++ nameOf r.1 47 ++ [47, 47, 46]) else none
noncomputable def modsOf (rs : List Rule) : List (List Nat) := rs.filterMap modOf
noncomputable def dirsOf (rs : List Rule) : List (List Nat) := rs.filterMap dirOf
theorem cl_Ignore (P : Params) : (hd.heap_39 P).lookup 121 = some ((hd.heap_39 P0).lookup 121 |>.getD default) := by kernel_rfl
theorem name_le (w : List Nat) (k : Nat) : (nameOf w k).length ≤ 3 * w.length := by
 have := glue_le1 k 2 (w.reverse.map fun s => nm k [s]) fun x hx => by obtain ⟨y, _, rfl⟩ := List.mem_map.mp hx; exact nm_le _ _
 simpa [nameOf] using this
theorem gc_reader {v_rules : Value} {av_rules : AV} (S : St (c2 w os) g h l) (r_rules : av_rules.rep v_rules)
  (k : ∀ L h', St (c2 w os) g h' ((L, isFr [((Str.ofString "rules"), some av_rules), ((Str.ofString "mods"), none), ((Str.ofString "dirs"), none)]) :: l) → Ok (c2 w os) n (execs bdreader (mkEnv fdreader 147 L [])) (kFn P) h') :
  OkC (c2 w os) (n + 1) (.call (.ref 147) ⟨[v_rules], []⟩) (fun fl h' => ∃ v, fl = .ret v ∧ P v h') h := by
 refine (okC_call (fd := fdreader) S (S.topH.k _ _ (fn_reader _)) rfl rfl rfl (codeRec_of S.topH.k (cd_reader _)) nd_reader ?_)
 have hb : bindArgs fdreader ⟨[v_rules], []⟩ = pure [((Str.ofString "rules"), v_rules)] := by kernel_rfl
 rw [hb]
 refine ok_pure ⟨_, S, fun L h S => ?_⟩
 rw [ns_reader, ce_reader] at S
 rw [cf_reader, hb_reader]
 have S := S.weak .here fun o q => isFr_none q
 refine ok_bind_cons ?_
 refine ok_stM' S fk_reader (by kernel_rfl) .here .here r_rules fun h S => ?_
 exact ok_bind_nil ⟨S.topH, okC_func ((k L _ S).mono fun f h' z => ⟨_, rfl, z⟩)⟩
theorem go_reader {v_rules : Value} {av_rules : AV} (S : St (c2 w os) g h l) (r_rules : av_rules.rep v_rules)
  (k : ∀ L h', St (c2 w os) g h' ((L, isFr [((Str.ofString "rules"), some av_rules), ((Str.ofString "mods"), none), ((Str.ofString "dirs"), none)]) :: l) → Ok (c2 w os) n (execs bdreader (mkEnv fdreader 147 L [])) (kFn P) h') :
  Ok (c2 w os) (n + 1) (call (.ref 147) [v_rules]) P h := ok_call (gc_reader S r_rules k)
theorem reader_ok {rl : Addr} {as : List Addr} {rs : List Rule} (S : St (c2 w os) g h ((rl, isL (refs as)) :: l)) (hr : PairsAt g as rs) (hz : rs.length ≤ 500) (hz2 : ∀ r ∈ rs, r.1.length ≤ 200 ∧ r.2.length ≤ 200)
  (k : ∀ g' x ig h', Gr g g' → RdS (c2 w os) g' x ig (modsOf rs) ((dirsOf rs).map npath) → St (c2 w os) g' h' ((ig, isDic (K := Str) (c2 w os) [(str [60, 115, 116, 114, 105, 110, 103, 62], .int 1)]) :: (rl, isL (refs as)) :: l) → P (.ref x) h') :
  Ok (c2 w os) (n + 12) (call (.ref 147) [.ref rl]) P h := by
 refine go_reader S rep_ref fun L h S => ok_s ?_
 have hal := hr.len
 walk_at "go"
 refine ok_fmapIU [Str.ofString ".0", Str.ofString "left", Str.ofString "right"] (fun u_ => rfl) rfl rfl (by kernel_rfl) (by kernel_rfl) (by decide) ?_
 walk_at "gs"
 refine ok_iterLA S (S.get (.i1)) fun it h S => ?_
 refine ⟨_, _, _, _, _, _, rfl, srcA_list, by rw [refs_len]; walk_at "lx", S, fun h l' S => S.right.get (.i1), fun i => (rs[i]?).bind fun r => (modOf r).map .str, ?_, ?_⟩
 ·rintro i C D ys m h av v hi rv hm S
  revert av v
  refine turn_refs fun a hai => ?_
  obtain ⟨⟨r1, r2⟩, hri, X⟩ := hr.get hai
  obtain ⟨z1, z2⟩ := hz2 _ (List.mem_of_getElem? hri)
  simp only at z1 z2
  revert m
  refine shapeE3 fun o1 o2 o3 => ?_
  intro S
  refine ok_assign_Tuple S (S.here X) rfl rfl fun h us r S => ?_
  revert us
  refine Reps.e2 fun t1 t2 => ?_
  walk_at "gs"
  refine ⟨fun e => ?_, fun e => ?_⟩
  ·have e := of_decide_eq_true e
   refine ⟨.str (nameOf r1 46), by rw [hri]; simp [modOf]; walk_at "lx", ?_⟩
   walk_at "go"
   exact (name_ok (n := n + 10) S (by walk_at "li") fun h t S => ⟨_, rfl, rep_str, S⟩)
  ·have e := of_decide_eq_false e
   exact ⟨by rw [hri]; simp [modOf]; walk_at "lx", _, rfl, S⟩
 intro D C m h S
 refine ok_assignC S rfl (by kernel_rfl) (by kernel_rfl) .here (.i1) fun h S => ?_
 have e1 : (List.range (refs as).length).filterMap (fun i => (rs[i]?).bind fun r => (modOf r).map .str) = strsOf (modsOf rs) := by
  rw [refs_len, hal, range_fmap]
  unfold modsOf strsOf
  rw [List.map_filterMap]
 rw [e1] at S
 walk_at "gs"
 refine ok_fmapIU [Str.ofString ".0", Str.ofString "left", Str.ofString "right"] (fun u_ => rfl) rfl rfl (by kernel_rfl) (by kernel_rfl) (by decide) ?_
 walk_at "gs"
 refine ok_iterLA S (S.get (.i2)) fun it h S => ?_
 refine ⟨_, _, _, _, _, _, rfl, srcA_list, by rw [refs_len]; walk_at "lx", S, fun h l' S => S.right.get (.i2), fun i => (rs[i]?).bind fun r => (dirOf r).map .str, ?_, ?_⟩
 ·rintro i C D ys m h av v hi rv hm S
  revert av v
  refine turn_refs fun a hai => ?_
  obtain ⟨⟨r1, r2⟩, hri, X⟩ := hr.get hai
  obtain ⟨z1, z2⟩ := hz2 _ (List.mem_of_getElem? hri)
  simp only at z1 z2
  revert m
  refine shapeE3 fun o1 o2 o3 => ?_
  intro S
  refine ok_assign_Tuple S (S.here X) rfl rfl fun h us r S => ?_
  revert us
  refine Reps.e2 fun t1 t2 => ?_
  walk_at "gs"
  refine ⟨fun e => ?_, fun e => ?_⟩
  ·have e := of_decide_eq_true e
   refine ⟨.str ([46, 47] ++ nameOf r1 47 ++ [47, 47, 46]), by rw [hri]; simp [dirOf]; walk_at "lx", ?_⟩
   walk_at "go"
   refine (name_ok (n := n + 10) S (by walk_at "li") fun h t S => ?_)
   have := name_le r1 47
   walk_at "go"
   exact ⟨_, rfl, rep_str, (by assumption)⟩
  ·have e := of_decide_eq_false e
   exact ⟨by rw [hri]; simp [dirOf]; walk_at "lx", _, rfl, S⟩
 intro D2 C m h S
 refine ok_assignC S rfl (by kernel_rfl) (by kernel_rfl) (.i1) (.i2) fun h S => ?_
 have e2 : (List.range (refs as).length).filterMap (fun i => (rs[i]?).bind fun r => (dirOf r).map .str) = strsOf (dirsOf rs) := by
  rw [refs_len, hal, range_fmap]
  unfold dirsOf strsOf
  rw [List.map_filterMap]
 rw [e2] at S
 walk_at "go"
 refine ⟨kept_cls S.topH.k (S.topH.k _ _ (cl_Ignore _)) rfl (by kernel_rfl), ?_⟩
 obtain ⟨g1, k1, S, X⟩ := S.freezeL (l₁ := [_, _])
 have x0 := X _ List.mem_cons_self
 have x1 := X _ (List.mem_cons_of_mem _ List.mem_cons_self)
 refine ok_call (okC_make (n := n + 10) [Str.ofString "_mods", Str.ofString "_dirs", Str.ofString "_ignore"] S (by kernel_rfl) (by kernel_rfl) (fI := 111) (by kernel_rfl) (by decide) fun x d h S => ?_)
 have S := S.weak (.i1) fun o q => isFr_none q
 simp only [List.map] at S
 refine (igninit_ok (n := n + 2) (P := fun v h => v = .none ∧ P (.ref x) h) S x1 x0 ?_ ?_ ?_ fun s dl' ig h S => ⟨rfl, ?_⟩).mono fun fl h ⟨v, e, e2, z⟩ => ⟨by rw [e, e2], _, rfl, z⟩
 ·have := List.length_filterMap_le modOf rs
  show (rs.filterMap modOf).length ≤ _; walk_at "lx"
 ·have := List.length_filterMap_le dirOf rs
  show (rs.filterMap dirOf).length ≤ _; walk_at "lx"
 ·intro p hp
  obtain ⟨r, hr', e⟩ := List.mem_filterMap.mp hp
  unfold dirOf at e
  split at e
  ·cases e
   have h1 := name_le r.1 47
   have h2 := (hz2 r hr').1
   exact ⟨by simp, by simp, by simp; walk_at "lx"⟩
  ·cases e
 have S := St.front S (.i4)
 have S := St.front S (.i4)
 have S := St.front S (.i4)
 have S := St.front S (.i4)
 obtain ⟨g2, k2, S, Y⟩ := S.freezeL (l₁ := [_, _, _, _])
 have y0 := Y _ List.mem_cons_self
 have y1 := Y _ (List.mem_cons_of_mem _ List.mem_cons_self)
 have y2 := Y _ (List.mem_cons_of_mem _ (List.mem_cons_of_mem _ List.mem_cons_self))
 have y3 := Y _ (List.mem_cons_of_mem _ (List.mem_cons_of_mem _ (List.mem_cons_of_mem _ List.mem_cons_self)))
 exact k g2 x ig h (k1.trans k2) ⟨d, s, dl', y2, y3, y1, y0⟩ (S.del (.i1) (Same.refl _ _))
theorem me_names (P : Params) : findIn (hd.heap_39 P) (.ref 121) (Str.ofString "names") = some (some (.ref 118)) := by kernel_rfl
theorem ty_names (P : Params) : typeIn (hd.heap_39 P) (.ref 118) = some (.type "function") := by kernel_rfl
theorem gc_out {v_reader v_word : Value} {av_reader av_word : AV} (S : St (c2 w os) g h l) (r_reader : av_reader.rep v_reader) (r_word : av_word.rep v_word)
  (k : ∀ L h', St (c2 w os) g h' ((L, isFr [((Str.ofString "reader"), some av_reader), ((Str.ofString "word"), some av_word)]) :: l) → Ok (c2 w os) n (execs bdout (mkEnv fdout 154 L [])) (kFn P) h') :
  OkC (c2 w os) (n + 1) (.call (.ref 154) ⟨[v_reader, v_word], []⟩) (fun fl h' => ∃ v, fl = .ret v ∧ P v h') h := by
 refine (okC_call (fd := fdout) S (S.topH.k _ _ (fn_out _)) rfl rfl rfl (codeRec_of S.topH.k (cd_out _)) nd_out ?_)
 have hb : bindArgs fdout ⟨[v_reader, v_word], []⟩ = pure [((Str.ofString "reader"), v_reader), ((Str.ofString "word"), v_word)] := by kernel_rfl
 rw [hb]
 refine ok_pure ⟨_, S, fun L h S => ?_⟩
 rw [ns_out, ce_out] at S
 rw [cf_out, hb_out]
 have S := S.weak .here fun o q => isFr_none q
 refine ok_bind_cons ?_
 refine ok_stM' S fk_out (by kernel_rfl) .here .here r_reader fun h S => ?_
 refine ok_bind_cons ?_
 refine ok_stM' S fk_out (by kernel_rfl) .here (.there .here) r_word fun h S => ?_
 exact ok_bind_nil ⟨S.topH, okC_func ((k L _ S).mono fun f h' z => ⟨_, rfl, z⟩)⟩
theorem go_out {v_reader v_word : Value} {av_reader av_word : AV} (S : St (c2 w os) g h l) (r_reader : av_reader.rep v_reader) (r_word : av_word.rep v_word)
  (k : ∀ L h', St (c2 w os) g h' ((L, isFr [((Str.ofString "reader"), some av_reader), ((Str.ofString "word"), some av_word)]) :: l) → Ok (c2 w os) n (execs bdout (mkEnv fdout 154 L [])) (kFn P) h') :
  Ok (c2 w os) (n + 1) (call (.ref 154) [v_reader, v_word]) P h := ok_call (gc_out S r_reader r_word k)
theorem out_hit {x ig : Addr} {mods dirs : List (List Nat)} {ks : List Nat} {m : DM Str} {i : Int} {t : Tok}
  (X : RdS (c2 w os) g x ig mods dirs) (S : St (c2 w os) g h ((ig, isDic (c2 w os) m) :: l)) (hm : at? m (str (nameOf ks 46)) = some (.int i)) (hz : ks.length ≤ 1000)
  (k : ∀ h' t, St (c2 w os) g h' ((ig, isDic (c2 w os) m) :: l) → P (.int i t) h') : Ok (c2 w os) (n + 3) (call (.ref 154) [.ref x, .str (str ks) t]) P h := by
 obtain ⟨d, s, dl, X1, X2, X3, X4⟩ := X.is
 refine go_out S rep_ref rep_str fun L h S => ok_s ?_
 walk_at "go"
 refine name_ok (n := n + 1) S (by walk_at "li") fun h t S => ?_
 have hn := name_le ks 47
 walk_at "go"
 refine name_ok (n := n + 1) S (by walk_at "li") fun h t S => ?_
 walk_at "gs"
 have S := S.f2
 exact (names_hit (n := n + 1) (fn := some (nameOf ks 47 ++ [47, 120])) X S rep_str hm fun h t S => k _ _ (S.del (.i1) (Same.refl _ _)))
theorem out_miss {x ig : Addr} {mods dirs : List (List Nat)} {ks : List Nat} {m : DM Str} {t : Tok}
  (X : RdS (c2 w os) g x ig mods dirs) (S : St (c2 w os) g h ((ig, isDic (c2 w os) m) :: l)) (hm : at? m (str (nameOf ks 46)) = none) (hz : ks.length ≤ 1000)
  (hzl : m.length ≤ 900000) (hzm : mods.length ≤ 900) (hzd : dirs.length ≤ 100000) (hzs : ∀ s ∈ mods, s.length ≤ 1000) (hzs2 : ∀ s ∈ dirs, s.length ≤ 100000)
  (k : ∀ h' t, St (c2 w os) g h' ((ig, isDic (c2 w os) (m ++ [(str (nameOf ks 46), .int (intB (ansOf mods dirs (some (nameOf ks 47 ++ [47, 120])) (nameOf ks 46))))])) :: l) → P (.int (intB (ansOf mods dirs (some (nameOf ks 47 ++ [47, 120])) (nameOf ks 46))) t) h') :
  Ok (c2 w os) (n + 3) (call (.ref 154) [.ref x, .str (str ks) t]) P h := by
 obtain ⟨d, s, dl, X1, X2, X3, X4⟩ := X.is
 refine go_out S rep_ref rep_str fun L h S => ok_s ?_
 walk_at "go"
 refine name_ok (n := n + 1) S (by walk_at "li") fun h t S => ?_
 have hn := name_le ks 47
 walk_at "go"
 refine name_ok (n := n + 1) S (by walk_at "li") fun h t S => ?_
 walk_at "gs"
 have S := S.f2
 exact (names_miss (n := n + 1) (fn := some (nameOf ks 47 ++ [47, 120])) X S rep_str hm hzl hzm hzd hzs hzs2 fun h t S => k _ _ (S.del (.i1) (Same.refl _ _)))
noncomputable def IsSigns (w : List Nat) : Prop := ∀ k ∈ w, k = 34 ∨ k = 92
theorem IsSigns.app {a b : List Nat} (x : IsSigns a) (y : IsSigns b) : IsSigns (a ++ b) := fun k h => (List.mem_append.mp h).elim (x k) (y k)
theorem IsSigns.rev {a : List Nat} (x : IsSigns a) : IsSigns a.reverse := fun k h => x k (List.mem_reverse.mp h)
noncomputable def segs (mark : Nat) (w : List Nat) : List (List Nat) := w.reverse.map fun s => nm mark [s]
theorem nm_ab (mark : Nat) (s : List Nat) : nm mark s = [97] ∨ nm mark s = [97, 98] := by unfold nm; split <;> simp -iota
theorem nm_inj {mark a b : Nat} (ha : a = 34 ∨ a = 92) (hb : b = 34 ∨ b = 92) (h : nm mark [a] = nm mark [b]) : a = b := by
 unfold nm at h
 by_cases e : mark = 46
 ·rcases ha with rfl | rfl <;> rcases hb with rfl | rfl <;> simp -iota [e] at h ⊢
 ·rcases ha with rfl | rfl <;> rcases hb with rfl | rfl <;> simp -iota [e] at h ⊢
theorem map_nm_inj {mark : Nat} {a : List Nat} : ∀ {b : List Nat}, IsSigns a → IsSigns b → (a.map fun s => nm mark [s]) = (b.map fun s => nm mark [s]) → a = b := by
 induction a with
 | nil => intro b _ _ h; cases b with
  | nil => rfl
  | cons y b => cases h
 | cons x a ih => intro b ha hb h; cases b with
  | nil => cases h
  | cons y b =>
   rw [List.map_cons, List.map_cons] at h
   injection h with h1 h2
   rw [nm_inj (ha x List.mem_cons_self) (hb y List.mem_cons_self) h1, ih (fun k hk => ha k (List.mem_cons_of_mem _ hk)) (fun k hk => hb k (List.mem_cons_of_mem _ hk)) h2]
theorem map_nm_pre {mark : Nat} : ∀ {a b : List Nat}, IsSigns a → IsSigns b → ((a.map fun s => nm mark [s]) <+: (b.map fun s => nm mark [s]) ↔ a <+: b)
 | [], b, _, _ => by simp -iota
 | x :: a, [], _, _ => by simp -iota
 | x :: a, y :: b, ha, hb => by
  simp -iota only [List.map_cons, List.cons_prefix_cons]
  rw [map_nm_pre (fun k hk => ha k (List.mem_cons_of_mem _ hk)) (fun k hk => hb k (List.mem_cons_of_mem _ hk))]
  constructor
  ·rintro ⟨h1, h2⟩; exact ⟨nm_inj (ha x List.mem_cons_self) (hb y List.mem_cons_self) h1, h2⟩
  ·rintro ⟨rfl, h2⟩; exact ⟨rfl, h2⟩
theorem glue_cons2 (k : Nat) (x y : List Nat) (r : List (List Nat)) : glueL [k] (x :: y :: r) = x ++ k :: glueL [k] (y :: r) := by simp [glueL]
theorem glue_one' (k : Nat) (x : List Nat) : glueL [k] [x] = x := by simp [glueL]
theorem glue_inj {k : Nat} {xs ys : List (List Nat)} (h0 : xs ≠ []) (h1 : ys ≠ []) (hx : ∀ x ∈ xs, k ∉ x) (hy : ∀ y ∈ ys, k ∉ y) (h : glueL [k] xs = glueL [k] ys) : xs = ys := by
 rw [← cutAt_glue h0 hx, h, cutAt_glue h1 hy]
theorem pre_mark {k : Nat} {x : List Nat} : ∀ {y : List Nat} {s t : List Nat}, k ∉ x → k ∉ y → ((x ++ k :: s) <+: (y ++ k :: t) ↔ x = y ∧ s <+: t) := by
 induction x with
 | nil => intro y s t _ hy; cases y with
  | nil => simp -iota [List.cons_prefix_cons]
  | cons b y =>
   simp -iota only [List.nil_append, List.cons_append, List.cons_prefix_cons]
   exact ⟨fun h => (hy (by rw [h.1]; exact List.mem_cons_self)).elim, fun h => by cases h.1⟩
 | cons a x ih => intro y s t hx hy; cases y with
  | nil =>
   simp -iota only [List.nil_append, List.cons_append, List.cons_prefix_cons]
   exact ⟨fun h => (hx (by rw [h.1]; exact List.mem_cons_self)).elim, fun h => by cases h.1⟩
  | cons b y =>
   simp -iota only [List.cons_append, List.cons_prefix_cons, List.cons.injEq]
   rw [ih (fun h => hx (List.mem_cons_of_mem _ h)) (fun h => hy (List.mem_cons_of_mem _ h)), and_assoc]
theorem glue_pre {k : Nat} {xs : List (List Nat)} : ∀ {ys : List (List Nat)} {t : List Nat}, xs ≠ [] → ys ≠ [] → (∀ x ∈ xs, k ∉ x) → (∀ y ∈ ys, k ∉ y) → k ∉ t → ((glueL [k] xs ++ [k]) <+: (glueL [k] ys ++ k :: t) ↔ xs <+: ys) := by
 induction xs with
 | nil => intro ys t h; exact (h rfl).elim
 | cons x xs ih =>
  intro ys t _ h0 hx hy ht
  cases ys with
  | nil => exact (h0 rfl).elim
  | cons y ys =>
  have P {s u : List Nat} := pre_mark (s := s) (t := u) (hx x List.mem_cons_self) (hy y List.mem_cons_self)
  cases xs with
  | nil => cases ys with
   | nil => rw [glue_one', glue_one', P]; simp -iota [List.cons_prefix_cons]
   | cons y2 ys => rw [glue_one', glue_cons2, List.append_assoc, List.cons_append, P]; simp -iota [List.cons_prefix_cons]
  | cons x2 xs => cases ys with
   | nil =>
    rw [glue_one', glue_cons2, List.append_assoc, List.cons_append, P]
    constructor
    ·rintro ⟨_, h⟩
     exfalso
     have : k ∈ glueL [k] (x2 :: xs) ++ [k] := by simp -iota
     exact ht (h.subset this)
    ·intro h
     have := h.length_le
     simp -iota at this
   | cons y2 ys =>
    rw [glue_cons2, glue_cons2, List.append_assoc, List.cons_append, List.append_assoc, List.cons_append, P,
     ih (by simp -iota) (by simp -iota) (fun z hz => hx z (List.mem_cons_of_mem _ hz)) (fun z hz => hy z (List.mem_cons_of_mem _ hz)) ht]
    simp -iota [List.cons_prefix_cons]
theorem segs_free {mark : Nat} (hm : mark = 46 ∨ mark = 47) (w : List Nat) : ∀ x ∈ segs mark w, mark ∉ x := by
 intro x hx
 obtain ⟨s, _, rfl⟩ := List.mem_map.mp hx
 rcases nm_ab mark [s] with e | e <;> rw [e] <;> rcases hm with rfl | rfl <;> decide
theorem segs_ne {mark : Nat} {w : List Nat} (h : w ≠ []) : segs mark w ≠ [] := by simp -iota [segs, h]
theorem name_inj {mark : Nat} (hm : mark = 46 ∨ mark = 47) {a b : List Nat} (ha : IsSigns a) (hb : IsSigns b) (na : a ≠ []) (nb : b ≠ []) (h : nameOf a mark = nameOf b mark) : a = b := by
 have := glue_inj (segs_ne na) (segs_ne nb) (segs_free hm a) (segs_free hm b) h
 exact List.reverse_inj.mp (map_nm_inj ha.rev hb.rev this)
theorem name_pre {mark : Nat} (hm : mark = 46 ∨ mark = 47) {a b t : List Nat} (ha : IsSigns a) (hb : IsSigns b) (na : a ≠ []) (nb : b ≠ []) (ht : mark ∉ t) : (nameOf a mark ++ [mark]) <+: (nameOf b mark ++ mark :: t) ↔ a <:+ b := by
 have := glue_pre (t := t) (segs_ne (mark := mark) na) (segs_ne (mark := mark) nb) (segs_free hm a) (segs_free hm b) ht
 refine this.trans ?_
 unfold segs
 rw [map_nm_pre ha.rev hb.rev, List.reverse_prefix]
theorem pre_snoc {a b : List Nat} {k : Nat} : (a ++ [k]) <+: b ++ [k] → (a ++ [k]) <+: b ∨ a = b := by
 intro h
 rcases List.prefix_concat_iff.mp h with h | h
 ·exact .inr (by simpa -iota using h)
 ·exact .inl h
theorem name_ne_nil {mark : Nat} {a : List Nat} (h : a ≠ []) : nameOf a mark ≠ [] := by
 intro e
 have hs := segs_ne (mark := mark) h
 have : glueL [mark] (segs mark a) = [] := e
 match hsg : segs mark a, hs with
 | x :: r, _ =>
  rw [hsg] at this
  have hx : x ∈ segs mark a := by rw [hsg]; exact List.mem_cons_self
  obtain ⟨s, _, rfl⟩ := List.mem_map.mp hx
  simp only [glueL, List.append_eq_nil_iff] at this
  rcases nm_ab mark [s] with e | e <;> rw [e] at this <;> simp at this
theorem glue_app (k : Nat) (xs : List (List Nat)) (y : List Nat) (ys : List (List Nat)) (h : xs ≠ []) : glueL [k] (xs ++ y :: ys) = glueL [k] xs ++ k :: glueL [k] (y :: ys) := by
 match xs, h with
 | x :: r, _ => simp [glueL]
theorem np_ab : ∀ (xs st : List (List Nat)), (∀ x ∈ xs, x = [97] ∨ x = [97, 98]) → xs.foldl npStep st = st ++ xs
 | [], st, _ => by simp -iota
 | x :: xs, st, h => by
  have : npStep st x = st ++ [x] := by
   unfold npStep
   rcases h x List.mem_cons_self with rfl | rfl <;> simp -iota
  rw [List.foldl_cons, this, np_ab xs _ fun y hy => h y (List.mem_cons_of_mem _ hy)]; simp -iota
theorem segs_ab (mark : Nat) (w : List Nat) : ∀ x ∈ segs mark w, x = [97] ∨ x = [97, 98] := by
 intro x hx
 obtain ⟨s, _, rfl⟩ := List.mem_map.mp hx
 exact nm_ab mark [s]
theorem npath_dir {w : List Nat} (h : w ≠ []) : npath ([46, 47] ++ nameOf w 47 ++ [47, 47, 46]) = nameOf w 47 := by
 have hs := segs_ne (mark := 47) h
 have e : [46, 47] ++ nameOf w 47 ++ [47, 47, 46] = glueL [47] ([46] :: segs 47 w ++ [[], [46]]) := by
  rw [glue_app _ _ _ _ (by simp)]
  have e2 : glueL [47] ([46] :: segs 47 w) = 46 :: 47 :: glueL [47] (segs 47 w) := by
   match hq : segs 47 w, hs with
   | x :: r, _ => simp [glueL]
  rw [e2]
  simp [glueL]; rfl
 have e3 : cutAt 47 ([46, 47] ++ nameOf w 47 ++ [47, 47, 46]) = [46] :: segs 47 w ++ [[], [46]] := by
  rw [e]
  refine cutAt_glue (by simp) fun x hx => ?_
  rcases List.mem_append.mp hx with hx | hx
  ·rcases List.mem_cons.mp hx with rfl | hx
   ·decide
   ·exact segs_free (.inr rfl) w x hx
  ·simp at hx
   rcases hx with rfl | rfl <;> decide
 have e4 : np (cutAt 47 ([46, 47] ++ nameOf w 47 ++ [47, 47, 46])) = segs 47 w := by
  rw [e3]
  unfold np
  rw [List.foldl_append]
  show List.foldl npStep (List.foldl npStep (npStep [] [46]) (segs 47 w)) [[], [46]] = _
  have : npStep [] [46] = [] := by simp [npStep]
  rw [this, np_ab _ _ (segs_ab 47 w)]
  simp [npStep]
 unfold npath
 rw [e4]
 have : glueL [47] (segs 47 w) = nameOf w 47 := rfl
 rw [this, if_neg (name_ne_nil h)]
noncomputable def asks (rs : List Rule) (w : List Nat) : Bool := rs.any fun r => decide (r.1 <:+ w)
noncomputable def RulesOk (rs : List Rule) : Prop := ∀ r ∈ rs, IsSigns r.1 ∧ r.1 ≠ [] ∧ r.2.length ≤ r.1.length
theorem in_mods {rs : List Rule} {m : List Nat} : m ∈ modsOf rs ↔ ∃ r ∈ rs, r.2.length < r.1.length ∧ m = nameOf r.1 46 := by
 unfold modsOf
 rw [List.mem_filterMap]
 constructor
 ·rintro ⟨r, hr, e⟩
  unfold modOf at e
  split at e
  ·exact ⟨r, hr, by assumption, by injection e with e; exact e.symm⟩
  ·cases e
 ·rintro ⟨r, hr, h, rfl⟩
  exact ⟨r, hr, by simp -iota [modOf, h]⟩
theorem in_dirs {rs : List Rule} {m : List Nat} : m ∈ dirsOf rs ↔ ∃ r ∈ rs, r.2.length = r.1.length ∧ m = [46, 47] ++ nameOf r.1 47 ++ [47, 47, 46] := by
 unfold dirsOf
 rw [List.mem_filterMap]
 constructor
 ·rintro ⟨r, hr, e⟩
  unfold dirOf at e
  split at e
  ·exact ⟨r, hr, by assumption, by injection e with e; exact e.symm⟩
  ·cases e
 ·rintro ⟨r, hr, h, rfl⟩
  exact ⟨r, hr, by simp -iota [dirOf, h]⟩
theorem ans_asks {rs : List Rule} (h : RulesOk rs) {w : List Nat} (hw : IsSigns w) (h0 : w ≠ []) : ansOf (modsOf rs) ((dirsOf rs).map npath) (some (nameOf w 47 ++ [47, 120])) (nameOf w 46) = asks rs w := by
 rw [Bool.eq_iff_iff]
 unfold ansOf under asks
 simp only [Bool.or_eq_true, decide_eq_true_eq, List.any_eq_true, List.mem_map]
 constructor
 ·rintro ((h1 | ⟨m, hm, h1⟩) | ⟨d, ⟨m, hm, rfl⟩, h1⟩)
  ·obtain ⟨r, hr, _, e⟩ := in_mods.mp h1
   have hr' := h r hr
   have := name_inj (.inl rfl) hw hr'.1 h0 hr'.2.1 e
   exact ⟨r, hr, by rw [this]; exact List.suffix_refl _⟩
  ·obtain ⟨r, hr, _, rfl⟩ := in_mods.mp hm
   have hr' := h r hr
   exact ⟨r, hr, (name_pre (.inl rfl) hr'.1 hw hr'.2.1 h0 (t := []) (by simp)).mp (h1.trans (List.prefix_append _ _))⟩
  ·obtain ⟨r, hr, _, rfl⟩ := in_dirs.mp hm
   have hr' := h r hr
   rw [npath_dir hr'.2.1] at h1
   exact ⟨r, hr, (name_pre (.inr rfl) hr'.1 hw hr'.2.1 h0 (t := [120]) (by simp)).mp h1⟩
 ·rintro ⟨r, hr, hs⟩
  have hr' := h r hr
  rcases Nat.lt_or_ge r.2.length r.1.length with hl | hl
  ·left
   have := (name_pre (.inl rfl) hr'.1 hw hr'.2.1 h0 (t := []) (by simp)).mpr hs
   rcases pre_snoc this with h2 | h2
   ·exact .inr ⟨_, in_mods.mpr ⟨r, hr, hl, rfl⟩, h2⟩
   ·exact .inl (by rw [← h2]; exact in_mods.mpr ⟨r, hr, hl, rfl⟩)
  ·right
   have he : r.2.length = r.1.length := by lia
   refine ⟨_, ⟨_, in_dirs.mpr ⟨r, hr, he, rfl⟩, rfl⟩, ?_⟩
   rw [npath_dir hr'.2.1]
   exact (name_pre (.inr rfl) hr'.1 hw hr'.2.1 h0 (t := [120]) (by simp)).mpr hs
structure MemoOk (rs : List Rule) (m : DM Str) : Prop where
 tells : ∀ w, IsSigns w → w ≠ [] → ∀ v, at? m (str (nameOf w 46)) = some v → v = .int (intB (asks rs w))
theorem at?_app {m : DM Str} {k : Str} {a : AV} {j : Str} (h : at? m k = none) : at? (m ++ [(k, a)]) j = if j = k then some a else at? m j := by
 rw [← putAt_new h]; exact at?_putAt m k a j
set_option tactic.hygienic true in
theorem MemoOk.put {rs : List Rule} {m : DM Str} (M : MemoOk rs m) {w : List Nat} (hw : IsSigns w) (h0 : w ≠ []) (hm : at? m (str (nameOf w 46)) = none) : MemoOk rs (m ++ [(str (nameOf w 46), .int (intB (asks rs w)))]) :=
 ⟨fun u hu u0 v e => by
  rw [at?_app hm] at e
  split at e
  ·rename_i e2
   have e3 := congrArg (fun s => s.cps.toList) e2
   simp -iota only [str] at e3
   have := name_inj (.inl rfl) hu hw u0 h0 (by simpa -iota using e3)
   subst this
   injection e with e; exact e.symm
  ·exact M.tells u hu u0 v e⟩
theorem MemoOk.start (rs : List Rule) : MemoOk rs [(str [60, 115, 116, 114, 105, 110, 103, 62], .int 1)] :=
 ⟨fun u hu u0 v e => by
  exfalso
  have h1 := name_ne_nil (mark := 46) u0
  have h2 : ∀ k ∈ nameOf u 46, k ≠ 60 := by
   intro k hk e; subst e
   have hs := segs_ab 46 u
   have : (60 : Nat) ∈ glueL [46] (segs 46 u) := hk
   have gen : ∀ xs : List (List Nat), (∀ x ∈ xs, x = [97] ∨ x = [97, 98]) → (60 : Nat) ∉ glueL [46] xs := by
    intro xs hx hm
    match xs with
    | [] => simp [glueL] at hm
    | x :: r =>
     simp only [glueL, List.mem_append, List.mem_flatMap, List.mem_flatten, List.mem_map] at hm
     rcases hm with hm | hm
     ·rcases hx x List.mem_cons_self with rfl | rfl <;> simp at hm
     ·obtain ⟨y, hy, hm⟩ := hm
      have := hx y (List.mem_cons_of_mem _ hy)
      rcases this with rfl | rfl <;> simp at hm
   exact gen _ hs this
  match hq : nameOf u 46, h1 with
  | a :: r, _ =>
   rw [hq] at h2 e
   have ha := h2 a List.mem_cons_self
   simp only [at?, List.find?_cons, List.find?_nil] at e
   have : decide (str [60, 115, 116, 114, 105, 110, 103, 62] = str (a :: r)) = false := by
    apply decide_eq_false
    intro e3
    have e4 := congrArg (fun s => s.cps.toList) e3
    simp only [str] at e4
    simp at e4
    exact ha e4.1.symm
   rw [this] at e
   cases e⟩
noncomputable def behindOf (a b : List Nat) : List Nat := a.map fun k => b.getD (k - 48) 0
noncomputable def mapOf (M : List Nat × List Nat) (s : Nat) : List Nat := if s = 34 then M.1 else M.2
noncomputable def IsWhole (a : List Nat) : Prop := a.length = 3 ∧ digits a
theorem behindOf_whole {a b : List Nat} (ha : IsWhole a) (hb : IsWhole b) : IsWhole (behindOf a b) := by
 refine ⟨by simp -iota [behindOf, ha.1], fun k hk => ?_⟩
 obtain ⟨x, hx, rfl⟩ := List.mem_map.mp hk
 have hx2 := ha.2 x hx
 have : x - 48 < b.length := by have := hb.1; lia
 rw [List.getD_eq_getElem?_getD, List.getElem?_eq_getElem this]
 exact hb.2 _ (List.getElem_mem this)
noncomputable abbrev PM := List (List Nat × List Nat)
noncomputable def look (xs : PM) (k : List Nat) : Option (List Nat) := (xs.find? fun p => decide (p.1 = k)).map (·.2)
noncomputable def dm (xs : PM) : DM Str := xs.map fun p => (str p.1, .str p.2)
theorem str_eq {a b : List Nat} : str a = str b ↔ a = b := by
 constructor
 ·intro h
  have := congrArg (fun s => s.cps.toList) h
  simpa -iota [str] using this
 ·rintro rfl; rfl
theorem at?_dm (xs : PM) (k : List Nat) : at? (dm xs) (str k) = (look xs k).map .str := by
 induction xs with
 | nil => rfl
 | cons p r ih =>
  unfold at? dm look at *
  simp only [List.map_cons, List.find?_cons, str_eq]
  by_cases e : p.1 = k
  ·simp [e]
  ·simp only [e, decide_false]
   exact ih
theorem look_none {xs : PM} {k : List Nat} : look xs k = none ↔ k ∉ xs.map (·.1) := by
 unfold look
 rw [Option.map_eq_none_iff, List.find?_eq_none]
 simp -iota only [List.mem_map, decide_eq_true_eq]
 constructor
 ·rintro h ⟨p, hp, rfl⟩; exact h p hp rfl
 ·rintro h p hp e; exact h ⟨p, hp, e⟩
theorem look_some {xs : PM} {k v : List Nat} (h : look xs k = some v) : (k, v) ∈ xs := by
 unfold look at h
 rw [Option.map_eq_some_iff] at h
 obtain ⟨⟨a, b⟩, hp, rfl⟩ := h
 have h1 := List.mem_of_find?_eq_some hp
 have h2 := List.find?_some hp
 simp -iota at h2
 subst h2; exact h1
theorem look_in {xs : PM} (hn : (xs.map (·.1)).Nodup) {k v : List Nat} (h : (k, v) ∈ xs) : look xs k = some v := by
 induction xs with
 | nil => cases h
 | cons p r ih =>
  rw [List.map_cons, List.nodup_cons] at hn
  rcases List.mem_cons.mp h with rfl | h
  ·simp -iota [look]
  ·have : p.1 ≠ k := fun e => hn.1 (List.mem_map.mpr ⟨(k, v), h, e.symm⟩)
   have h3 := ih hn.2 h
   unfold look at h3 ⊢
   rw [List.find?_cons]
   simp -iota only [this, decide_false]
   exact h3
theorem dm_app (xs ys : PM) : dm (xs ++ ys) = dm xs ++ dm ys := by simp -iota [dm]
theorem dm_put {xs : PM} {k v : List Nat} (h : look xs k = none) : putAt (dm xs) (str k) (.str v) = dm (xs ++ [(k, v)]) := by
 rw [putAt_new (by rw [at?_dm, h]; rfl), dm_app]; rfl
structure KS where
 rs : List Rule
 kp : PM
 md : PM
 pb : List (List Nat)
noncomputable def KS.start : KS := ⟨[], [], [([], [48, 49, 50])], [[34], [92]]⟩
noncomputable def wholeOf (M : List Nat × List Nat) (md : PM) (w : List Nat) : List Nat := behindOf ((look md w.dropLast).getD []) (mapOf M (w.getLastD 0))
noncomputable def KS.turn (M : List Nat × List Nat) (s : KS) (w : List Nat) (pb : List (List Nat)) : KS :=
 if asks s.rs w then { s with pb := pb } else
  match look s.kp (wholeOf M s.md w) with
  | some u => { s with rs := s.rs ++ [(w, u)], md := s.md ++ [(w, wholeOf M s.md w)], pb := pb }
  | none => { s with kp := s.kp ++ [(wholeOf M s.md w, w)], md := s.md ++ [(w, wholeOf M s.md w)], pb := pb ++ [w ++ [34], w ++ [92]] }
structure KI (M : List Nat × List Nat) (s : KS) : Prop where
 signs : ∀ x ∈ s.pb, IsSigns x ∧ x ≠ [] ∧ x.length ≤ s.kp.length + 1 ∧ x.dropLast ∈ s.md.map (·.1) ∧ x ∉ s.md.map (·.1)
 nodup : s.pb.Nodup
 sort : s.pb.Pairwise fun x y => x.length ≤ y.length
 near : ∀ x ∈ s.pb, ∀ y ∈ s.pb, y.length ≤ x.length + 1
 kept : ∀ p ∈ s.kp, IsWhole p.1 ∧ IsSigns p.2 ∧ (∀ x ∈ s.pb, p.2.length ≤ x.length) ∧ p.2.length ≤ s.kp.length
 keys : (s.kp.map (·.1)).Nodup
 made : ∀ p ∈ s.md, IsWhole p.2
 rules : RulesOk s.rs
 rlen : ∀ r ∈ s.rs, r.1.length ≤ s.kp.length + 1 ∧ r.1 ∈ s.md.map (·.1)
 mlen : s.md.length = 1 + s.rs.length + s.kp.length
 size : s.rs.length + s.pb.length ≤ s.kp.length + 2
 old : ∀ x ∈ s.pb, ∀ y ∈ s.md.map (·.1), y.length ≤ x.length
theorem KI.start (M : List Nat × List Nat) : KI M KS.start := by
 refine ⟨?_, by decide, by decide, by decide, by simp -iota [KS.start], by decide, ?_, by simp -iota [KS.start, RulesOk], by simp -iota [KS.start], rfl, by decide, by decide⟩
 ·intro x hx
  simp -iota [KS.start] at hx
  rcases hx with rfl | rfl <;> simp -iota [KS.start, IsSigns]
 ·intro p hp
  simp -iota [KS.start] at hp
  subst hp
  exact ⟨rfl, by intro k hk; simp -iota at hk; lia⟩
noncomputable def wholes : List (List Nat) := [48, 49, 50].flatMap fun a => [48, 49, 50].flatMap fun b => [48, 49, 50].map fun c => [a, b, c]
theorem three {a : List Nat} (h : a.length = 3) : ∃ x y z, a = [x, y, z] := by
 cases a with | nil => cases h | cons x a => cases a with | nil => cases h | cons y a => cases a with | nil => cases h | cons z a => cases a with | nil => exact ⟨x, y, z, rfl⟩ | cons t a => cases h
theorem sg3 {x : Nat} (h : 48 ≤ x ∧ x < 51) : x = 48 ∨ x = 49 ∨ x = 50 := by lia
theorem wholes_all {a : List Nat} (h : IsWhole a) : a ∈ wholes := by
 obtain ⟨h1, h2⟩ := h
 obtain ⟨x, y, z, rfl⟩ := three h1
 rcases sg3 (h2 x List.mem_cons_self) with rfl | rfl | rfl <;> rcases sg3 (h2 y (List.mem_cons_of_mem _ List.mem_cons_self)) with rfl | rfl | rfl <;>
  rcases sg3 (h2 z (List.mem_cons_of_mem _ (List.mem_cons_of_mem _ List.mem_cons_self))) with rfl | rfl | rfl <;> decide
theorem nodup_le {α : Type} [DecidableEq α] : ∀ {xs ys : List α}, xs.Nodup → (∀ x ∈ xs, x ∈ ys) → xs.length ≤ ys.length
 | [], ys, _, _ => Nat.zero_le _
 | x :: xs, ys, hn, h => by
  rw [List.nodup_cons] at hn
  have h1 := nodup_le (ys := ys.erase x) hn.2 fun y hy => (List.mem_erase_of_ne (fun e => hn.1 (by rw [← e]; exact hy))).mpr (h y (List.mem_cons_of_mem _ hy))
  have h2 := List.length_erase_of_mem (h x List.mem_cons_self)
  have h3 := List.length_pos_of_mem (h x List.mem_cons_self)
  rw [List.length_cons]; lia
theorem KI.few {M : List Nat × List Nat} {s : KS} (X : KI M s) : s.kp.length ≤ 27 := by
 have h1 : (s.kp.map (·.1)) ⊆ wholes := by
  intro a ha
  obtain ⟨p, hp, rfl⟩ := List.mem_map.mp ha
  exact wholes_all (X.kept p hp).1
 have := nodup_le X.keys h1
 have h9 : wholes.length = 27 := by decide
 simp -iota only [List.length_map] at this
 lia
theorem wholeOf_whole {M : List Nat × List Nat} (m1 : IsWhole M.1) (m2 : IsWhole M.2) {s : KS} (X : KI M s) {w : List Nat} (h : w.dropLast ∈ s.md.map (·.1)) : IsWhole (wholeOf M s.md w) := by
 unfold wholeOf
 have hm : IsWhole (mapOf M (w.getLastD 0)) := by unfold mapOf; split <;> assumption
 match hl : look s.md w.dropLast with
 | none => exact (look_none.mp hl h).elim
 | some v => exact behindOf_whole (X.made _ (look_some hl)) hm
theorem KI.tail {M : List Nat × List Nat} {s : KS} {w : List Nat} {pb : List (List Nat)} (X : KI M s) (e : s.pb = w :: pb) : KI M { s with pb := pb } := by
 have hs : ∀ x ∈ pb, x ∈ s.pb := fun x hx => by rw [e]; exact List.mem_cons_of_mem _ hx
 have hn := X.nodup
 have ho := X.sort
 rw [e] at hn ho
 refine ⟨fun x hx => X.signs x (hs x hx), (List.nodup_cons.mp hn).2, (List.pairwise_cons.mp ho).2, fun x hx y hy => X.near x (hs x hx) y (hs y hy), fun p hp => ?_, X.keys, X.made, X.rules, X.rlen, X.mlen, ?_, fun x hx => X.old x (hs x hx)⟩
 ·obtain ⟨a, b, c, d⟩ := X.kept p hp
  exact ⟨a, b, fun x hx => c x (hs x hx), d⟩
 ·have := X.size
  rw [e, List.length_cons] at this
  show s.rs.length + pb.length ≤ s.kp.length + 2
  lia
set_option tactic.hygienic true in
theorem KI.turn {M : List Nat × List Nat} (m1 : IsWhole M.1) (m2 : IsWhole M.2) {s : KS} {w : List Nat} {pb : List (List Nat)} (X : KI M s) (e : s.pb = w :: pb) : KI M (s.turn M w pb) := by
 have X2 := X.tail e
 have hw : w ∈ s.pb := by rw [e]; exact List.mem_cons_self
 have hs : ∀ x ∈ pb, x ∈ s.pb := fun x hx => by rw [e]; exact List.mem_cons_of_mem _ hx
 obtain ⟨w1, w2, w3, w4, w5⟩ := X.signs w hw
 have hv := wholeOf_whole m1 m2 X w4
 have hn := X.nodup
 have ho := X.sort
 rw [e] at hn ho
 have hn' := List.nodup_cons.mp hn
 have ho' := List.pairwise_cons.mp ho
 have hsz := X.size
 rw [e, List.length_cons] at hsz
 have hml := X.mlen
 unfold KS.turn
 split
 ·exact X2
 ·split
  ·rename_i u hu
   have hk := X.kept _ (look_some hu)
   refine ⟨fun x hx => ?_, hn'.2, ho'.2, fun x hx y hy => X.near x (hs x hx) y (hs y hy), X2.kept, X.keys, fun p hp => ?_, fun r hr => ?_, fun r hr => ?_, ?_, ?_, fun x hx y hy => ?_⟩
   ·obtain ⟨a, b, c, d, f⟩ := X.signs x (hs x hx)
    refine ⟨a, b, c, ?_, ?_⟩
    ·rw [List.map_append]; exact List.mem_append_left _ d
    ·rw [List.map_append]; intro hm
     rcases List.mem_append.mp hm with hm | hm
     ·exact f hm
     ·simp -iota at hm; subst hm; exact hn'.1 hx
   ·rcases List.mem_append.mp hp with hp | hp
    ·exact X.made p hp
    ·simp -iota at hp; subst hp; exact hv
   ·rcases List.mem_append.mp hr with hr | hr
    ·exact X.rules r hr
    ·simp -iota at hr; subst hr; exact ⟨w1, w2, hk.2.2.1 w hw⟩
   ·rcases List.mem_append.mp hr with hr | hr
    ·have := X.rlen r hr
     exact ⟨this.1, by rw [List.map_append]; exact List.mem_append_left _ this.2⟩
    ·simp -iota at hr; subst hr; exact ⟨w3, by simp⟩
   ·simp -iota; lia
   ·simp -iota; lia
   ·rw [List.map_append] at hy
    rcases List.mem_append.mp hy with hy | hy
    ·exact X.old x (hs x hx) y hy
    ·simp -iota at hy; subst hy; exact ho'.1 x hx
  ·rename_i hu
   have hu' := look_none.mp hu
   have lw : ∀ x ∈ pb, w.length ≤ x.length := ho'.1
   have nw : ∀ x ∈ pb, x.length ≤ w.length + 1 := fun x hx => X.near w hw x (hs x hx)
   have fresh : ∀ k, w ++ [k] ∉ pb ∧ w ++ [k] ∉ s.md.map (·.1) := by
    intro k
    refine ⟨fun hm => ?_, fun hm => ?_⟩
    ·obtain ⟨_, _, _, d, _⟩ := X.signs _ (hs _ hm)
     rw [List.dropLast_concat] at d
     exact w5 d
    ·have := X.old w hw _ hm
     simp -iota at this
     lia
   refine ⟨fun x hx => ?_, ?_, ?_, fun x hx y hy => ?_, fun p hp => ?_, ?_, fun p hp => ?_, X.rules, fun r hr => ?_, ?_, ?_, fun x hx y hy => ?_⟩
   ·rcases List.mem_append.mp hx with hx1 | hx
    ·obtain ⟨a, b, c, d, f⟩ := X.signs x (hs x hx1)
     refine ⟨a, b, by simp -iota; lia, ?_, ?_⟩
     ·rw [List.map_append]; exact List.mem_append_left _ d
     ·rw [List.map_append]; intro hm
      rcases List.mem_append.mp hm with hm | hm
      ·exact f hm
      ·simp -iota at hm; subst hm; exact hn'.1 hx1
    ·have : ∃ k, (k = 34 ∨ k = 92) ∧ x = w ++ [k] := by
      simp -iota at hx
      rcases hx with rfl | rfl
      ·exact ⟨34, .inl rfl, rfl⟩
      ·exact ⟨92, .inr rfl, rfl⟩
     obtain ⟨k, hk, rfl⟩ := this
     refine ⟨w1.app (by intro j hj; simp -iota at hj; subst hj; exact hk), by simp, by simp -iota; lia, by simp, ?_⟩
     rw [List.map_append]; intro hm
     rcases List.mem_append.mp hm with hm | hm
     ·exact (fresh k).2 hm
     ·simp -iota at hm
   ·rw [List.nodup_append]
    refine ⟨hn'.2, by simp, fun x hx y hy => ?_⟩
    rintro rfl
    simp -iota at hy
    rcases hy with rfl | rfl
    ·exact (fresh 34).1 hx
    ·exact (fresh 92).1 hx
   ·rw [List.pairwise_append]
    refine ⟨ho'.2, by simp, fun x hx y hy => ?_⟩
    have := nw x hx
    simp -iota at hy
    rcases hy with rfl | rfl <;> simp -iota <;> lia
   ·have hlen : ∀ z ∈ pb ++ [w ++ [34], w ++ [92]], w.length ≤ z.length ∧ z.length ≤ w.length + 1 := by
     intro z hz
     rcases List.mem_append.mp hz with hz | hz
     ·exact ⟨lw z hz, nw z hz⟩
     ·simp -iota at hz
      rcases hz with rfl | rfl <;> simp -iota
    have := hlen x hx
    have := hlen y hy
    lia
   ·rcases List.mem_append.mp hp with hp | hp
    ·obtain ⟨a, b, c, d⟩ := X.kept p hp
     refine ⟨a, b, fun x hx => ?_, by simp -iota; lia⟩
     rcases List.mem_append.mp hx with hx | hx
     ·exact c x (hs x hx)
     ·have := c w hw
      simp -iota at hx
      rcases hx with rfl | rfl <;> simp -iota <;> lia
    ·simp -iota at hp; subst hp
     refine ⟨hv, w1, fun x hx => ?_, by simp -iota; lia⟩
     rcases List.mem_append.mp hx with hx | hx
     ·exact lw x hx
     ·simp -iota at hx
      rcases hx with rfl | rfl <;> simp -iota
   ·rw [List.map_append, List.nodup_append]
    refine ⟨X.keys, by simp, fun x hx y hy => ?_⟩
    rintro rfl
    simp -iota at hy
    subst hy
    exact hu' hx
   ·rcases List.mem_append.mp hp with hp | hp
    ·exact X.made p hp
    ·simp -iota at hp; subst hp; exact hv
   ·have := X.rlen r hr
    refine ⟨by simp -iota; lia, by rw [List.map_append]; exact List.mem_append_left _ this.2⟩
   ·simp -iota; lia
   ·simp -iota; lia
   ·have hx2 : w.length ≤ x.length := by
     rcases List.mem_append.mp hx with hx | hx
     ·exact lw x hx
     ·simp -iota at hx
      rcases hx with rfl | rfl <;> simp -iota
    rw [List.map_append] at hy
    rcases List.mem_append.mp hy with hy | hy
    ·have := X.old w hw y hy; lia
    ·simp -iota at hy; subst hy; exact hx2
theorem KS.less (M : List Nat × List Nat) (s : KS) {w : List Nat} {pb : List (List Nat)} (X : KI M (s.turn M w pb)) (e : s.pb = w :: pb) : 3 * (27 - (s.turn M w pb).kp.length) + (s.turn M w pb).pb.length < 3 * (27 - s.kp.length) + s.pb.length := by
 have := X.few
 rw [e]
 revert this
 unfold KS.turn
 split
 ·intro _; simp -iota
 ·split
  ·intro _; simp -iota
  ·intro h; simp -iota at h ⊢; lia
inductive KReach (M : List Nat × List Nat) : KS → Prop
 | start : KReach M KS.start
 | turn {s : KS} {w : List Nat} {pb : List (List Nat)} : KReach M s → s.pb = w :: pb → KReach M (s.turn M w pb)
theorem KReach.ki {M : List Nat × List Nat} (m1 : IsWhole M.1) (m2 : IsWhole M.2) {s : KS} (x : KReach M s) : KI M s := by
 induction x with
 | start => exact KI.start M
 | turn _ e ih => exact ih.turn m1 m2 e
noncomputable def KS.rank (s : KS) : Nat := 3 * (27 - s.kp.length) + s.pb.length
structure FS where
 fi : PM
 lo : PM
noncomputable def FS.one (M : List Nat × List Nat) (sign : Nat) (s : FS) (e : List Nat × List Nat) : FS :=
 match look s.fi (behindOf (mapOf M sign) e.2) with
 | some _ => s
 | none => ⟨s.fi ++ [(behindOf (mapOf M sign) e.2, sign :: e.1)], s.lo ++ [(sign :: e.1, behindOf (mapOf M sign) e.2)]⟩
noncomputable def FS.row (M : List Nat × List Nat) (level : PM) (sign : Nat) (s : FS) : FS := level.foldl (FS.one M sign) s
noncomputable def FS.round (M : List Nat × List Nat) (fi level : PM) : FS := FS.row M level 92 (FS.row M level 34 ⟨fi, []⟩)
structure FI (b : Nat) (s : FS) : Prop where
 keys : (s.fi.map (·.1)).Nodup
 kept : ∀ p ∈ s.fi, IsWhole p.1 ∧ IsSigns p.2 ∧ p.2.length ≤ b
 lev : ∀ p ∈ s.lo, IsWhole p.2 ∧ IsSigns p.1 ∧ p.1.length ≤ b
 size : s.lo.length ≤ s.fi.length
theorem FI.few {b : Nat} {s : FS} (X : FI b s) : s.fi.length ≤ 27 := by
 have := nodup_le X.keys (ys := wholes) fun a ha => by
  obtain ⟨p, hp, rfl⟩ := List.mem_map.mp ha
  exact wholes_all (X.kept p hp).1
 have h9 : wholes.length = 27 := by decide
 simp -iota only [List.length_map] at this
 lia
theorem mapOf_whole {M : List Nat × List Nat} (m1 : IsWhole M.1) (m2 : IsWhole M.2) (k : Nat) : IsWhole (mapOf M k) := by unfold mapOf; split <;> assumption
set_option tactic.hygienic true in
theorem FI.one {M : List Nat × List Nat} (m1 : IsWhole M.1) (m2 : IsWhole M.2) {b : Nat} {s : FS} (X : FI (b + 1) s) {k : Nat} (hk : k = 34 ∨ k = 92) {e : List Nat × List Nat} (h1 : IsWhole e.2) (h2 : IsSigns e.1) (h3 : e.1.length ≤ b) : FI (b + 1) (FS.one M k s e) := by
 unfold FS.one
 have hw := behindOf_whole (mapOf_whole m1 m2 k) h1
 have hs : IsSigns (k :: e.1) := fun j hj => (List.mem_cons.mp hj).elim (fun e => e ▸ hk) (h2 j)
 split
 ·exact X
 ·rename_i hl
  refine ⟨?_, fun p hp => ?_, fun p hp => ?_, by have := X.size; simp -iota; lia⟩
  ·show List.Nodup (List.map _ _)
   rw [List.map_append, List.nodup_append]
   refine ⟨X.keys, by simp, fun x hx y hy => ?_⟩
   rintro rfl
   simp -iota at hy
   subst hy
   exact look_none.mp hl hx
  ·rcases List.mem_append.mp hp with hp | hp
   ·exact X.kept p hp
   ·simp -iota at hp; subst hp
    exact ⟨hw, hs, by simp -iota; lia⟩
  ·rcases List.mem_append.mp hp with hp | hp
   ·exact X.lev p hp
   ·simp -iota at hp; subst hp
    exact ⟨hw, hs, by simp -iota; lia⟩
theorem FI.row {M : List Nat × List Nat} (m1 : IsWhole M.1) (m2 : IsWhole M.2) {b : Nat} {k : Nat} (hk : k = 34 ∨ k = 92) : ∀ {level : PM} {s : FS}, FI (b + 1) s → (∀ p ∈ level, IsWhole p.2 ∧ IsSigns p.1 ∧ p.1.length ≤ b) → FI (b + 1) (FS.row M level k s)
 | [], s, X, _ => X
 | e :: r, s, X, h => by
  obtain ⟨h1, h2, h3⟩ := h e List.mem_cons_self
  exact FI.row (level := r) m1 m2 hk (X.one m1 m2 hk h1 h2 h3) fun p hp => h p (List.mem_cons_of_mem _ hp)
theorem FS.grow (M : List Nat × List Nat) (k : Nat) (s : FS) (e : List Nat × List Nat) : (FS.one M k s e).fi.length + s.lo.length = s.fi.length + (FS.one M k s e).lo.length := by
 unfold FS.one; split
 ·rfl
 ·simp -iota; lia
theorem FS.growR (M : List Nat × List Nat) (k : Nat) : ∀ (level : PM) (s : FS), (FS.row M level k s).fi.length + s.lo.length = s.fi.length + (FS.row M level k s).lo.length
 | [], s => rfl
 | e :: r, s => by
  have h1 := FS.grow M k s e
  have h2 := FS.growR M k r (FS.one M k s e)
  show (FS.row M r k (FS.one M k s e)).fi.length + _ = _ + (FS.row M r k (FS.one M k s e)).lo.length
  lia
theorem FS.growRound (M : List Nat × List Nat) (fi level : PM) : (FS.round M fi level).fi.length = fi.length + (FS.round M fi level).lo.length := by
 have h1 := FS.growR M 34 level ⟨fi, []⟩
 have h2 := FS.growR M 92 level (FS.row M level 34 ⟨fi, []⟩)
 unfold FS.round
 simp -iota at h1
 lia
inductive FReach (M : List Nat × List Nat) : Nat → FS → Prop
 | start : FReach M 0 ⟨[], [([], [48, 49, 50])]⟩
 | round {b : Nat} {s : FS} : FReach M b s → s.lo ≠ [] → FReach M (b + 1) (FS.round M s.fi s.lo)
structure FJ (b : Nat) (s : FS) : Prop where
 keys : (s.fi.map (·.1)).Nodup
 kept : ∀ p ∈ s.fi, IsWhole p.1 ∧ IsSigns p.2 ∧ p.2.length ≤ b
 lev : ∀ p ∈ s.lo, IsWhole p.2 ∧ IsSigns p.1 ∧ p.1.length ≤ b
 len : s.lo.length ≤ 27
 deep : s.lo ≠ [] → b ≤ s.fi.length
theorem FJ.few {b : Nat} {s : FS} (X : FJ b s) : s.fi.length ≤ 27 := FI.few (b := b) (s := ⟨s.fi, []⟩) ⟨X.keys, X.kept, fun p hp => (by cases hp), Nat.zero_le _⟩
theorem FJ.fi0 {b : Nat} {s : FS} (X : FJ b s) : FI (b + 1) ⟨s.fi, []⟩ := ⟨X.keys, fun p hp => ⟨(X.kept p hp).1, (X.kept p hp).2.1, Nat.le_succ_of_le (X.kept p hp).2.2⟩, fun p hp => (by cases hp), Nat.zero_le _⟩
set_option tactic.hygienic true in
theorem FReach.fj {M : List Nat × List Nat} (m1 : IsWhole M.1) (m2 : IsWhole M.2) {b : Nat} {s : FS} (x : FReach M b s) : FJ b s := by
 induction x with
 | start =>
  refine ⟨by simp, fun p hp => (by cases hp), fun p hp => ?_, by simp, fun u_ => Nat.zero_le _⟩
  simp -iota at hp; subst hp
  exact ⟨⟨rfl, (by intro k hk; simp -iota at hk; lia)⟩, (by intro k hk; cases hk), Nat.le_refl _⟩
 | round x hne ih =>
  have I := FI.row m1 m2 (.inr rfl) (FI.row m1 m2 (.inl rfl) ih.fi0 ih.lev) ih.lev
  refine ⟨I.keys, I.kept, I.lev, ?_, fun h => ?_⟩
  ·have := I.few
   have := I.size
   show (FS.row M _ 92 (FS.row M _ 34 _)).lo.length ≤ 27
   lia
  ·have h1 := FS.growRound M
   have h2 := ih.deep hne
   rename_i b s
   have h3 := h1 s.fi s.lo
   have h4 := List.length_pos_iff.mpr h
   lia
noncomputable def FS.rank (s : FS) : Nat := (27 - s.fi.length) + (if s.lo = [] then 0 else 1)
set_option tactic.hygienic true in
theorem FS.less {M : List Nat × List Nat} {b : Nat} {s : FS} (X : FJ b (FS.round M s.fi s.lo)) (h : s.lo ≠ []) : (FS.round M s.fi s.lo).rank < s.rank := by
 have h1 := FS.growRound M s.fi s.lo
 have h2 := X.few
 unfold FS.rank
 rw [if_neg h]
 split
 ·rename_i e; rw [e] at h1; simp -iota at h1; lia
 ·rename_i e
  have h4 := List.length_pos_iff.mpr e
  lia
noncomputable def place (u : List Nat) : Nat := u.foldl (fun a k => 2 * a + (if k = 34 then 1 else 2)) 0
theorem place_snoc (u : List Nat) (k : Nat) : place (u ++ [k]) = 2 * place u + (if k = 34 then 1 else 2) := by simp -iota [place]
theorem snoc_ind {α : Type} {P : List α → Prop} (h0 : P []) (h1 : ∀ u k, P u → P (u ++ [k])) : ∀ u, P u := by
 intro u
 rw [← List.reverse_reverse u]
 induction u.reverse with
 | nil => exact h0
 | cons a r ih => rw [List.reverse_cons]; exact h1 _ _ ih
theorem place_app (u : List Nat) : ∀ v, place (u ++ v) = 2 ^ v.length * place u + place v := by
 refine snoc_ind ?_ ?_
 ·simp -iota [place]
 ·intro v k ih
  rw [← List.append_assoc, place_snoc, place_snoc, ih, List.length_append, List.length_singleton, Nat.pow_succ, Nat.mul_add]
  have e : 2 ^ v.length * 2 * place u = 2 * (2 ^ v.length * place u) := by rw [Nat.mul_comm (2 ^ v.length) 2, Nat.mul_assoc]
  rw [e]; lia
theorem place_lo : ∀ u : List Nat, 2 ^ u.length ≤ place u + 1 := by
 refine snoc_ind ?_ ?_
 ·simp -iota
 ·intro v k ih
  rw [place_snoc, List.length_append, List.length_singleton, Nat.pow_succ]
  split <;> lia
theorem place_hi : ∀ u : List Nat, place u + 2 ≤ 2 ^ (u.length + 1) := by
 refine snoc_ind ?_ ?_
 ·simp -iota [place]
 ·intro v k ih
  have e : 2 ^ (v.length + 1 + 1) = 2 ^ (v.length + 1) * 2 := Nat.pow_succ ..
  rw [place_snoc, List.length_append, List.length_singleton, e]
  split <;> lia
theorem place_len {u v : List Nat} (h : place u ≤ place v) : u.length ≤ v.length := by
 rcases Nat.lt_or_ge v.length u.length with hl | hl
 ·have h1 := place_hi v
  have h2 := place_lo u
  have h3 : 2 ^ (v.length + 1) ≤ 2 ^ u.length := Nat.pow_le_pow_right (by decide) hl
  lia
 ·exact hl
theorem place_lt {u v : List Nat} (h : u.length < v.length) : place u < place v := by
 rcases Nat.lt_or_ge (place u) (place v) with hl | hl
 ·exact hl
 ·have := place_len hl; lia
theorem place_pre {u v : List Nat} (h : u <+: v) : place u ≤ place v := by
 rcases Nat.lt_or_ge u.length v.length with hl | hl
 ·exact Nat.le_of_lt (place_lt hl)
 ·rw [h.eq_of_length_le hl]; exact Nat.le_refl _
theorem IsSigns.pre {a b : List Nat} (x : IsSigns b) (h : a <+: b) : IsSigns a := fun k hk => x k (h.subset hk)
theorem IsSigns.suf {a b : List Nat} (x : IsSigns b) (h : a <:+ b) : IsSigns a := fun k hk => x k (h.subset hk)
theorem IsSigns.inf {a b : List Nat} (x : IsSigns b) (h : a <:+: b) : IsSigns a := fun k hk => x k (h.subset hk)
theorem place_inj' : ∀ (u : List Nat), ∀ v, IsSigns u → IsSigns v → place u = place v → u = v := by
 refine snoc_ind ?_ ?_
 ·intro v _ hv h
  rcases List.eq_nil_or_concat v with rfl | ⟨v, k, rfl⟩
  ·rfl
  ·rw [List.concat_eq_append, place_snoc] at h
   have : place [] = 0 := rfl
   rw [this] at h
   split at h <;> lia
 ·intro u k ih v hu hv h
  rcases List.eq_nil_or_concat v with rfl | ⟨v, j, rfl⟩
  ·rw [place_snoc] at h
   have : place [] = 0 := rfl
   rw [this] at h
   split at h <;> lia
  ·rw [List.concat_eq_append] at hv h ⊢
   rw [place_snoc, place_snoc] at h
   have hk := hu k (by simp -iota)
   have hj := hv j (by simp -iota)
   have hu' : IsSigns u := hu.pre (List.prefix_append _ _)
   have hv' : IsSigns v := hv.pre (List.prefix_append _ _)
   have : k = j := by rcases hk with rfl | rfl <;> rcases hj with rfl | rfl <;> simp -iota at h ⊢ <;> lia
   subst this
   rw [ih v hu' hv' (by lia)]
theorem place_inj {u v : List Nat} (a : IsSigns u) (b : IsSigns v) (h : place u = place v) : u = v := place_inj' u v a b h
theorem place_ctx {x y y' z : List Nat} (h : place y' < place y) : place (x ++ y' ++ z) < place (x ++ y ++ z) := by
 have hl := place_len (Nat.le_of_lt h)
 rw [place_app, place_app, place_app (x ++ y), place_app x y]
 have h1 : 2 ^ y'.length * place x ≤ 2 ^ y.length * place x := Nat.mul_le_mul_right _ (Nat.pow_le_pow_right (by decide) hl)
 have h2 : 2 ^ y'.length * place x + place y' < 2 ^ y.length * place x + place y := by lia
 have := Nat.mul_lt_mul_of_pos_left h2 (Nat.pow_pos (n := z.length) (show 0 < 2 by decide))
 lia
theorem place_pos {u : List Nat} (h : u ≠ []) : 0 < place u := by
 have := place_lt (u := []) (v := u) (List.length_pos_iff.mpr h)
 exact Nat.lt_of_le_of_lt (Nat.zero_le _) this
noncomputable def ev (M : List Nat × List Nat) (w : List Nat) : List Nat := w.foldl (fun a s => behindOf a (mapOf M s)) [48, 49, 50]
theorem whole_id : IsWhole [48, 49, 50] := ⟨rfl, (by intro k hk; simp -iota at hk; lia)⟩
theorem behindOf_assoc {a b : List Nat} (c : List Nat) (ha : IsWhole a) (hb : IsWhole b) : behindOf (behindOf a b) c = behindOf a (behindOf b c) := by
 unfold behindOf
 rw [List.map_map]
 refine List.map_congr_left fun k hk => ?_
 have := ha.2 k hk
 have h1 : k - 48 < b.length := by have := hb.1; lia
 simp -iota only [Function.comp]
 have e1 : b.getD (k - 48) 0 = b[k - 48] := by rw [List.getD_eq_getElem?_getD, List.getElem?_eq_getElem h1]; rfl
 have e2 : (b.map fun k => c.getD (k - 48) 0).getD (k - 48) 0 = c.getD (b[k - 48] - 48) 0 := by rw [List.getD_eq_getElem?_getD, List.getElem?_map, List.getElem?_eq_getElem h1]; rfl
 rw [e1, e2]
theorem behindOf_id {b : List Nat} (hb : IsWhole b) : behindOf [48, 49, 50] b = b := by
 obtain ⟨x, y, z, rfl⟩ := three hb.1
 rfl
theorem behindOf_id' {a : List Nat} (ha : IsWhole a) : behindOf a [48, 49, 50] = a := by
 obtain ⟨h1, h2⟩ := ha
 obtain ⟨x, y, z, rfl⟩ := three h1
 rcases sg3 (h2 x List.mem_cons_self) with rfl | rfl | rfl <;> rcases sg3 (h2 y (List.mem_cons_of_mem _ List.mem_cons_self)) with rfl | rfl | rfl <;>
  rcases sg3 (h2 z (List.mem_cons_of_mem _ (List.mem_cons_of_mem _ List.mem_cons_self))) with rfl | rfl | rfl <;> rfl
theorem ev_snoc (M : List Nat × List Nat) (w : List Nat) (k : Nat) : ev M (w ++ [k]) = behindOf (ev M w) (mapOf M k) := by simp -iota [ev]
section
variable {M : List Nat × List Nat} (m1 : IsWhole M.1) (m2 : IsWhole M.2)
include m1 m2
theorem ev_whole : ∀ w, IsWhole (ev M w) := by
 refine snoc_ind whole_id ?_
 intro u k ih
 rw [ev_snoc]; exact behindOf_whole ih (mapOf_whole m1 m2 k)
theorem ev_app (u : List Nat) : ∀ v, ev M (u ++ v) = behindOf (ev M u) (ev M v) := by
 refine snoc_ind ?_ ?_
 ·rw [List.append_nil]; exact (behindOf_id' (ev_whole m1 m2 u)).symm
 ·intro v k ih
  rw [← List.append_assoc, ev_snoc, ev_snoc, ih, behindOf_assoc _ (ev_whole m1 m2 u) (ev_whole m1 m2 v)]
theorem ev_one (k : Nat) : ev M [k] = mapOf M k := behindOf_id (mapOf_whole m1 m2 k)
theorem ev_cons (k : Nat) (w : List Nat) : ev M (k :: w) = behindOf (mapOf M k) (ev M w) := by
 rw [← ev_one m1 m2 k, ← ev_app m1 m2]; rfl
theorem ev_mid {y y' : List Nat} (x z : List Nat) (h : ev M y = ev M y') : ev M (x ++ y ++ z) = ev M (x ++ y' ++ z) := by
 rw [ev_app m1 m2, ev_app m1 m2, ev_app m1 m2 (x ++ y'), ev_app m1 m2 x y', h]
end
noncomputable def Least (M : List Nat × List Nat) (w : List Nat) : Prop := IsSigns w ∧ w ≠ [] ∧ ∀ v, IsSigns v → v ≠ [] → ev M v = ev M w → place w ≤ place v
noncomputable abbrev Least0 (M : List Nat × List Nat) (w : List Nat) : Prop := w = [] ∨ Least M w
theorem least_uniq {M : List Nat × List Nat} {u v : List Nat} (x : Least M u) (y : Least M v) (h : ev M u = ev M v) : u = v :=
 place_inj x.1 y.1 (Nat.le_antisymm (x.2.2 v y.1 y.2.1 h.symm) (y.2.2 u x.1 x.2.1 h))
theorem least_exists {M : List Nat × List Nat} : ∀ (n : Nat) (w : List Nat), place w ≤ n → IsSigns w → w ≠ [] → ∃ u, Least M u ∧ ev M u = ev M w ∧ place u ≤ place w
 | 0, w, hn, hw, h0 => absurd (place_pos h0) (by lia)
 | n + 1, w, hn, hw, h0 => by
  by_cases hL : Least M w
  ·exact ⟨w, hL, rfl, Nat.le_refl _⟩
  ·have : ∃ v, IsSigns v ∧ v ≠ [] ∧ ev M v = ev M w ∧ place v < place w := by
    refine Classical.byContradiction fun hc => hL ⟨hw, h0, fun v hv v0 e => ?_⟩
    rcases Nat.lt_or_ge (place v) (place w) with h | h
    ·exact (hc ⟨v, hv, v0, e, h⟩).elim
    ·exact h
   obtain ⟨v, hv, v0, e, hlt⟩ := this
   obtain ⟨u, hu, e2, hle⟩ := least_exists n v (by lia) hv v0
   exact ⟨u, hu, e2.trans e, by lia⟩
theorem least_of {M : List Nat × List Nat} {w : List Nat} (hw : IsSigns w) (h0 : w ≠ []) : ∃ u, Least M u ∧ ev M u = ev M w ∧ place u ≤ place w := least_exists _ w (Nat.le_refl _) hw h0
section
variable {M : List Nat × List Nat} (m1 : IsWhole M.1) (m2 : IsWhole M.2)
include m1 m2
theorem least_mid {x y z : List Nat} (h : Least M (x ++ y ++ z)) (h0 : y ≠ []) : Least M y := by
 refine ⟨h.1.inf ⟨x, z, rfl⟩, h0, fun v hv v0 e => ?_⟩
 rcases Nat.lt_or_ge (place v) (place y) with hl | hl
 ·have h1 := h.2.2 (x ++ v ++ z) ((IsSigns.app (h.1.inf ⟨[], y ++ z, by simp⟩) hv).app (h.1.inf ⟨x ++ y, [], by simp⟩)) (by simp -iota [v0]) (ev_mid m1 m2 x z e)
  have h2 := place_ctx (x := x) (z := z) hl
  lia
 ·exact hl
theorem least_inf {y w : List Nat} (h : Least M w) (hi : y <:+: w) (h0 : y ≠ []) : Least M y := by
 obtain ⟨x, z, rfl⟩ := hi
 exact least_mid m1 m2 h h0
theorem least0_inf {y w : List Nat} (h : Least0 M w) (hi : y <:+: w) : Least0 M y := by
 by_cases h0 : y = []
 ·exact .inl h0
 ·rcases h with rfl | h
  ·exact .inl (List.infix_nil.mp hi)
  ·exact .inr (least_inf m1 m2 h hi h0)
end
noncomputable def Min (M : List Nat × List Nat) (w : List Nat) : Prop := IsSigns w ∧ w ≠ [] ∧ ¬ Least M w ∧ Least0 M w.dropLast ∧ Least0 M w.tail
theorem min_suffix {M : List Nat × List Nat} (m1 : IsWhole M.1) (m2 : IsWhole M.2) : ∀ {w : List Nat}, IsSigns w → w ≠ [] → ¬ Least M w → Least0 M w.dropLast → ∃ l, Min M l ∧ l <:+ w
 | [], _, h0, _, _ => (h0 rfl).elim
 | a :: w, hs, h0, hn, hd => by
  by_cases hw : Least0 M w
  ·exact ⟨a :: w, ⟨hs, h0, hn, hd, hw⟩, List.suffix_refl _⟩
  ·have w0 : w ≠ [] := fun e => hw (.inl e)
   have hd' : Least0 M w.dropLast := least0_inf m1 m2 hd (by
    rw [List.dropLast_cons_of_ne_nil w0]
    exact (List.suffix_cons _ _).isInfix)
   obtain ⟨l, hl, hs'⟩ := min_suffix m1 m2 (hs.suf (List.suffix_cons _ _)) w0 (fun q => hw (.inr q)) hd'
   exact ⟨l, hl, hs'.trans (List.suffix_cons _ _)⟩
theorem min_inf {M : List Nat × List Nat} (m1 : IsWhole M.1) (m2 : IsWhole M.2) : ∀ (w : List Nat), IsSigns w → w ≠ [] → ¬ Least M w → ∃ l, Min M l ∧ l <:+: w := by
 refine snoc_ind (P := fun w => IsSigns w → w ≠ [] → ¬ Least M w → ∃ l, Min M l ∧ l <:+: w) (fun u_ h0 u_ => (h0 rfl).elim) ?_
 intro u k ih hs h0 hn
 by_cases hu : Least0 M u
 ·obtain ⟨l, hl, hs'⟩ := min_suffix m1 m2 hs h0 hn (by rw [List.dropLast_concat]; exact hu)
  exact ⟨l, hl, hs'.isInfix⟩
 ·obtain ⟨l, hl, hi⟩ := ih (hs.pre (List.prefix_append _ _)) (fun e => hu (.inl e)) (fun q => hu (.inr q))
  exact ⟨l, hl, hi.trans (List.prefix_append _ _).isInfix⟩
structure KL (M : List Nat × List Nat) (s : KS) : Prop where
 sort : s.pb.Pairwise fun x y => place x < place y
 par : ∀ x ∈ s.pb, IsSigns x ∧ x ≠ [] ∧ (x.dropLast = [] ∨ x.dropLast ∈ s.kp.map (·.2))
 old : ∀ x ∈ s.pb, ∀ p ∈ s.kp, place p.2 < place x
 olr : ∀ x ∈ s.pb, ∀ r ∈ s.rs, place r.1 < place x
 kp : ∀ p ∈ s.kp, Least M p.2 ∧ p.1 = ev M p.2
 kps : s.kp.Pairwise fun p q => place p.2 < place q.2
 rs : ∀ r ∈ s.rs, Min M r.1 ∧ Least M r.2 ∧ ev M r.2 = ev M r.1
 rss : s.rs.Pairwise fun p q => place p.1 < place q.1
 md : ∀ p ∈ s.md, p.2 = ev M p.1
 allk : ∀ w, Least M w → w ∈ s.kp.map (·.2) ∨ ∃ x ∈ s.pb, x <+: w
 allr : ∀ w, Min M w → w ∈ s.rs.map (·.1) ∨ ∃ x ∈ s.pb, x <+: w
theorem asks_iff {rs : List Rule} {w : List Nat} : asks rs w = true ↔ ∃ r ∈ rs, r.1 <:+ w := by
 unfold asks; rw [List.any_eq_true]
 constructor
 ·rintro ⟨r, hr, h⟩; exact ⟨r, hr, of_decide_eq_true h⟩
 ·rintro ⟨r, hr, h⟩; exact ⟨r, hr, decide_eq_true h⟩
theorem suf_tail {r u : List Nat} (h : r <:+ u) (hq : r ≠ u) : r <:+ u.tail := by
 cases u with
 | nil => exact (hq (List.suffix_nil.mp h)).elim
 | cons a t =>
  rcases List.suffix_cons_iff.mp h with h | h
  ·exact (hq h).elim
  ·exact h
theorem tail_drop_inf {w : List Nat} (t0 : w.tail ≠ []) : w.tail.dropLast <:+: w.dropLast := by
 cases w with
 | nil => exact (t0 rfl).elim
 | cons a t =>
  have t1 : t ≠ [] := t0
  show t.dropLast <:+: (a :: t).dropLast
  rw [List.dropLast_cons_of_ne_nil t1]
  exact (List.suffix_cons _ _).isInfix
theorem first_sign {w : List Nat} (h : IsSigns w) (h0 : w ≠ []) : [34] <+: w ∨ [92] <+: w := by
 cases w with
 | nil => exact (h0 rfl).elim
 | cons a r =>
  rcases h a List.mem_cons_self with rfl | rfl
  ·exact .inl ⟨r, rfl⟩
  ·exact .inr ⟨r, rfl⟩
theorem KL.start (M : List Nat × List Nat) : KL M KS.start := by
 refine ⟨by decide, ?_, fun x u_ p hp => (by cases hp), fun x u_ p hp => (by cases hp), fun p hp => (by cases hp), by simp -iota [KS.start], fun p hp => (by cases hp), by simp -iota [KS.start], ?_, ?_, ?_⟩
 ·intro x hx
  simp -iota [KS.start] at hx
  rcases hx with rfl | rfl <;> simp -iota [KS.start, IsSigns]
 ·intro p hp
  simp -iota [KS.start] at hp
  subst hp; rfl
 ·intro w hw
  refine .inr ?_
  rcases first_sign hw.1 hw.2.1 with h | h
  ·exact ⟨_, by simp -iota [KS.start], h⟩
  ·exact ⟨_, by simp -iota [KS.start], h⟩
 ·intro w hw
  refine .inr ?_
  rcases first_sign hw.1 hw.2.1 with h | h
  ·exact ⟨_, by simp -iota [KS.start], h⟩
  ·exact ⟨_, by simp -iota [KS.start], h⟩
theorem pre_eq_or {w u : List Nat} (h : w <+: u) : u = w ∨ w <+: u.dropLast := by
 rcases List.eq_nil_or_concat u with rfl | ⟨v, k, rfl⟩
 ·left; exact (List.prefix_nil.mp h).symm
 ·rw [List.concat_eq_append] at h ⊢
  rw [List.dropLast_concat]
  rcases List.prefix_concat_iff.mp h with h | h
  ·left; rw [h]
  ·right; exact h
theorem pre_next {w u : List Nat} (h : w <+: u) (hu : IsSigns u) (hne : u ≠ w) : w ++ [34] <+: u ∨ w ++ [92] <+: u := by
 obtain ⟨t, rfl⟩ := h
 cases t with
 | nil => simp -iota at hne
 | cons k t =>
  rcases hu k (by simp -iota) with rfl | rfl
  ·left; exact ⟨t, by simp⟩
  ·right; exact ⟨t, by simp⟩
section
variable {M : List Nat × List Nat} (m1 : IsWhole M.1) (m2 : IsWhole M.2)
include m1 m2
theorem least_pre {w u : List Nat} (hu : Least M u) (h : w <+: u) (h0 : w ≠ []) : Least M w := least_inf m1 m2 hu h.isInfix h0
theorem min_pre {w u : List Nat} (hu : Min M u) (h : w <+: u) (h0 : w ≠ []) : u = w ∨ Least M w := by
 rcases pre_eq_or h with e | h2
 ·exact .inl e
 ·rcases hu.2.2.2.1 with e | hl
  ·rw [e] at h2; exact (h0 (List.prefix_nil.mp h2)).elim
  ·exact .inr (least_pre m1 m2 hl h2 h0)
theorem wholeOf_ev {s : KS} (I : KI M s) (X : KL M s) {w : List Nat} (hw : w ∈ s.pb) : wholeOf M s.md w = ev M w := by
 obtain ⟨w1, w2, w3, w4, w5⟩ := I.signs w hw
 unfold wholeOf
 match hl : look s.md w.dropLast with
 | none => exact (look_none.mp hl w4).elim
 | some v =>
  have e := X.md _ (look_some hl)
  simp -iota only at e
  rw [Option.getD_some, e]
  rcases List.eq_nil_or_concat w with rfl | ⟨v', k, rfl⟩
  ·exact (w2 rfl).elim
  ·rw [List.concat_eq_append, ev_snoc, List.dropLast_concat, List.getLastD_concat]
set_option tactic.hygienic true in
theorem KL.turn {s : KS} {w : List Nat} {pb : List (List Nat)} (I : KI M s) (X : KL M s) (e : s.pb = w :: pb) : KL M (s.turn M w pb) := by
 have hw : w ∈ s.pb := by rw [e]; exact List.mem_cons_self
 have hs : ∀ x ∈ pb, x ∈ s.pb := fun x hx => by rw [e]; exact List.mem_cons_of_mem _ hx
 have hev := wholeOf_ev m1 m2 I X hw
 obtain ⟨w1, w2, w3⟩ := X.par w hw
 have ho := X.sort
 rw [e] at ho
 have ho' := List.pairwise_cons.mp ho
 -- whatever is done is found, unless the word on turn begins it
 have allk : ∀ u, Least M u → u ∈ s.kp.map (·.2) ∨ (∃ x ∈ pb, x <+: u) ∨ w <+: u := fun u hu => by
  rcases X.allk u hu with h | ⟨x, hx, h⟩
  ·exact .inl h
  ·rw [e] at hx
   rcases List.mem_cons.mp hx with rfl | hx
   ·exact .inr (.inr h)
   ·exact .inr (.inl ⟨x, hx, h⟩)
 have allr : ∀ u, Min M u → u ∈ s.rs.map (·.1) ∨ (∃ x ∈ pb, x <+: u) ∨ w <+: u := fun u hu => by
  rcases X.allr u hu with h | ⟨x, hx, h⟩
  ·exact .inl h
  ·rw [e] at hx
   rcases List.mem_cons.mp hx with rfl | hx
   ·exact .inr (.inr h)
   ·exact .inr (.inl ⟨x, hx, h⟩)
 have par0 : Least0 M w.dropLast := by
  rcases w3 with h | h
  ·exact .inl h
  ·obtain ⟨p, hp, h⟩ := List.mem_map.mp h
   exact .inr (h ▸ (X.kp p hp).1)
 have small : ∀ u, Least M u → place u < place w → u ∈ s.kp.map (·.2) := fun u hu hl => by
  rcases X.allk u hu with h | ⟨x, hx, h⟩
  ·exact h
  ·exfalso
   have h1 := place_pre h
   rw [e] at hx
   rcases List.mem_cons.mp hx with rfl | hx
   ·lia
   ·have := ho'.1 x hx; lia
 have smallr : ∀ u, Min M u → place u < place w → u ∈ s.rs.map (·.1) := fun u hu hl => by
  rcases X.allr u hu with h | ⟨x, hx, h⟩
  ·exact h
  ·exfalso
   have h1 := place_pre h
   rw [e] at hx
   rcases List.mem_cons.mp hx with rfl | hx
   ·lia
   ·have := ho'.1 x hx; lia
 unfold KS.turn
 split
 ·rename_i ha
  obtain ⟨r, hr, hsuf⟩ := asks_iff.mp ha
  have hr' := (X.rs r hr).1
  have hnl : ¬ Least M w := fun hl => hr'.2.2.1 (least_inf m1 m2 hl hsuf.isInfix hr'.2.1)
  refine ⟨ho'.2, fun x hx => X.par x (hs x hx), fun x hx => X.old x (hs x hx), fun x hx => X.olr x (hs x hx), X.kp, X.kps, X.rs, X.rss, X.md, fun u hu => ?_, fun u hu => ?_⟩
  ·rcases allk u hu with h | h | h
   ·exact .inl h
   ·exact .inr h
   ·exact (hnl (least_pre m1 m2 hu h w2)).elim
  ·rcases allr u hu with h | h | h
   ·exact .inl h
   ·exact .inr h
   ·rcases min_pre m1 m2 hu h w2 with rfl | h2
    ·left
     by_cases hq : r.1 = u
     ·exact List.mem_map.mpr ⟨r, hr, hq⟩
     ·exfalso
      have h3 : r.1 <:+ u.tail := suf_tail hsuf hq
      rcases hu.2.2.2.2 with h4 | h4
      ·rw [h4] at h3; exact hr'.2.1 (List.suffix_nil.mp h3)
      ·exact hr'.2.2.1 (least_inf m1 m2 h4 h3.isInfix hr'.2.1)
    ·exact (hnl h2).elim
 ·rename_i ha
  have ha : ∀ r ∈ s.rs, ¬ r.1 <:+ w := fun r hr h => ha (asks_iff.mpr ⟨r, hr, h⟩)
  rw [hev]
  split
  ·rename_i u hu
   have hk := X.kp _ (look_some hu)
   simp -iota only at hk
   have hlt := X.old w hw _ (look_some hu)
   simp -iota only at hlt
   have hnl : ¬ Least M w := fun hl => by
    have := hl.2.2 u hk.1.1 hk.1.2.1 hk.2.symm
    lia
   have hmin : Min M w := by
    refine ⟨w1, w2, hnl, par0, ?_⟩
    refine Classical.byContradiction fun hc => ?_
    have t0 : w.tail ≠ [] := fun e => hc (.inl e)
    have hd : Least0 M w.tail.dropLast := least0_inf m1 m2 par0 (tail_drop_inf t0)
    obtain ⟨l, hl, hls⟩ := min_suffix m1 m2 (w1.suf (List.tail_suffix w)) t0 (fun q => hc (.inr q)) hd
    have hlen : l.length < w.length := by
     have := hls.length_le
     have h2 : w.tail.length < w.length := by rw [List.length_tail]; have := List.length_pos_iff.mpr w2; lia
     lia
    obtain ⟨r, hr, rfl⟩ := List.mem_map.mp (smallr l hl (place_lt hlen))
    exact ha r hr (hls.trans (List.tail_suffix w))
   refine ⟨ho'.2, fun x hx => X.par x (hs x hx), fun x hx => X.old x (hs x hx), fun x hx r hr => ?_, X.kp, X.kps, fun r hr => ?_, ?_, fun p hp => ?_, fun v hv => ?_, fun v hv => ?_⟩
   ·rcases List.mem_append.mp hr with hr | hr
    ·exact X.olr x (hs x hx) r hr
    ·simp -iota at hr; subst hr; exact ho'.1 x hx
   ·rcases List.mem_append.mp hr with hr | hr
    ·exact X.rs r hr
    ·simp -iota at hr; subst hr; exact ⟨hmin, hk.1, hk.2.symm⟩
   ·rw [List.pairwise_append]
    refine ⟨X.rss, by simp, fun p hp q hq => ?_⟩
    simp -iota at hq; subst hq
    exact X.olr w hw p hp
   ·rcases List.mem_append.mp hp with hp | hp
    ·exact X.md p hp
    ·simp -iota at hp; subst hp; rfl
   ·rcases allk v hv with h | h | h
    ·exact .inl h
    ·exact .inr h
    ·exact (hnl (least_pre m1 m2 hv h w2)).elim
   ·show v ∈ List.map _ _ ∨ _
    rw [List.map_append]
    rcases allr v hv with h | h | h
    ·exact .inl (List.mem_append_left _ h)
    ·exact .inr h
    ·rcases min_pre m1 m2 hv h w2 with rfl | h2
     ·left; simp -iota
     ·exact (hnl h2).elim
  ·rename_i hu
   have hu' := look_none.mp hu
   have hl : Least M w := by
    refine Classical.byContradiction fun hc => ?_
    obtain ⟨u, h1, h2, h3⟩ := least_of (M := M) w1 w2
    have hlt : place u < place w := by
     rcases Nat.lt_or_ge (place u) (place w) with h | h
     ·exact h
     ·have : u = w := place_inj h1.1 w1 (Nat.le_antisymm h3 h)
      rw [this] at h1
      exact (hc h1).elim
    obtain ⟨p, hp, rfl⟩ := List.mem_map.mp (small u h1 hlt)
    exact hu' (List.mem_map.mpr ⟨p, hp, (X.kp p hp).2.trans h2⟩)
   have nx : ∀ k, k = 34 ∨ k = 92 → place (w ++ [k]) = 2 * place w + (if k = 34 then 1 else 2) := fun k u_ => place_snoc w k
   have hpl : ∀ x ∈ pb, place x ≤ 2 * place w := fun x hx => by
    obtain ⟨x1, x2, x3⟩ := X.par x (hs x hx)
    rcases List.eq_nil_or_concat x with rfl | ⟨y, k, rfl⟩
    ·exact (x2 rfl).elim
    ·rw [List.concat_eq_append] at x3 ⊢
     rw [List.dropLast_concat] at x3
     rw [place_snoc]
     have : place y < place w := by
      rcases x3 with rfl | h
      ·exact place_pos w2
      ·obtain ⟨p, hp, rfl⟩ := List.mem_map.mp h
       exact X.old w hw p hp
     split <;> lia
   have isnew : ∀ x ∈ [w ++ [34], w ++ [92]], ∃ k, (k = 34 ∨ k = 92) ∧ x = w ++ [k] := fun x hx => by
    simp -iota at hx
    rcases hx with rfl | rfl
    ·exact ⟨34, .inl rfl, rfl⟩
    ·exact ⟨92, .inr rfl, rfl⟩
   have p34 : place (w ++ [34]) = 2 * place w + 1 := place_snoc w 34
   have p92 : place (w ++ [92]) = 2 * place w + 2 := place_snoc w 92
   have pnew : ∀ x ∈ [w ++ [34], w ++ [92]], 2 * place w < place x := fun x hx => by
    simp -iota at hx
    rcases hx with rfl | rfl <;> lia
   have wpos := place_pos w2
   refine ⟨?_, fun x hx => ?_, fun x hx p hp => ?_, fun x hx r hr => ?_, fun p hp => ?_, ?_, X.rs, X.rss, fun p hp => ?_, fun v hv => ?_, fun v hv => ?_⟩
   ·rw [List.pairwise_append]
    refine ⟨ho'.2, ?_, fun x hx y hy => ?_⟩
    ·simp -iota; lia
    ·have := hpl x hx
     have := pnew y hy
     lia
   ·show _ ∧ _ ∧ (_ ∨ _ ∈ List.map _ _)
    rw [List.map_append]
    rcases List.mem_append.mp hx with hx | hx
    ·obtain ⟨x1, x2, x3⟩ := X.par x (hs x hx)
     exact ⟨x1, x2, x3.imp id fun h => List.mem_append_left _ h⟩
    ·obtain ⟨k, hk, rfl⟩ := isnew x hx
     exact ⟨w1.app (by intro j hj; simp -iota at hj; subst hj; exact hk), by simp, .inr (by rw [List.dropLast_concat]; simp -iota)⟩
   ·have hx2 : place w < place x := by
     rcases List.mem_append.mp hx with hx | hx
     ·exact ho'.1 x hx
     ·have := pnew x hx; lia
    rcases List.mem_append.mp hp with hp | hp
    ·have := X.old w hw p hp; lia
    ·simp -iota at hp; subst hp; exact hx2
   ·have hx2 : place w < place x := by
     rcases List.mem_append.mp hx with hx | hx
     ·exact ho'.1 x hx
     ·have := pnew x hx; lia
    have := X.olr w hw r hr; lia
   ·rcases List.mem_append.mp hp with hp | hp
    ·exact X.kp p hp
    ·simp -iota at hp; subst hp; exact ⟨hl, rfl⟩
   ·rw [List.pairwise_append]
    refine ⟨X.kps, by simp, fun p hp q hq => ?_⟩
    simp -iota at hq; subst hq
    exact X.old w hw p hp
   ·rcases List.mem_append.mp hp with hp | hp
    ·exact X.md p hp
    ·simp -iota at hp; subst hp; rfl
   ·show v ∈ List.map _ _ ∨ _
    rw [List.map_append]
    rcases allk v hv with h | ⟨x, hx, h⟩ | h
    ·exact .inl (List.mem_append_left _ h)
    ·exact .inr ⟨x, List.mem_append_left _ hx, h⟩
    ·by_cases hq : v = w
     ·left; subst hq; simp -iota
     ·right
      rcases pre_next h hv.1 hq with h | h
      ·exact ⟨_, List.mem_append_right _ (by simp -iota), h⟩
      ·exact ⟨_, List.mem_append_right _ (by simp -iota), h⟩
   ·rcases allr v hv with h | ⟨x, hx, h⟩ | h
    ·exact .inl h
    ·exact .inr ⟨x, List.mem_append_left _ hx, h⟩
    ·by_cases hq : v = w
     ·subst hq; exact (hv.2.2.1 hl).elim
     ·right
      rcases pre_next h hv.1 hq with h | h
      ·exact ⟨_, List.mem_append_right _ (by simp -iota), h⟩
      ·exact ⟨_, List.mem_append_right _ (by simp -iota), h⟩
theorem KReach.kl {s : KS} (x : KReach M s) : KL M s := by
 induction x with
 | start => exact KL.start M
 | turn r e ih => exact ih.turn m1 m2 (r.ki m1 m2) e
end
structure FL (M : List Nat × List Nat) (b : Nat) (s : FS) : Prop where
 fi : ∀ p ∈ s.fi, Least M p.2 ∧ p.1 = ev M p.2 ∧ p.2.length ≤ b
 fis : s.fi.Pairwise fun p q => place p.2 < place q.2
 all : ∀ w, Least M w → w.length ≤ b → w ∈ s.fi.map (·.2)
 lo : ∀ p ∈ s.lo, Least0 M p.1 ∧ p.2 = ev M p.1 ∧ p.1.length = b ∧ IsSigns p.1
 los : s.lo.Pairwise fun p q => place p.1 < place q.1
 lall : ∀ w, Least0 M w → w.length = b → w ∈ s.lo.map (·.1)
structure FM (M : List Nat × List Nat) (b : Nat) (done : List (List Nat)) (s : FS) : Prop where
 fi : ∀ p ∈ s.fi, Least M p.2 ∧ p.1 = ev M p.2 ∧ (p.2.length ≤ b ∨ (p.2 ∈ done ∧ p.2.length = b + 1))
 fis : s.fi.Pairwise fun p q => place p.2 < place q.2
 all : ∀ w, Least M w → w.length ≤ b ∨ w ∈ done → w ∈ s.fi.map (·.2)
 lo : ∀ p ∈ s.lo, Least M p.1 ∧ p.2 = ev M p.1 ∧ p.1.length = b + 1 ∧ p.1 ∈ done
 los : s.lo.Pairwise fun p q => place p.1 < place q.1
 lall : ∀ w, Least M w → w.length = b + 1 → w ∈ done → w ∈ s.lo.map (·.1)
theorem place_cons (k : Nat) (t : List Nat) : place (k :: t) = 2 ^ t.length * (if k = 34 then 1 else 2) + place t := by
 have := place_app [k] t
 rw [List.singleton_append] at this
 rw [this]
 have e : place [k] = if k = 34 then 1 else 2 := by simp -iota [place]
 rw [e]
section
variable {M : List Nat × List Nat} (m1 : IsWhole M.1) (m2 : IsWhole M.2)
include m1 m2
set_option tactic.hygienic true in
theorem FM.one {b k : Nat} {done : List (List Nat)} {s : FS} {e : List Nat × List Nat} (X : FM M b done s) (hk : k = 34 ∨ k = 92) (h1 : IsSigns e.1) (h2 : e.2 = ev M e.1) (h3 : e.1.length = b)
  (hd : ∀ w ∈ done, place w < place (k :: e.1)) (hc : ∀ w, Least M w → w.length = b + 1 → place w < place (k :: e.1) → w ∈ done) : FM M b (done ++ [k :: e.1]) (FS.one M k s e) := by
 have hev : behindOf (mapOf M k) e.2 = ev M (k :: e.1) := by rw [h2, ev_cons m1 m2]
 have hs : IsSigns (k :: e.1) := fun j hj => (List.mem_cons.mp hj).elim (fun e => e ▸ hk) (h1 j)
 have hlen : (k :: e.1).length = b + 1 := by rw [List.length_cons, h3]
 unfold FS.one
 rw [hev]
 have old : ∀ p ∈ s.fi, place p.2 < place (k :: e.1) := fun p hp => by
  rcases (X.fi p hp).2.2 with h | h
  ·exact place_lt (by rw [hlen]; lia)
  ·exact hd _ h.1
 split
 ·rename_i v hv
  obtain ⟨v1, v2, v3⟩ := X.fi _ (look_some hv)
  have hlt := old _ (look_some hv)
  simp -iota only at v1 v2 hlt
  have hnl : ¬ Least M (k :: e.1) := fun hl => by
   have := hl.2.2 v v1.1 v1.2.1 v2.symm
   lia
  refine ⟨fun p hp => ?_, X.fis, fun w hw h => ?_, fun p hp => ?_, X.los, fun w hw hl h => ?_⟩
  ·obtain ⟨a, c, d⟩ := X.fi p hp
   exact ⟨a, c, d.imp id fun h => ⟨List.mem_append_left _ h.1, h.2⟩⟩
  ·refine X.all w hw (h.imp id fun h => ?_)
   rcases List.mem_append.mp h with h | h
   ·exact h
   ·simp -iota at h; subst h; exact (hnl hw).elim
  ·obtain ⟨a, c, d, f⟩ := X.lo p hp
   exact ⟨a, c, d, List.mem_append_left _ f⟩
  ·refine X.lall w hw hl ?_
   rcases List.mem_append.mp h with h | h
   ·exact h
   ·simp -iota at h; subst h; exact (hnl hw).elim
 ·rename_i hn
  have hn' := look_none.mp hn
  have hl : Least M (k :: e.1) := by
   refine Classical.byContradiction fun hc' => ?_
   obtain ⟨u, u1, u2, u3⟩ := least_of (M := M) hs (by simp -iota)
   have hlt : place u < place (k :: e.1) := by
    rcases Nat.lt_or_ge (place u) (place (k :: e.1)) with h | h
    ·exact h
    ·have : u = k :: e.1 := place_inj u1.1 hs (Nat.le_antisymm u3 h)
     rw [this] at u1
     exact (hc' u1).elim
   have hul := place_len u3
   rw [hlen] at hul
   have hin : u ∈ s.fi.map (·.2) := by
    rcases Nat.lt_or_ge u.length (b + 1) with h | h
    ·exact X.all u u1 (.inl (by lia))
    ·exact X.all u u1 (.inr (hc u u1 (by lia) hlt))
   obtain ⟨p, hp, rfl⟩ := List.mem_map.mp hin
   exact hn' (List.mem_map.mpr ⟨p, hp, (X.fi p hp).2.1.trans u2⟩)
  refine ⟨fun p hp => ?_, ?_, fun w hw h => ?_, fun p hp => ?_, ?_, fun w hw hl' h => ?_⟩
  ·rcases List.mem_append.mp hp with hp | hp
   ·obtain ⟨a, c, d⟩ := X.fi p hp
    exact ⟨a, c, d.imp id fun h => ⟨List.mem_append_left _ h.1, h.2⟩⟩
   ·simp -iota at hp; subst hp
    exact ⟨hl, rfl, .inr ⟨by simp, hlen⟩⟩
  ·rw [List.pairwise_append]
   refine ⟨X.fis, by simp, fun p hp q hq => ?_⟩
   simp -iota at hq; subst hq
   exact old p hp
  ·show w ∈ List.map _ _
   rw [List.map_append]
   rcases h with h | h
   ·exact List.mem_append_left _ (X.all w hw (.inl h))
   ·rcases List.mem_append.mp h with h | h
    ·exact List.mem_append_left _ (X.all w hw (.inr h))
    ·simp -iota at h; subst h; simp -iota
  ·rcases List.mem_append.mp hp with hp | hp
   ·obtain ⟨a, c, d, f⟩ := X.lo p hp
    exact ⟨a, c, d, List.mem_append_left _ f⟩
   ·simp -iota at hp; subst hp
    exact ⟨hl, rfl, hlen, by simp⟩
  ·rw [List.pairwise_append]
   refine ⟨X.los, by simp, fun p hp q hq => ?_⟩
   simp -iota at hq; subst hq
   obtain ⟨a, c, d, f⟩ := X.lo p hp
   exact hd _ f
  ·show w ∈ List.map _ _
   rw [List.map_append]
   rcases List.mem_append.mp h with h | h
   ·exact List.mem_append_left _ (X.lall w hw hl' h)
   ·simp -iota at h; subst h; simp -iota
theorem FM.row {b k : Nat} {done0 : List (List Nat)} {level : PM} (hk : k = 34 ∨ k = 92) (hl : ∀ p ∈ level, Least0 M p.1 ∧ p.2 = ev M p.1 ∧ p.1.length = b ∧ IsSigns p.1) (hls : level.Pairwise fun p q => place p.1 < place q.1)
  (hall : ∀ w, Least0 M w → w.length = b → w ∈ level.map (·.1)) (h0 : ∀ w ∈ done0, ∀ e ∈ level, place w < place (k :: e.1))
  (hc : ∀ e ∈ level, ∀ w, Least M w → w.length = b + 1 → place w < place (k :: e.1) → w ∈ done0 ∨ ∃ t, w = k :: t) :
  ∀ (post pre : PM) (s : FS), level = pre ++ post → FM M b (done0 ++ pre.map fun e => k :: e.1) s → FM M b (done0 ++ level.map fun e => k :: e.1) (FS.row M post k s) := by
 intro post
 induction post with
 | nil => intro pre s e X; rw [e, List.append_nil]; exact X
 | cons p post ih =>
  intro pre s e X
  have hp : p ∈ level := by rw [e]; simp -iota
  obtain ⟨a, c, d, f⟩ := hl p hp
  have hls' := List.pairwise_append.mp (e ▸ hls)
  refine ih (pre ++ [p]) _ (by rw [e]; simp -iota) ?_
  rw [List.map_append, ← List.append_assoc]
  refine X.one m1 m2 hk f c d (fun w hw => ?_) fun w hw hwl hlt => ?_
  ·rcases List.mem_append.mp hw with hw | hw
   ·exact h0 w hw p hp
   ·obtain ⟨q, hq, rfl⟩ := List.mem_map.mp hw
    have h5 := hls'.2.2 q hq p List.mem_cons_self
    have hq' : q ∈ level := by rw [e]; exact List.mem_append_left _ hq
    rw [place_cons, place_cons, d, (hl q hq').2.2.1]
    lia
  ·rcases hc p hp w hw hwl hlt with h | ⟨t, rfl⟩
   ·exact List.mem_append_left _ h
   ·refine List.mem_append_right _ ?_
    have ht : t.length = b := by simpa -iota using hwl
    have htl : Least0 M t := least0_inf m1 m2 (.inr hw) (List.suffix_cons _ _).isInfix
    obtain ⟨q, hq, rfl⟩ := List.mem_map.mp (hall t htl ht)
    rw [place_cons, place_cons, d, ht] at hlt
    have hlt : place q.1 < place p.1 := by lia
    rw [e] at hq
    refine List.mem_map.mpr ⟨q, ?_, rfl⟩
    rcases List.mem_append.mp hq with hq | hq
    ·exact hq
    ·exfalso
     rcases List.mem_cons.mp hq with rfl | hq
     ·lia
     ·have := (List.pairwise_cons.mp hls'.2.1).1 q hq; lia
theorem FL.round {b : Nat} {s : FS} (X : FL M b s) : FL M (b + 1) (FS.round M s.fi s.lo) := by
 have start : FM M b ([] ++ ([] : PM).map fun e => 34 :: e.1) ⟨s.fi, []⟩ :=
  ⟨fun p hp => ⟨(X.fi p hp).1, (X.fi p hp).2.1, .inl (X.fi p hp).2.2⟩, X.fis, fun w hw h => X.all w hw (h.elim id fun h => (by cases h)), fun p hp => (by cases hp), by simp, fun w u_ u_ h => (by cases h)⟩
 have hsgn : ∀ k t, Least M (k :: t) → k = 34 ∨ k = 92 := fun k t h => h.1 k List.mem_cons_self
 have r1 := FM.row m1 m2 (.inl rfl) X.lo X.los X.lall (done0 := []) (fun w hw => by cases hw) (fun e he w hw hl hlt => by
  right
  cases w with
  | nil => cases hl
  | cons k t =>
   rcases hsgn k t hw with rfl | rfl
   ·exact ⟨t, rfl⟩
   ·exfalso
    have hb := (X.lo e he).2.2.1
    have ht : t.length = b := by simpa -iota using hl
    rw [place_cons, place_cons, hb, ht] at hlt
    have h1 := place_hi e.1
    have h2 := place_lo t
    rw [hb, Nat.pow_succ] at h1
    rw [ht] at h2
    simp -iota at hlt
    lia) s.lo [] _ rfl start
 rw [List.nil_append] at r1
 have r1' : FM M b ((s.lo.map fun e => 34 :: e.1) ++ ([] : PM).map fun e => 92 :: e.1) (FS.row M s.lo 34 ⟨s.fi, []⟩) := by simpa -iota using r1
 have r2 := FM.row m1 m2 (.inr rfl) X.lo X.los X.lall (fun w hw e he => by
  obtain ⟨q, hq, rfl⟩ := List.mem_map.mp hw
  have hb := (X.lo e he).2.2.1
  have hb2 := (X.lo q hq).2.2.1
  rw [place_cons, place_cons, hb, hb2]
  have h1 := place_hi q.1
  have h2 := place_lo e.1
  rw [hb2, Nat.pow_succ] at h1
  rw [hb] at h2
  simp -iota
  lia) (fun e he w hw hl hlt => by
  cases w with
  | nil => cases hl
  | cons k t =>
   rcases hsgn k t hw with rfl | rfl
   ·left
    have ht : t.length = b := by simpa -iota using hl
    have htl : Least0 M t := least0_inf m1 m2 (.inr hw) (List.suffix_cons _ _).isInfix
    obtain ⟨q, hq, rfl⟩ := List.mem_map.mp (X.lall t htl ht)
    exact List.mem_map.mpr ⟨q, hq, rfl⟩
   ·exact .inr ⟨t, rfl⟩) s.lo [] _ rfl r1'
 have every : ∀ w, Least M w → w.length = b + 1 → w ∈ (s.lo.map fun e => 34 :: e.1) ++ s.lo.map fun e => 92 :: e.1 := fun w hw hl => by
  cases w with
  | nil => cases hl
  | cons k t =>
   have ht : t.length = b := by simpa -iota using hl
   have htl : Least0 M t := least0_inf m1 m2 (.inr hw) (List.suffix_cons _ _).isInfix
   obtain ⟨q, hq, rfl⟩ := List.mem_map.mp (X.lall t htl ht)
   rcases hsgn k _ hw with rfl | rfl
   ·exact List.mem_append_left _ (List.mem_map.mpr ⟨q, hq, rfl⟩)
   ·exact List.mem_append_right _ (List.mem_map.mpr ⟨q, hq, rfl⟩)
 refine ⟨fun p hp => ?_, r2.fis, fun w hw hl => ?_, fun p hp => ?_, r2.los, fun w hw hl => ?_⟩
 ·obtain ⟨a, c, d⟩ := r2.fi p hp
  exact ⟨a, c, d.elim (fun h => by lia) fun h => by lia⟩
 ·rcases Nat.lt_or_ge w.length (b + 1) with h | h
  ·exact r2.all w hw (.inl (by lia))
  ·exact r2.all w hw (.inr (every w hw (by lia)))
 ·obtain ⟨a, c, d, f⟩ := r2.lo p hp
  exact ⟨.inr a, c, d, a.1⟩
 ·rcases hw with rfl | hw
  ·simp -iota at hl
  ·exact r2.lall w hw hl (every w hw hl)
theorem FReach.fl {b : Nat} {s : FS} (x : FReach M b s) : FL M b s := by
 induction x with
 | start =>
  refine ⟨fun p hp => (by cases hp), by simp, fun w hw hl => ?_, fun p hp => ?_, by simp, fun w hw hl => ?_⟩
  ·exact (hw.2.1 (List.length_eq_zero_iff.mp (by lia))).elim
  ·simp -iota at hp; subst hp
   exact ⟨.inl rfl, rfl, rfl, fun k hk => (by cases hk)⟩
  ·rw [List.length_eq_zero_iff.mp hl]; simp -iota
 | round x hne ih => exact ih.round m1 m2
theorem FReach.all {b : Nat} {s : FS} (x : FReach M b s) (h : s.lo = []) : (∀ p ∈ s.fi, Least M p.2 ∧ p.1 = ev M p.2) ∧ (s.fi.Pairwise fun p q => place p.2 < place q.2) ∧ ∀ w, Least M w → w ∈ s.fi.map (·.2) := by
 have X := x.fl m1 m2
 refine ⟨fun p hp => ⟨(X.fi p hp).1, (X.fi p hp).2.1⟩, X.fis, fun w hw => ?_⟩
 rcases Nat.lt_or_ge b w.length with hl | hl
 ·exfalso
  have : Least0 M (w.take b) := least0_inf m1 m2 (.inr hw) (List.take_prefix _ _).isInfix
  have := X.lall _ this (by rw [List.length_take]; lia)
  rw [h] at this
  cases this
 ·exact X.all w hw hl
theorem kept_eq_first {b : Nat} {s : KS} {f : FS} (x : KReach M s) (hx : s.pb = []) (y : FReach M b f) (hy : f.lo = []) : s.kp = f.fi := by
 have X := x.kl m1 m2
 obtain ⟨y1, y2, y3⟩ := y.all m1 m2 hy
 have x3 : ∀ w, Least M w → w ∈ s.kp.map (·.2) := fun w hw => by
  rcases X.allk w hw with h | ⟨u, hu, _⟩
  ·exact h
  ·rw [hx] at hu; cases hu
 refine List.Perm.eq_of_pairwise (le := fun p q => place p.2 < place q.2) (fun p q u_ u_ h1 h2 => by lia) X.kps y2 ?_
 have nk : s.kp.Nodup := X.kps.imp fun h e => by subst e; lia
 have nf : f.fi.Nodup := y2.imp fun h e => by subst e; lia
 rw [List.perm_ext_iff_of_nodup nk nf]
 intro p
 constructor
 ·intro hp
  obtain ⟨a, c⟩ := X.kp p hp
  obtain ⟨q, hq, e⟩ := List.mem_map.mp (y3 p.2 a)
  have : q = p := Prod.ext (by rw [(y1 q hq).2, e, c]) e
  exact this ▸ hq
 ·intro hp
  obtain ⟨a, c⟩ := y1 p hp
  obtain ⟨q, hq, e⟩ := List.mem_map.mp (x3 p.2 a)
  have : q = p := Prod.ext (by rw [(X.kp q hq).2, e, c]) e
  exact this ▸ hq
end
noncomputable def heads2 (fi : PM) : List (List Nat) := [34] :: [92] :: fi.flatMap fun p => [p.2 ++ [34], p.2 ++ [92]]
noncomputable def leastD (fi : PM) : PM := fi.map (fun p => (p.2, p.1)) ++ [([], [48, 49, 50])]
noncomputable def ruleOf (M : List Nat × List Nat) (fi : PM) (w : List Nat) : Option Rule :=
 if (look (leastD fi) w).isNone && (look (leastD fi) w.tail).isSome then some (w, (look fi (behindOf ((look (leastD fi) w.dropLast).getD []) (mapOf M (w.getLastD 0)))).getD []) else none
noncomputable def rulesOf (M : List Nat × List Nat) (fi : PM) : List Rule := (heads2 fi).filterMap (ruleOf M fi)
structure FirstOk (M : List Nat × List Nat) (fi : PM) : Prop where
 each : ∀ p ∈ fi, Least M p.2 ∧ p.1 = ev M p.2
 sort : fi.Pairwise fun p q => place p.2 < place q.2
 all : ∀ w, Least M w → w ∈ fi.map (·.2)
section
variable {M : List Nat × List Nat} (m1 : IsWhole M.1) (m2 : IsWhole M.2) {fi : PM} (X : FirstOk M fi)
include X
theorem FirstOk.keys : (fi.map (·.1)).Nodup := by
 rw [List.nodup_iff_pairwise_ne, List.pairwise_map]
 refine X.sort.imp_of_mem fun {p q} hp hq h e => ?_
 have := least_uniq (X.each p hp).1 (X.each q hq).1 (by rw [← (X.each p hp).2, ← (X.each q hq).2, e])
 rw [this] at h; lia
theorem FirstOk.words : (fi.map (·.2)).Nodup := by
 rw [List.nodup_iff_pairwise_ne, List.pairwise_map]
 exact X.sort.imp fun {p q} h e => by rw [e] at h; lia
theorem FirstOk.find {w : List Nat} (hw : IsSigns w) (h0 : w ≠ []) : ∃ u, look fi (ev M w) = some u ∧ Least M u ∧ ev M u = ev M w := by
 obtain ⟨u, h1, h2, _⟩ := least_of (M := M) hw h0
 obtain ⟨p, hp, rfl⟩ := List.mem_map.mp (X.all u h1)
 refine ⟨p.2, look_in X.keys ?_, h1, h2⟩
 rw [← h2, ← (X.each p hp).2]; exact hp
theorem FirstOk.leastKeys : ((leastD fi).map (·.1)).Nodup := by
 unfold leastD
 rw [List.map_append, List.nodup_append, List.map_map]
 refine ⟨by simpa -iota [Function.comp_def] using X.words, by simp, fun a ha b hb e => ?_⟩
 obtain ⟨p, hp, rfl⟩ := List.mem_map.mp ha
 simp -iota at hb
 subst hb
 exact (X.each p hp).1.2.1 e
theorem FirstOk.leastAt {w : List Nat} (h : Least0 M w) : look (leastD fi) w = some (ev M w) := by
 refine look_in X.leastKeys ?_
 unfold leastD
 rcases h with rfl | h
 ·exact List.mem_append_right _ (by simp -iota [ev])
 ·obtain ⟨p, hp, rfl⟩ := List.mem_map.mp (X.all w h)
  exact List.mem_append_left _ (List.mem_map.mpr ⟨p, hp, by rw [(X.each p hp).2]⟩)
theorem FirstOk.leastOf {w v : List Nat} (h : look (leastD fi) w = some v) : Least0 M w := by
 have := look_some h
 unfold leastD at this
 rcases List.mem_append.mp this with h | h
 ·obtain ⟨p, hp, e⟩ := List.mem_map.mp h
  cases e
  exact .inr (X.each p hp).1
 ·simp -iota at h
  exact .inl h.1
theorem FirstOk.leastNone {w : List Nat} : look (leastD fi) w = none ↔ ¬ Least0 M w := by
 constructor
 ·intro h hl
  rw [X.leastAt hl] at h; cases h
 ·intro h
  match hq : look (leastD fi) w with
  | none => rfl
  | some v => exact (h (X.leastOf hq)).elim
theorem in_heads {w : List Nat} : w ∈ heads2 fi ↔ IsSigns w ∧ w ≠ [] ∧ Least0 M w.dropLast := by
 unfold heads2
 constructor
 ·intro h
  simp -iota only [List.mem_cons, List.mem_flatMap] at h
  rcases h with rfl | rfl | ⟨p, hp, h⟩
  ·exact ⟨by intro k hk; simp -iota at hk; lia, by simp, .inl rfl⟩
  ·exact ⟨by intro k hk; simp -iota at hk; lia, by simp, .inl rfl⟩
  ·have hl := (X.each p hp).1
   simp -iota at h
   rcases h with rfl | rfl
   ·exact ⟨hl.1.app (by intro k hk; simp -iota at hk; lia), by simp, by rw [List.dropLast_concat]; exact .inr hl⟩
   ·exact ⟨hl.1.app (by intro k hk; simp -iota at hk; lia), by simp, by rw [List.dropLast_concat]; exact .inr hl⟩
 ·rintro ⟨hs, h0, hd⟩
  rcases List.eq_nil_or_concat w with rfl | ⟨u, k, rfl⟩
  ·exact (h0 rfl).elim
  ·rw [List.concat_eq_append] at hs hd ⊢
   rw [List.dropLast_concat] at hd
   have hk := hs k (by simp -iota)
   rcases hd with rfl | hd
   ·rcases hk with rfl | rfl <;> simp -iota
   ·obtain ⟨p, hp, rfl⟩ := List.mem_map.mp (X.all u hd)
    refine List.mem_cons_of_mem _ (List.mem_cons_of_mem _ (List.mem_flatMap.mpr ⟨p, hp, ?_⟩))
    rcases hk with rfl | rfl <;> simp -iota
include m1 m2
set_option tactic.hygienic true in
theorem rule_iff {w : List Nat} {r : Rule} (hw : w ∈ heads2 fi) : ruleOf M fi w = some r ↔ r.1 = w ∧ Min M w ∧ Least M r.2 ∧ ev M r.2 = ev M w := by
 obtain ⟨hs, h0, hd⟩ := (in_heads X).mp hw
 have hev : behindOf ((look (leastD fi) w.dropLast).getD []) (mapOf M (w.getLastD 0)) = ev M w := by
  rw [X.leastAt hd, Option.getD_some]
  rcases List.eq_nil_or_concat w with rfl | ⟨u, k, rfl⟩
  ·exact (h0 rfl).elim
  ·rw [List.concat_eq_append, ev_snoc, List.dropLast_concat, List.getLastD_concat]
 obtain ⟨u, u1, u2, u3⟩ := X.find hs h0
 unfold ruleOf
 rw [hev, u1, Option.getD_some]
 constructor
 ·intro h
  split at h
  ·rename_i hc
   rw [Bool.and_eq_true] at hc
   have hn := X.leastNone.mp (Option.isNone_iff_eq_none.mp hc.1)
   obtain ⟨v, hv⟩ := Option.isSome_iff_exists.mp hc.2
   cases h
   exact ⟨rfl, ⟨hs, h0, fun hl => hn (.inr hl), hd, X.leastOf hv⟩, u2, u3⟩
  ·cases h
 ·rintro ⟨rfl, hm, hl, he⟩
  rw [if_pos]
  ·have := least_uniq u2 hl (u3.trans he.symm)
   subst this; rfl
  ·rw [Bool.and_eq_true]
   refine ⟨Option.isNone_iff_eq_none.mpr (X.leastNone.mpr fun h => h.elim hm.2.1 hm.2.2.1), ?_⟩
   rw [X.leastAt hm.2.2.2.2]; rfl
theorem heads_sort : (heads2 fi).Pairwise fun x y => place x < place y := by
 have key : ∀ (fi : PM) (c : Nat), (∀ p ∈ fi, c < place p.2) → (fi.Pairwise fun p q => place p.2 < place q.2) →
   (∀ x ∈ fi.flatMap (fun p => [p.2 ++ [34], p.2 ++ [92]]), 2 * c + 2 < place x) ∧ (fi.flatMap fun p => [p.2 ++ [34], p.2 ++ [92]]).Pairwise fun x y => place x < place y := by
  intro fi
  induction fi with
  | nil => intro c _ _; simp -iota
  | cons p r ih =>
   intro c hc hp
   rw [List.pairwise_cons] at hp
   have h1 := hc p List.mem_cons_self
   obtain ⟨i1, i2⟩ := ih (place p.2) hp.1 hp.2
   have p34 : place (p.2 ++ [34]) = 2 * place p.2 + 1 := place_snoc p.2 34
   have p92 : place (p.2 ++ [92]) = 2 * place p.2 + 2 := place_snoc p.2 92
   rw [List.flatMap_cons]
   constructor
   ·intro x hx
    rcases List.mem_append.mp hx with hx | hx
    ·simp -iota at hx
     rcases hx with rfl | rfl <;> lia
    ·have := i1 x hx; lia
   ·rw [List.pairwise_append]
    refine ⟨by simp -iota; lia, i2, fun x hx y hy => ?_⟩
    have := i1 y hy
    simp -iota at hx
    rcases hx with rfl | rfl <;> lia
 obtain ⟨k1, k2⟩ := key fi 0 (fun p hp => place_pos (X.each p hp).1.2.1) X.sort
 have e34 : place [34] = 1 := rfl
 have e92 : place [92] = 2 := rfl
 unfold heads2
 rw [List.pairwise_cons, List.pairwise_cons]
 refine ⟨fun x hx => ?_, fun x hx => ?_, k2⟩
 ·rcases List.mem_cons.mp hx with rfl | hx
  ·decide
  ·have := k1 x hx; lia
 ·have := k1 x hx; lia
theorem rules_sort : (rulesOf M fi).Pairwise fun p q => place p.1 < place q.1 := by
 unfold rulesOf
 rw [List.pairwise_filterMap]
 refine (heads_sort m1 m2 X).imp_of_mem fun {x y} hx hy h r hr r' hr' => ?_
 have h1 := ((rule_iff m1 m2 X hx).mp hr).1
 have h2 := ((rule_iff m1 m2 X hy).mp hr').1
 rw [h1, h2]; exact h
theorem in_rules {r : Rule} : r ∈ rulesOf M fi ↔ Min M r.1 ∧ Least M r.2 ∧ ev M r.2 = ev M r.1 := by
 unfold rulesOf
 rw [List.mem_filterMap]
 constructor
 ·rintro ⟨w, hw, h⟩
  obtain ⟨rfl, h⟩ := (rule_iff m1 m2 X hw).mp h
  exact h
 ·rintro ⟨a, b, c⟩
  have hw : r.1 ∈ heads2 fi := (in_heads X).mpr ⟨a.1, a.2.1, a.2.2.2.1⟩
  exact ⟨r.1, hw, (rule_iff m1 m2 X hw).mpr ⟨rfl, a, b, c⟩⟩
theorem rules_eq {s : KS} (x : KReach M s) (hx : s.pb = []) : s.rs = rulesOf M fi := by
 have Y := x.kl m1 m2
 have s1 := rules_sort m1 m2 X
 refine List.Perm.eq_of_pairwise (le := fun p q => place p.1 < place q.1) (fun p q u_ u_ h1 h2 => by lia) Y.rss s1 ?_
 have nk : s.rs.Nodup := Y.rss.imp fun h e => by subst e; lia
 have nf : (rulesOf M fi).Nodup := s1.imp fun h e => by subst e; lia
 rw [List.perm_ext_iff_of_nodup nk nf]
 intro p
 rw [in_rules m1 m2 X]
 constructor
 ·intro hp; exact Y.rs p hp
 ·rintro ⟨a, b, c⟩
  rcases Y.allr p.1 a with h | ⟨u, hu, _⟩
  ·obtain ⟨q, hq, e⟩ := List.mem_map.mp h
   have h2 := Y.rs q hq
   have : q = p := Prod.ext e (least_uniq h2.2.1 b (by rw [h2.2.2, c, e]))
   exact this ▸ hq
  ·rw [hx] at hu; cases hu
end
theorem FReach.ok {M : List Nat × List Nat} (m1 : IsWhole M.1) (m2 : IsWhole M.2) {b : Nat} {s : FS} (x : FReach M b s) (h : s.lo = []) : FirstOk M s.fi := by obtain ⟨a, c, d⟩ := x.all m1 m2 h; exact ⟨a, c, d⟩
noncomputable def RB.step (rs : List Rule) (w : List Nat) (s : Nat) (line : List Nat) : List Nat × List Nat :=
 match rs.find? fun r => decide (r.1 <:+ w ++ [s]) with
 | none => (w ++ [s], line)
 | some r => ((w ++ [s]).take ((w ++ [s]).length - r.1.length), r.2 ++ line)
inductive RReach (rs : List Rule) (text : List Nat) : List Nat → List Nat → Prop
 | start : RReach rs text [] text
 | turn {w line : List Nat} {s : Nat} : RReach rs text w (s :: line) → RReach rs text (RB.step rs w s line).1 (RB.step rs w s line).2
structure RI (M : List Nat × List Nat) (rs : List Rule) (text w line : List Nat) : Prop where
 signs : IsSigns (w ++ line)
 ne : w ++ line ≠ []
 same : ev M (w ++ line) = ev M text
 le : place (w ++ line) ≤ place text
 free : ∀ r ∈ rs, ¬ r.1 <:+: w
structure RulesFine (M : List Nat × List Nat) (rs : List Rule) : Prop where
 each : ∀ r ∈ rs, Min M r.1 ∧ Least M r.2 ∧ ev M r.2 = ev M r.1
 all : ∀ w, Min M w → w ∈ rs.map (·.1)
theorem RulesFine.lt {M : List Nat × List Nat} {rs : List Rule} (F : RulesFine M rs) {r : Rule} (hr : r ∈ rs) : place r.2 < place r.1 := by
 obtain ⟨a, b, c⟩ := F.each r hr
 have h1 := b.2.2 r.1 a.1 a.2.1 c.symm
 rcases Nat.lt_or_ge (place r.2) (place r.1) with h | h
 ·exact h
 ·have := place_inj b.1 a.1 (Nat.le_antisymm h1 h)
  rw [this] at b
  exact (a.2.2.1 b).elim
theorem infix_snoc {α : Type} {l w : List α} {k : α} (h : l <:+: w ++ [k]) (hn : ¬ l <:+: w) : l <:+ w ++ [k] := by
 obtain ⟨x, y, e⟩ := h
 rcases List.eq_nil_or_concat y with rfl | ⟨y, j, rfl⟩
 ·exact ⟨x, by simpa -iota using e⟩
 ·exfalso
  rw [List.concat_eq_append, ← List.append_assoc] at e
  have := List.append_inj_left' e rfl
  exact hn ⟨x, y, this⟩
theorem RB.find {rs : List Rule} {w : List Nat} {s : Nat} {line : List Nat} {r : Rule} (h : rs.find? (fun r => decide (r.1 <:+ w ++ [s])) = some r) : RB.step rs w s line = ((w ++ [s]).take ((w ++ [s]).length - r.1.length), r.2 ++ line) := by
 unfold RB.step; rw [h]
theorem RB.miss {rs : List Rule} {w : List Nat} {s : Nat} {line : List Nat} (h : rs.find? (fun r => decide (r.1 <:+ w ++ [s])) = none) : RB.step rs w s line = (w ++ [s], line) := by
 unfold RB.step; rw [h]
section
variable {M : List Nat × List Nat} (m1 : IsWhole M.1) (m2 : IsWhole M.2) {rs : List Rule} (F : RulesFine M rs)
include m1 m2 F
theorem RI.turn {text w line : List Nat} {s : Nat} (X : RI M rs text w (s :: line)) : RI M rs text (RB.step rs w s line).1 (RB.step rs w s line).2 ∧
  (place ((RB.step rs w s line).1 ++ (RB.step rs w s line).2) < place (w ++ s :: line) ∨ ((RB.step rs w s line).1 = w ++ [s] ∧ (RB.step rs w s line).2 = line)) := by
 have e0 : w ++ s :: line = (w ++ [s]) ++ line := by simp -iota
 match hf : rs.find? fun r => decide (r.1 <:+ w ++ [s]) with
 | none =>
  rw [RB.miss hf]
  have hn : ∀ r ∈ rs, ¬ r.1 <:+ w ++ [s] := fun r hr h => List.find?_eq_none.mp hf r hr (decide_eq_true h)
  refine ⟨⟨e0 ▸ X.signs, e0 ▸ X.ne, e0 ▸ X.same, e0 ▸ X.le, fun r hr h => ?_⟩, .inr ⟨rfl, rfl⟩⟩
  exact hn r hr (infix_snoc h (X.free r hr))
 | some r =>
  rw [RB.find hf]
  have hr := List.mem_of_find?_eq_some hf
  have hs : r.1 <:+ w ++ [s] := of_decide_eq_true (List.find?_some (p := fun r : Rule => decide (r.1 <:+ w ++ [s])) hf)
  obtain ⟨a, b, c⟩ := F.each r hr
  obtain ⟨v, hv⟩ := hs
  have ht : (w ++ [s]).take ((w ++ [s]).length - r.1.length) = v := by
   rw [← hv, List.length_append, Nat.add_sub_cancel, List.take_left]
  rw [ht]
  have hlt : place (v ++ r.2 ++ line) < place (v ++ r.1 ++ line) := place_ctx (F.lt hr)
  have hvw : v <+: w := by
   have hr0 : r.1 ≠ [] := a.2.1
   obtain ⟨u, k, e⟩ : ∃ u k, r.1 = u ++ [k] := ⟨_, _, (List.dropLast_concat_getLast hr0).symm⟩
   rw [e, ← List.append_assoc] at hv
   exact ⟨u, List.append_inj_left' hv rfl⟩
  have hsg := X.signs
  have hev := X.same
  have hle := X.le
  rw [e0, ← hv] at hsg hev hle ⊢
  have ea : v ++ (r.2 ++ line) = v ++ r.2 ++ line := (List.append_assoc ..).symm
  have g1 : IsSigns (v ++ r.2 ++ line) := (IsSigns.app (hsg.inf ⟨[], r.1 ++ line, by simp⟩) b.1).app (hsg.inf ⟨v ++ r.1, [], by simp⟩)
  have g2 : ev M (v ++ r.2 ++ line) = ev M text := by rw [← hev]; exact ev_mid m1 m2 v line c
  refine ⟨⟨ea ▸ g1, by simp -iota [b.2.1], ea ▸ g2, ?_, fun q hq h => X.free q hq (h.trans hvw.isInfix)⟩, .inl ?_⟩
  ·show place (v ++ (r.2 ++ line)) ≤ _
   rw [ea]; lia
  ·show place (v ++ (r.2 ++ line)) < _
   rw [ea]; exact hlt
theorem RReach.ri {text w line : List Nat} (hs : IsSigns text) (h0 : text ≠ []) (x : RReach rs text w line) : RI M rs text w line := by
 induction x with
 | start => exact ⟨hs, h0, rfl, Nat.le_refl _, fun r hr h => (F.each r hr).1.2.1 (List.infix_nil.mp h)⟩
 | turn _ ih => exact (ih.turn m1 m2 F).1
theorem read_end {text w : List Nat} (hs : IsSigns text) (h0 : text ≠ []) (x : RReach rs text w []) : Least M w ∧ ev M w = ev M text := by
 have X := x.ri m1 m2 F hs h0
 have s1 := X.signs
 have s2 := X.ne
 have s3 := X.same
 rw [List.append_nil] at s1 s2 s3
 refine ⟨Classical.byContradiction fun hc => ?_, s3⟩
 obtain ⟨l, hl, hi⟩ := min_inf m1 m2 w s1 s2 hc
 obtain ⟨r, hr, rfl⟩ := List.mem_map.mp (F.all l hl)
 exact X.free r hr hi
end
noncomputable def RB.rank (w line : List Nat) : Nat := 13 * place (w ++ line) + line.length
theorem RB.less {M : List Nat × List Nat} (m1 : IsWhole M.1) (m2 : IsWhole M.2) {rs : List Rule} (F : RulesFine M rs) {text w line : List Nat} {s : Nat} (hz : text.length ≤ 12) (X : RI M rs text w (s :: line)) : RB.rank (RB.step rs w s line).1 (RB.step rs w s line).2 < RB.rank w (s :: line) := by
 obtain ⟨Y, h⟩ := X.turn m1 m2 F
 unfold RB.rank
 rcases h with h | ⟨h1, h2⟩
 ·have := place_len Y.le
  rw [List.length_append] at this
  lia
 ·rw [h1, h2]
  have e0 : w ++ s :: line = (w ++ [s]) ++ line := by simp -iota
  rw [e0, List.length_cons]; lia
set_option tactic.hygienic true in
theorem out_ok {x ig : Addr} {rs : List Rule} {ks : List Nat} {m : DM Str} {t : Tok}
  (X : RdS (c2 w os) g x ig (modsOf rs) ((dirsOf rs).map npath)) (S : St (c2 w os) g h ((ig, isDic (c2 w os) m) :: l)) (M : MemoOk rs m) (R : RulesOk rs) (hz3 : rs.length ≤ 500) (hz4 : ∀ r ∈ rs, r.1.length ≤ 200) (hw : IsSigns ks) (h0 : ks ≠ []) (hz : ks.length ≤ 1000)
  (hzl : m.length ≤ 900000)
  (k : ∀ h' t m', MemoOk rs m' → m'.length ≤ m.length + 1 → at? m' (str (nameOf ks 46)) = some (.int (intB (asks rs ks))) → (∀ s v, at? m s = some v → at? m' s = some v) → St (c2 w os) g h' ((ig, isDic (c2 w os) m') :: l) → P (.int (intB (asks rs ks)) t) h') :
  Ok (c2 w os) (n + 3) (call (.ref 154) [.ref x, .str (str ks) t]) P h := by
 cases hm : at? m (str (nameOf ks 46)) with
 | some v =>
  have e := M.tells ks hw h0 v hm
  subst e
  exact out_hit X S hm hz fun h' t S => k h' t m M (by walk_at "li") hm (fun u_ u_ e => e) S
 | none =>
  refine out_miss X S hm hz hzl ?_ ?_ ?_ ?_ fun h' t S => ?_
  ·have := List.length_filterMap_le modOf rs
   show (rs.filterMap modOf).length ≤ _; walk_at "lx"
  ·rw [List.length_map]
   have := List.length_filterMap_le dirOf rs
   show (rs.filterMap dirOf).length ≤ _; walk_at "lx"
  ·intro s hs
   obtain ⟨r, hr, _, rfl⟩ := in_mods.mp hs
   have := name_le r.1 46
   have := hz4 r hr
   walk_at "lx"
  ·intro s hs
   obtain ⟨d, hd, rfl⟩ := List.mem_map.mp hs
   obtain ⟨r, hr, _, rfl⟩ := in_dirs.mp hd
   rw [npath_dir (R r hr).2.1]
   have := name_le r.1 47
   have := hz4 r hr
   walk_at "lx"
  ·rw [ans_asks R hw h0] at S ⊢
   refine k h' t _ (M.put hw h0 hm) (by simp) ?_ ?_ S
   ·rw [at?_app hm, if_pos rfl]
   ·intro s v e
    rw [at?_app hm]
    split
    ·rename_i e2; rw [e2, hm] at e; cases e
    ·exact e
theorem me_push (P : Params) : findIn (hd.heap_39 P) (.ref 59) (Str.ofString "push_token") = some (some (.ref 56)) := by kernel_rfl
theorem ty_push (P : Params) : typeIn (hd.heap_39 P) (.ref 56) = some (.type "function") := by kernel_rfl
theorem me_tok (P : Params) : findIn (hd.heap_39 P) (.ref 59) (Str.ofString "get_token") = some (some (.ref 49)) := by kernel_rfl
theorem ty_tok (P : Params) : typeIn (hd.heap_39 P) (.ref 49) = some (.type "function") := by kernel_rfl
theorem gc_kept {v_maps : Value} {av_maps : AV} (S : St (c2 w os) g h l) (r_maps : av_maps.rep v_maps)
  (k : ∀ L h', St (c2 w os) g h' ((L, isFr [((Str.ofString "maps"), some av_maps), ((Str.ofString "line"), none), ((Str.ofString "sign"), none), ((Str.ofString "rules"), none), ((Str.ofString "kept"), none), ((Str.ofString "made"), none), ((Str.ofString "reader"), none), ((Str.ofString "word"), none)]) :: l) → Ok (c2 w os) n (execs bdkept (mkEnv fdkept 166 L [])) (kFn P) h') :
  OkC (c2 w os) (n + 1) (.call (.ref 166) ⟨[v_maps], []⟩) (fun fl h' => ∃ v, fl = .ret v ∧ P v h') h := by
 refine (okC_call (fd := fdkept) S (S.topH.k _ _ (fn_kept _)) rfl rfl rfl (codeRec_of S.topH.k (cd_kept _)) nd_kept ?_)
 have hb : bindArgs fdkept ⟨[v_maps], []⟩ = pure [((Str.ofString "maps"), v_maps)] := by kernel_rfl
 rw [hb]
 refine ok_pure ⟨_, S, fun L h S => ?_⟩
 rw [ns_kept, ce_kept] at S
 rw [cf_kept, hb_kept]
 have S := S.weak .here fun o q => isFr_none q
 refine ok_bind_cons ?_
 refine ok_stM' S fk_kept (by kernel_rfl) .here .here r_maps fun h S => ?_
 exact ok_bind_nil ⟨S.topH, okC_func ((k L _ S).mono fun f h' z => ⟨_, rfl, z⟩)⟩
theorem go_kept {v_maps : Value} {av_maps : AV} (S : St (c2 w os) g h l) (r_maps : av_maps.rep v_maps)
  (k : ∀ L h', St (c2 w os) g h' ((L, isFr [((Str.ofString "maps"), some av_maps), ((Str.ofString "line"), none), ((Str.ofString "sign"), none), ((Str.ofString "rules"), none), ((Str.ofString "kept"), none), ((Str.ofString "made"), none), ((Str.ofString "reader"), none), ((Str.ofString "word"), none)]) :: l) → Ok (c2 w os) n (execs bdkept (mkEnv fdkept 166 L [])) (kFn P) h') :
  Ok (c2 w os) (n + 1) (call (.ref 166) [v_maps]) P h := ok_call (gc_kept S r_maps k)
noncomputable abbrev mapsD (M : List Nat × List Nat) : DM Str := [(str [34], .str M.1), (str [92], .str M.2)]
noncomputable def keptFr (md a : Addr) (o1 o2 o3 o4 o5 o6 : Option AV) : AM := [(Str.ofString "maps", some (AV.ref md)), (Str.ofString "line", some (AV.ref a)), (Str.ofString "sign", o1), (Str.ofString "rules", o2), (Str.ofString "kept", o3), (Str.ofString "made", o4), (Str.ofString "reader", o5), (Str.ofString "word", o6)]
section
variable {md : Addr} {a : Addr} {o1 : Option AV} {o2 : Option AV} {o3 : Option AV} {o4 : Option AV} {o5 : Option AV} {o6 : Option AV} {v : AV}
theorem keptFr.h0 : HasA (keptFr md a o1 o2 o3 o4 o5 o6) (Str.ofString "maps") (AV.ref md) := .here
theorem keptFr.h1 : HasA (keptFr md a o1 o2 o3 o4 o5 o6) (Str.ofString "line") (AV.ref a) := .i1
theorem keptFr.h2 : HasA (keptFr md a (some v) o2 o3 o4 o5 o6) (Str.ofString "sign") v := .i2
theorem keptFr.p2 : PutA (keptFr md a o1 o2 o3 o4 o5 o6) (Str.ofString "sign") v (keptFr md a (some v) o2 o3 o4 o5 o6) := .i2
theorem keptFr.h3 : HasA (keptFr md a o1 (some v) o3 o4 o5 o6) (Str.ofString "rules") v := .i3
theorem keptFr.p3 : PutA (keptFr md a o1 o2 o3 o4 o5 o6) (Str.ofString "rules") v (keptFr md a o1 (some v) o3 o4 o5 o6) := .i3
theorem keptFr.h4 : HasA (keptFr md a o1 o2 (some v) o4 o5 o6) (Str.ofString "kept") v := .i4
theorem keptFr.p4 : PutA (keptFr md a o1 o2 o3 o4 o5 o6) (Str.ofString "kept") v (keptFr md a o1 o2 (some v) o4 o5 o6) := .i4
theorem keptFr.h5 : HasA (keptFr md a o1 o2 o3 (some v) o5 o6) (Str.ofString "made") v := .i5
theorem keptFr.p5 : PutA (keptFr md a o1 o2 o3 o4 o5 o6) (Str.ofString "made") v (keptFr md a o1 o2 o3 (some v) o5 o6) := .i5
theorem keptFr.h6 : HasA (keptFr md a o1 o2 o3 o4 (some v) o6) (Str.ofString "reader") v := .i6
theorem keptFr.p6 : PutA (keptFr md a o1 o2 o3 o4 o5 o6) (Str.ofString "reader") v (keptFr md a o1 o2 o3 o4 (some v) o6) := .i6
theorem keptFr.h7 : HasA (keptFr md a o1 o2 o3 o4 o5 (some v)) (Str.ofString "word") v := .i7
theorem keptFr.p7 : PutA (keptFr md a o1 o2 o3 o4 o5 o6) (Str.ofString "word") v (keptFr md a o1 o2 o3 o4 o5 (some v)) := .i7
end
theorem ok_Dict0 (K : Type) [DecidableEq K] [Keyed K] {c : Cx} {n : Nat} {g h : Heap} {l : Led} {env : Env} {pos : Pos} {P : VP} (S : St c g h l) (p : ∀ a h', St c g h' ((a, isDic (K := K) c []) :: l) → P (.ref a) h') :
  Ok c n (eval (.Dict [] [] pos) env) P h := fun A d tk r => wpAny_bind (wpAny_standAt (ok_newDictA S p A d tk r))
theorem tokH {a d q p st : Addr} {pb : List (List Nat)} (X : LexS g a d st q) (S : St (c2 w os) g h (lexLed d q p st 1 [34, 34, 92, 34] pb l)) (hz : pb.length ≤ 100000)
  (k : ∀ h' t ks ln, (pb ≠ [] → ks = [34, 34, 92, 34] ∧ ln = 1) → St (c2 w os) g h' (lexLed d q p st ln ks pb.tail l) → P (.str (str (pb.headD [])) t) h') : Ok (c2 w os) (n + 8) (call (.ref 49) [.ref a]) P h := by
 cases pb with
 | nil =>
  refine tokA_read X S (by simp) fun h' t S => ?_
  have : token [34, 34, 92, 34] = ([], [92, 34]) := by decide
  rw [this] at S ⊢
  exact k h' t _ _ (fun e => (e rfl).elim) S
 | cons x pb => exact tokA_pop X S (by simp at hz; walk_at "lx") fun h' t S => k h' t _ _ (fun u_ => ⟨rfl, rfl⟩) S
theorem St.m43 {c : Cx} {x1 x2 x3 x4 a b e : Addr × (Obj → Prop)} (S : St c g h (x1 :: x2 :: x3 :: x4 :: a :: b :: e :: l)) : St c g h (a :: b :: e :: x1 :: x2 :: x3 :: x4 :: l) := S.perm ((List.perm_append_comm (l₁ := [a, b, e]) (l₂ := [x1, x2, x3, x4])).append_right l)
theorem St.m34 {c : Cx} {x1 x2 x3 x4 a b e : Addr × (Obj → Prop)} (S : St c g h (a :: b :: e :: x1 :: x2 :: x3 :: x4 :: l)) : St c g h (x1 :: x2 :: x3 :: x4 :: a :: b :: e :: l) := S.perm ((List.perm_append_comm (l₁ := [x1, x2, x3, x4]) (l₂ := [a, b, e])).append_right l)
theorem wholeOf_eq {M : List Nat × List Nat} {md : PM} {w0 v : List Nat} {k : Nat} (h : look md w0 = some v) : wholeOf M md (w0 ++ [k]) = behindOf v (mapOf M k) := by
 unfold wholeOf
 rw [List.dropLast_concat, h]
 simp [List.getLastD_eq_getLast?]
theorem at_maps {M : List Nat × List Nat} {k : Nat} (h : k = 34 ∨ k = 92) : at? (mapsD M) (str [k]) = some (.str (mapOf M k)) := by
 have : mapsD M = dm [([34], M.1), ([92], M.2)] := rfl
 rw [this, at?_dm]
 rcases h with rfl | rfl <;> simp [look, mapOf]
theorem St.m53 {c : Cx} {x0 x1 x2 x3 x4 a b e : Addr × (Obj → Prop)} (S : St c g h (x0 :: x1 :: x2 :: x3 :: x4 :: a :: b :: e :: l)) : St c g h (a :: b :: e :: x0 :: x1 :: x2 :: x3 :: x4 :: l) := S.perm ((List.perm_append_comm (l₁ := [a, b, e]) (l₂ := [x0, x1, x2, x3, x4])).append_right l)
theorem St.m35 {c : Cx} {x0 x1 x2 x3 x4 a b e : Addr × (Obj → Prop)} (S : St c g h (a :: b :: e :: x0 :: x1 :: x2 :: x3 :: x4 :: l)) : St c g h (x0 :: x1 :: x2 :: x3 :: x4 :: a :: b :: e :: l) := S.perm ((List.perm_append_comm (l₁ := [x0, x1, x2, x3, x4]) (l₂ := [a, b, e])).append_right l)
inductive KInv (c : Cx) (g0 : Heap) (M : List Nat × List Nat) (md a d q p st L rl kd mdd : Addr) (l : Led) (k : Nat) (h : Heap) : Prop
 | mk (g : Heap) (s : KS) (as : List Addr) (m : DM Str) (x ig : Addr) (o1 : Option AV) (ks : List Nat) (ln : Int) (kg : Gr g0 g) (K : KReach M s) (PA : PairsAt g as s.rs) (R : RdS c g x ig (modsOf s.rs) ((dirsOf s.rs).map npath)) (Mo : MemoOk s.rs m) (hm : m.length + k ≤ 90) (hk : s.rank ≤ k) (hl : s.pb ≠ [] → ks = [34, 34, 92, 34] ∧ ln = 1)
  (S : St c g h ((ig, isDic c m) :: (rl, isL (refs as)) :: (mdd, isDic c (dm s.md)) :: (kd, isDic c (dm s.kp)) :: lexLed d q p st ln ks s.pb.tail
   ((L, isFr (keptFr md a o1 (some (.ref rl)) (some (.ref kd)) (some (.ref mdd)) (some (.ref x)) (some (.str (s.pb.headD []))))) :: l))) : KInv c g0 M md a d q p st L rl kd mdd l k h
theorem keys_maps (M : List Nat × List Nat) : keysOf (mapsD M) = strsOf [[34], [92]] := by simp [keysOf, strsOf, key_av]
theorem take_snoc {α : Type} {xs : List α} {i : Nat} {x : α} (h : xs[i]? = some x) : xs.take (i + 1) = xs.take i ++ [x] := by rw [List.take_add_one, h]; rfl
set_option tactic.hygienic true in
theorem kept_ok {md : Addr} {M : List Nat × List Nat} (T : LexTab g) (S : St (c2 w os) g h l)
  (D : HO g md (isDic (c2 w os) (mapsD M))) (nd : NotSys md) (m1 : IsWhole M.1) (m2 : IsWhole M.2)
  (k : ∀ g' t rl kd x ig as h' m s, Gr g g' → HO g' t (isT [.ref rl, .ref kd, .ref x]) → PairsAt g' as s.rs → RdS (c2 w os) g' x ig (modsOf s.rs) ((dirsOf s.rs).map npath) → MemoOk s.rs m → m.length ≤ 100 → KReach M s → s.pb = [] →
   St (c2 w os) g' h' ((ig, isDic (c2 w os) m) :: (kd, isDic (c2 w os) (dm s.kp)) :: (rl, isL (refs as)) :: l) → P (.ref t) h') :
  Ok (c2 w os) (n + 13) (call (.ref 166) [.ref md]) P h := by
 refine go_kept S rep_ref fun L h S => ok_s ?_
 walk_at "go"
 refine lexer_hit (n := n + 3) (ks := [34, 34, 92, 34]) T S (by simp) fun g1 a d q p st h k1 X S => ?_
 have X0 : HO g1 a (isInst 59 d) := ⟨_, X.obj, rfl⟩
 obtain ⟨ep, F⟩ := (D.gr k1).fix
 walk_at "go"
 refine ok_x_for (fun u_ => rfl) ?_
 walk_at "gs"
 refine ok_iterD S nd (F.gr S.keep) fun it h S => ?_
 refine okC_forT (σ := Option AV) (srcA_dict (m := mapsD M) (ep := ep)) (fun i o1 => lexLed d q p st 1 [34, 34, 92, 34] ([[34], [92]].take i) ((L, isFr (keptFr md a o1 none none none none none)) :: l)) ?_ ?_ ?_ none S
 ·intro i o1 h W' S
  exact F.gr S.keep
 ·intro i T hT o1 h av v hi rv S
  rw [keys_maps] at hi
  revert av v
  refine turn_strs fun x t hx => ?_
  walk_at "gs"
  refine pushA (n := n + 10) X S.b4 (by simp; walk_at "lx") fun h S => ?_
  walk_at "go"
  exact hT _ _ ⟨_, by rw [take_snoc hx]; exact S.f4⟩
 intro o1 h S
 rw [keys_maps] at S
 have S : St (c2 w os) g1 h (lexLed d q p st 1 [34, 34, 92, 34] [[34], [92]] ((L, isFr (keptFr md a o1 none none none none none)) :: l)) := S
 walk_at "go"
 with_reducible refine ok_x_tups (names := [Str.ofString "rules", Str.ofString "kept", Str.ofString "made"]) ?k1 ?k2 ?_
 case k1 => kernel_rfl
 case k2 => kernel_rfl
 refine ok_Tuple ?_
 walk_at "go"
 rename_i rl
 rename St _ _ _ _ => S
 refine ok_Dict0 Str S fun kd h S => ?_
 walk_at "go"
 refine ok_Dict1 Str S fun mdd h S => ?_
 refine ok_pairs_cons ?_
 walk_at "go"
 refine ok_pairs_nil ⟨[(_, .str [48, 49, 50])], _, S, .cons rep_key rep_str .nil, by simp, fun h S => ?_⟩
 walk_at "go"
 refine ⟨_, _, _, (by assumption), (by walk_at "rps"), (by simp), fun a' h S => ⟨_, _, _, _, rfl, S, S.get .here, rfl, fun h us r S => ?_⟩⟩
 revert us
 refine Reps.eC fun v1 r1 => ?_
 refine Reps.eC fun v2 r2 => ?_
 refine Reps.eC fun v3 r3 => ?_
 refine Reps.eN ?_
 cases r1
 cases r2
 cases r3
 have S := S.tail
 show Ok _ _ (assignInOrder [bindName _ (Str.ofString "made"), bindName _ (Str.ofString "kept"), bindName _ (Str.ofString "rules")] [_, _, _]) _ _
 refine ok_aio_cons (ok_bindName ?_)
 walk_at "go"
 refine ok_aio_cons (ok_bindName ?_)
 walk_at "go"
 refine ok_aio_cons (ok_bindName ?_)
 walk_at "gs"
 have S := S.f3
 refine reader_ok (n := n) (as := []) (rs := []) S trivial (by simp) (by simp) fun g2 x ig h k2 R S => ?_
 have X := X.gr k2
 have X0 := X0.gr k2
 have F := F.gr k2
 have nr := S.sys (.i1)
 have nk := S.sys (.i3)
 have nm := S.sys (.i2)
 walk_at "gs"
 refine tokH (n := n + 4) X S.m43 (by simp) fun h t ks ln e S => ?_
 have S := S.m34
 walk_at "gs"
 refine ok_x_while ?_
 refine okC_while (KInv (c2 w os) g2 M md a d q p st L rl kd mdd l) ?_ 83 ⟨g2, KS.start, [], _, x, ig, o1, ks, ln, Gr.refl _, .start, trivial, R, MemoOk.start [], by simp, by decide, fun u_ => e (by simp), S⟩
 rintro kk T hT h ⟨g3, s, as, m, x, ig, o1, ks, ln, k3, K, PA, R, Mo, hm, hk, hl, S⟩
 have I := K.ki m1 m2
 have X := X.gr k3
 have X0 := X0.gr k3
 have F := F.gr k3
 walk_at "go"
 refine ⟨fun e => ?_, fun e => ?_⟩
 rotate_left
 ·have hp : s.pb = [] := by
   cases hq : s.pb with
   | nil => rfl
   | cons w pb =>
    have := (I.signs w (by rw [hq]; exact List.mem_cons_self)).2.1
    rw [hq] at e
    simp at e
    exact (this e).elim
  walk_at "go"
  refine ok_Tuple ?_
  walk_at "go"
  refine ⟨_, _, _, S, (by walk_at "rps"), (by simp), fun t h S => ?_⟩
  refine St.fz S fun g4 k4 Y S => ?_
  refine k g4 t rl kd x ig as h m s ((k1.trans k2).trans (k3.trans k4)) Y (PA.gr k4) (R.gr k4) Mo (by walk_at "li") K hp ?_
  exact (St.front S.m43.tail.tail.tail.f4 (.i1)).del (.i3) (Same.refl _ _) |>.del (.i3) (Same.refl _ _)
 cases hq : s.pb with
 | nil => rw [hq] at e; cases e
 | cons wd pb =>
 have hf := I.few
 obtain ⟨rfl, rfl⟩ := hl (by rw [hq]; simp)
 obtain ⟨w1, w2, w3, w4, w5⟩ := I.signs wd (by rw [hq]; exact List.mem_cons_self)
 have hrs : s.rs.length ≤ 100 := by have := I.size; walk_at "lx"
 have hrl : ∀ r ∈ s.rs, r.1.length ≤ 200 := fun r hr => by have := (I.rlen r hr).1; walk_at "lx"
 rw [hq] at S
 rw [List.headD_cons, List.tail_cons] at S
 refine ok_s ?_
 refine ok_x_if ?_
 walk_at "go"
 refine out_ok (n := n + 9) R S Mo I.rules (by walk_at "li") hrl w1 w2 (by walk_at "li") (by walk_at "li") fun h t m' Mo' hm' u_ u_ S => ?_
 walk_at "go"
 have hless := KS.less M s (I.turn m1 m2 hq) hq
 have hkk : 0 < kk := by have : 0 < s.rank := by { unfold KS.rank; rw [hq, List.length_cons]; walk_at "lx" }; walk_at "lx"
 refine ⟨fun ea => ?_, fun ea => ?_⟩
 rotate_left
 ·have ea2 : asks s.rs wd = true := by
   cases hh : asks s.rs wd with
   | true => rfl
   | false => rw [hh] at ea; simp [intB] at ea
  have et : s.turn M wd pb = { s with pb := pb } := by unfold KS.turn; rw [if_pos ea2]
  have K' := KReach.turn K hq
  rw [et] at K' hless
  walk_at "gs"
  have hpb : pb.length ≤ 100 := by have := I.size; rw [hq, List.length_cons] at this; walk_at "lx"
  refine tokH (n := n + 4) X S.m43 (by walk_at "li") fun h t ks ln e S => ?_
  have S := S.m34
  walk_at "gs"
  have hr2 : KS.rank { s with pb := pb } < s.rank := hless
  exact hT _ _ ⟨kk - 1, (by first | exact step_lt hr2 hk | walk_at "lx"), g3, { s with pb := pb }, as, m', x, ig, o1, ks, ln, k3, K', PA, R, Mo', (by first | exact step_memo hr2 hk hm' hm | walk_at "lx"), (by first | exact step_le hr2 hk | walk_at "lx"), e, S⟩
 have ea2 : asks s.rs wd = false := by
  cases hh : asks s.rs wd with
  | false => rfl
  | true => rw [hh] at ea; simp [intB] at ea
 obtain ⟨w0, kz, rfl⟩ : ∃ w0 kz, wd = w0 ++ [kz] := ⟨wd.dropLast, wd.getLast w2, (List.dropLast_concat_getLast w2).symm⟩
 have hkz : kz = 34 ∨ kz = 92 := w1 kz (by simp)
 rw [List.dropLast_concat] at w4
 walk_at "gs"
 obtain ⟨v, hv⟩ : ∃ v, look s.md w0 = some v := by
  cases hh : look s.md w0 with
  | some v => exact ⟨v, rfl⟩
  | none => exact (look_none.mp hh w4).elim
 have hvw := I.made _ (look_some hv)
 have Dm := (((D.gr k1).gr k2).gr k3)
 have hwh := wholeOf_eq (M := M) (k := kz) hv
 have hww : IsWhole (wholeOf M s.md (w0 ++ [kz])) := wholeOf_whole m1 m2 I (by rw [List.dropLast_concat]; exact w4)
 have hmz : (mapOf M kz).length = 3 := by unfold mapOf; split; exact m1.1; exact m2.1
 rw [piece_butlast, List.dropLast_concat]
 refine ok_itemD (S.get (.i2)) rep_key (av := .str v) (by rw [at?_dm, hv]; rfl) ?_
 walk_at "av"
 walk_at "go"
 refine ok_lastS fun t => ?_
 walk_at "go"
 refine ok_itemD (S.here Dm) rep_key (av := .str (mapOf M kz)) (at_maps hkz) ?_
 walk_at "av"
 walk_at "go"
 refine behind_ok (n := n + 11) S hvw.2 hvw.1 hmz fun h t S => ?_
 have hb : (v.map fun k => (mapOf M kz).getD (k - 48) 0) = wholeOf M s.md (w0 ++ [kz]) := by rw [hwh]; rfl
 rw [hb]
 generalize hW : wholeOf M s.md (w0 ++ [kz]) = W at hww
 walk_at "go"
 have hnew : look s.md (w0 ++ [kz]) = none := look_none.mpr w5
 have hmdl : s.md.length ≤ 200 := by have := I.mlen; walk_at "lx"
 have hdl : ∀ xs : PM, (dm xs).length = xs.length := fun xs => by simp [dm]
 refine ok_setItemD (av := .str W) S (.i2) rep_key rep_str (by rw [hdl]; walk_at "lx") fun h S => ?_
 rw [dm_put hnew] at S
 have hgot : look (s.md ++ [(w0 ++ [kz], W)]) (w0 ++ [kz]) = some W := by
  unfold look at hnew ⊢
  rw [Option.map_eq_none_iff] at hnew
  rw [List.find?_append, hnew]
  simp
 walk_at "go"
 refine ok_x_if ?_
 walk_at "go"
 refine ok_itemD (S.get (.i2)) rep_key (av := .str W) (by rw [at?_dm, hgot]; rfl) ?_
 walk_at "av"
 walk_at "go"
 refine ok_inD (S.get (.i3)) nk rep_key ?_
 rw [at?_dm]
 walk_at "go"
 refine ⟨fun eb => ?_, fun eb => ?_⟩
 ·obtain ⟨u, hu⟩ : ∃ u, look s.kp W = some u := by
   cases hh : look s.kp W with
   | some u => exact ⟨u, rfl⟩
   | none => rw [hh] at eb; cases eb
  have et : s.turn M (w0 ++ [kz]) pb = { s with rs := s.rs ++ [(w0 ++ [kz], u)], md := s.md ++ [(w0 ++ [kz], W)], pb := pb } := by unfold KS.turn; rw [if_neg (by rw [ea2]; decide), hW, hu]
  have K' := KReach.turn K hq
  rw [et] at K' hless
  have I' := K'.ki m1 m2
  walk_at "go"
  refine ok_Tuple ?_
  walk_at "go"
  refine ok_itemD (S.get (.i2)) rep_key (av := .str W) (by rw [at?_dm, hgot]; rfl) ?_
  walk_at "av"
  walk_at "go"
  refine ok_itemD (S.get (.i3)) rep_key (av := .str u) (by rw [at?_dm, hu]; rfl) ?_
  walk_at "av"
  walk_at "go"
  refine ⟨_, _, _, S, (by walk_at "rps"), (by simp), fun tp h S => ?_⟩
  refine St.fz S fun g4 k4 Y S => ?_
  walk_at "go"
  refine ok_appendA S (.i1) rep_ref (by rw [refs_len, PA.len]; walk_at "lx") fun h S => ?_
  have S : St _ _ _ ((ig, _) :: (rl, isL (refs as ++ [.ref tp])) :: _) := S
  rw [← refs_snoc] at S
  walk_at "go"
  refine reader_ok (n := n) S.tail ((PA.gr k4).snoc (r := (w0 ++ [kz], u)) Y) (by simp; walk_at "lx") (fun r hr => ?_) fun g5 x' ig' h k5 R' S => ?_
  ·have h1 := (I'.rlen r hr).1
   have h2 := (I'.rules r hr).2.2
   have h3 := I'.few
   walk_at "lx"
  have X := X.gr (k4.trans k5)
  have X0 := X0.gr (k4.trans k5)
  walk_at "gs"
  have hpb : pb.length ≤ 100 := by have := I.size; rw [hq, List.length_cons] at this; walk_at "lx"
  refine tokH (n := n + 4) X S.m43 (by walk_at "li") fun h t ks ln e S => ?_
  have S := S.m34
  walk_at "gs"
  have hr2 : KS.rank { s with rs := s.rs ++ [(w0 ++ [kz], u)], md := s.md ++ [(w0 ++ [kz], W)], pb := pb } < s.rank := hless
  exact hT _ _ ⟨kk - 1, (by first | exact step_lt hr2 hk | walk_at "lx"), g5, { s with rs := s.rs ++ [(w0 ++ [kz], u)], md := s.md ++ [(w0 ++ [kz], W)], pb := pb }, _, _, x', ig', o1, ks, ln, k3.trans (k4.trans k5), K', ((PA.gr k4).snoc (r := (w0 ++ [kz], u)) Y).gr k5, R', MemoOk.start _, by simp; walk_at "lx", (by first | exact step_le hr2 hk | walk_at "lx"), e, S⟩
 ·have hu : look s.kp W = none := by
   cases hh : look s.kp W with
   | none => rfl
   | some u => rw [hh] at eb; cases eb
  have et : s.turn M (w0 ++ [kz]) pb = { s with kp := s.kp ++ [(W, w0 ++ [kz])], md := s.md ++ [(w0 ++ [kz], W)], pb := pb ++ [(w0 ++ [kz]) ++ [34], (w0 ++ [kz]) ++ [92]] } := by unfold KS.turn; rw [if_neg (by rw [ea2]; decide), hW, hu]
  have K' := KReach.turn K hq
  rw [et] at K' hless
  walk_at "go"
  refine ok_itemD (S.get (.i2)) rep_key (av := .str W) (by rw [at?_dm, hgot]; rfl) ?_
  walk_at "av"
  refine ok_setItemD (av := .str (w0 ++ [kz])) S (.i3) rep_key rep_str (by rw [hdl]; walk_at "lx") fun h S => ?_
  rw [dm_put hu] at S
  walk_at "go"
  refine ok_x_for (fun u_ => rfl) ?_
  walk_at "go"
  refine ok_iterD S nd (F.gr S.keep) fun it h S => ?_
  have hpb : pb.length ≤ 100 := by have := I.size; rw [hq, List.length_cons] at this; walk_at "lx"
  refine okC_forT (σ := Option AV) (srcA_dict (m := mapsD M) (ep := ep)) (fun i o1 => (ig, isDic (c2 w os) m') :: (rl, isL (refs as)) :: (mdd, isDic (c2 w os) (dm (s.md ++ [(w0 ++ [kz], W)]))) :: (kd, isDic (c2 w os) (dm (s.kp ++ [(W, w0 ++ [kz])]))) ::
   lexLed d q p st 1 [34, 34, 92, 34] (pb ++ ([[34], [92]].take i).map fun x => (w0 ++ [kz]) ++ x) ((L, isFr (keptFr md a o1 (some (.ref rl)) (some (.ref kd)) (some (.ref mdd)) (some (.ref x)) (some (.str (w0 ++ [kz]))))) :: l)) ?_ ?_ ?_ o1 (by rw [List.take_zero, List.map_nil, List.append_nil]; exact S)
  ·intro i o1 h W' S
   exact F.gr S.keep
  ·intro i T hT o1 h av v hi rv S
   rw [keys_maps] at hi
   revert av v
   refine turn_strs fun y t hy => ?_
   have hyl : y.length ≤ 1 := by
    have := List.mem_of_getElem? hy
    simp at this
    rcases this with rfl | rfl <;> simp
   walk_at "gs"
   refine pushA (n := n + 10) X S.m53 (by rw [List.length_append, List.length_map, List.length_take]; simp; walk_at "lx") fun h S => ?_
   have S := S.m35
   walk_at "go"
   exact hT _ _ ⟨_, by rw [take_snoc hy, List.map_append, ← List.append_assoc]; exact S⟩
  intro o1 h S
  rw [keys_maps] at S
  have S : St (c2 w os) g3 h ((ig, isDic (c2 w os) m') :: (rl, isL (refs as)) :: (mdd, isDic (c2 w os) (dm (s.md ++ [(w0 ++ [kz], W)]))) :: (kd, isDic (c2 w os) (dm (s.kp ++ [(W, w0 ++ [kz])]))) ::
   lexLed d q p st 1 [34, 34, 92, 34] (pb ++ [(w0 ++ [kz]) ++ [34], (w0 ++ [kz]) ++ [92]]) ((L, isFr (keptFr md a o1 (some (.ref rl)) (some (.ref kd)) (some (.ref mdd)) (some (.ref x)) (some (.str (w0 ++ [kz]))))) :: l)) := S
  walk_at "go"
  refine tokH (n := n + 4) X S.m43 (by simp; walk_at "lx") fun h t ks ln e S => ?_
  have S := S.m34
  walk_at "gs"
  have hr2 : KS.rank { s with kp := s.kp ++ [(W, w0 ++ [kz])], md := s.md ++ [(w0 ++ [kz], W)], pb := pb ++ [(w0 ++ [kz]) ++ [34], (w0 ++ [kz]) ++ [92]] } < s.rank := hless
  exact hT _ _ ⟨kk - 1, (by first | exact step_lt hr2 hk | walk_at "lx"), g3, { s with kp := s.kp ++ [(W, w0 ++ [kz])], md := s.md ++ [(w0 ++ [kz], W)], pb := pb ++ [(w0 ++ [kz]) ++ [34], (w0 ++ [kz]) ++ [92]] }, as, m', x, ig, o1, ks, ln, k3, K', PA, R, Mo', (by first | exact step_memo hr2 hk hm' hm | walk_at "lx"), (by first | exact step_le hr2 hk | walk_at "lx"), e, S⟩
theorem ok_neL0 {c : Cx} {h : Heap} {a b : Addr} {vs : List AV} (A1 : HO h a (isL vs)) (A2 : HO h b (isL [])) (p : P (.bool (!vs.isEmpty)) h) : Ok c n (compareOp .NotEq (.ref a) (.ref b)) P h := by
 obtain ⟨o1, e1, us, r1, q1⟩ := A1
 obtain ⟨o2, e2, us2, r2, q2⟩ := A2
 have : us2 = [] := by cases us2 with | nil => rfl | cons u r => exact r2.elim
 subst this
 have h1 := isList.is ⟨o1, e1, q1⟩
 have h2 := isList.is ⟨o2, e2, q2⟩
 have hl := r1.len
 intro A dr tk r
 show wpAny _ _ (richCompare .NotEq (.ref a) (.ref b)) _ _ _
 cases vs with
 | nil =>
  cases us with
  | cons _ _ => simp at hl
  | nil =>
  have z := SeqAt.RcNeAt.lists (s := c.at h dr tk) (A := A) (e := fun u_ => true) h1 h2 rfl r.units (fun j h1 h2 => by simp at h1)
  exact z c.prog c.w NoE (c.Q P) ⟨rfl, rfl, p⟩
 | cons v vs =>
  cases us with
  | nil => simp at hl
  | cons u us =>
  have z := SeqAt.RcNeAt.lists_lengths (s := c.at h dr tk) (A := A) h1 h2 (by simp) r.units
  exact z c.prog c.w NoE (c.Q P) ⟨rfl, rfl, p⟩
theorem gc_first {v_maps : Value} {av_maps : AV} (S : St (c2 w os) g h l) (r_maps : av_maps.rep v_maps)
  (k : ∀ L h', St (c2 w os) g h' ((L, isFr [((Str.ofString "maps"), some av_maps), ((Str.ofString "first"), none), ((Str.ofString "level"), none), ((Str.ofString "longer"), none), ((Str.ofString "sign"), none), ((Str.ofString "text"), none), ((Str.ofString "end"), none), ((Str.ofString "whole"), none)]) :: l) → Ok (c2 w os) n (execs bdfirst (mkEnv fdfirst 178 L [])) (kFn P) h') :
  OkC (c2 w os) (n + 1) (.call (.ref 178) ⟨[v_maps], []⟩) (fun fl h' => ∃ v, fl = .ret v ∧ P v h') h := by
 refine (okC_call (fd := fdfirst) S (S.topH.k _ _ (fn_first _)) rfl rfl rfl (codeRec_of S.topH.k (cd_first _)) nd_first ?_)
 have hb : bindArgs fdfirst ⟨[v_maps], []⟩ = pure [((Str.ofString "maps"), v_maps)] := by kernel_rfl
 rw [hb]
 refine ok_pure ⟨_, S, fun L h S => ?_⟩
 rw [ns_first, ce_first] at S
 rw [cf_first, hb_first]
 have S := S.weak .here fun o q => isFr_none q
 refine ok_bind_cons ?_
 refine ok_stM' S fk_first (by kernel_rfl) .here .here r_maps fun h S => ?_
 exact ok_bind_nil ⟨S.topH, okC_func ((k L _ S).mono fun f h' z => ⟨_, rfl, z⟩)⟩
theorem go_first {v_maps : Value} {av_maps : AV} (S : St (c2 w os) g h l) (r_maps : av_maps.rep v_maps)
  (k : ∀ L h', St (c2 w os) g h' ((L, isFr [((Str.ofString "maps"), some av_maps), ((Str.ofString "first"), none), ((Str.ofString "level"), none), ((Str.ofString "longer"), none), ((Str.ofString "sign"), none), ((Str.ofString "text"), none), ((Str.ofString "end"), none), ((Str.ofString "whole"), none)]) :: l) → Ok (c2 w os) n (execs bdfirst (mkEnv fdfirst 178 L [])) (kFn P) h') :
  Ok (c2 w os) (n + 1) (call (.ref 178) [v_maps]) P h := ok_call (gc_first S r_maps k)
noncomputable def rowsTo (M : List Nat × List Nat) (s : FS) (i : Nat) : FS := ([34, 92].take i).foldl (fun t k => FS.row M s.lo k t) ⟨s.fi, []⟩
theorem two_sg {i : Nat} {y : List Nat} (h : ([[34], [92]] : List (List Nat))[i]? = some y) : (i = 0 ∧ y = [34]) ∨ (i = 1 ∧ y = [92]) := by
 cases i with
 | zero => cases h; exact .inl ⟨rfl, rfl⟩
 | succ i => cases i with
  | zero => cases h; exact .inr ⟨rfl, rfl⟩
  | succ i => cases h
theorem rowsTo_fi {M : List Nat × List Nat} (m1 : IsWhole M.1) (m2 : IsWhole M.2) {b : Nat} {s : FS} (X : FJ b s) (i : Nat) : FI (b + 1) (rowsTo M s i) := by
 cases i with
 | zero => exact X.fi0
 | succ i => cases i with
 | zero => exact FI.row m1 m2 (.inl rfl) X.fi0 X.lev
 | succ i =>
  have : rowsTo M s (i + 2) = FS.row M s.lo 92 (FS.row M s.lo 34 ⟨s.fi, []⟩) := by simp [rowsTo]
  rw [this]; exact FI.row m1 m2 (.inr rfl) (FI.row m1 m2 (.inl rfl) X.fi0 X.lev) X.lev
noncomputable def firstFr (md fd : Addr) (o1 o2 o3 o4 o5 o6 : Option AV) : AM := [(Str.ofString "maps", some (AV.ref md)), (Str.ofString "first", some (AV.ref fd)), (Str.ofString "level", o1), (Str.ofString "longer", o2), (Str.ofString "sign", o3), (Str.ofString "text", o4), (Str.ofString "end", o5), (Str.ofString "whole", o6)]
section
variable {md : Addr} {fd : Addr} {o1 : Option AV} {o2 : Option AV} {o3 : Option AV} {o4 : Option AV} {o5 : Option AV} {o6 : Option AV} {v : AV}
theorem firstFr.h0 : HasA (firstFr md fd o1 o2 o3 o4 o5 o6) (Str.ofString "maps") (AV.ref md) := .here
theorem firstFr.h1 : HasA (firstFr md fd o1 o2 o3 o4 o5 o6) (Str.ofString "first") (AV.ref fd) := .i1
theorem firstFr.h2 : HasA (firstFr md fd (some v) o2 o3 o4 o5 o6) (Str.ofString "level") v := .i2
theorem firstFr.p2 : PutA (firstFr md fd o1 o2 o3 o4 o5 o6) (Str.ofString "level") v (firstFr md fd (some v) o2 o3 o4 o5 o6) := .i2
theorem firstFr.h3 : HasA (firstFr md fd o1 (some v) o3 o4 o5 o6) (Str.ofString "longer") v := .i3
theorem firstFr.p3 : PutA (firstFr md fd o1 o2 o3 o4 o5 o6) (Str.ofString "longer") v (firstFr md fd o1 (some v) o3 o4 o5 o6) := .i3
theorem firstFr.h4 : HasA (firstFr md fd o1 o2 (some v) o4 o5 o6) (Str.ofString "sign") v := .i4
theorem firstFr.p4 : PutA (firstFr md fd o1 o2 o3 o4 o5 o6) (Str.ofString "sign") v (firstFr md fd o1 o2 (some v) o4 o5 o6) := .i4
theorem firstFr.h5 : HasA (firstFr md fd o1 o2 o3 (some v) o5 o6) (Str.ofString "text") v := .i5
theorem firstFr.p5 : PutA (firstFr md fd o1 o2 o3 o4 o5 o6) (Str.ofString "text") v (firstFr md fd o1 o2 o3 (some v) o5 o6) := .i5
theorem firstFr.h6 : HasA (firstFr md fd o1 o2 o3 o4 (some v) o6) (Str.ofString "end") v := .i6
theorem firstFr.p6 : PutA (firstFr md fd o1 o2 o3 o4 o5 o6) (Str.ofString "end") v (firstFr md fd o1 o2 o3 o4 (some v) o6) := .i6
theorem firstFr.h7 : HasA (firstFr md fd o1 o2 o3 o4 o5 (some v)) (Str.ofString "whole") v := .i7
theorem firstFr.p7 : PutA (firstFr md fd o1 o2 o3 o4 o5 o6) (Str.ofString "whole") v (firstFr md fd o1 o2 o3 o4 o5 (some v)) := .i7
end
inductive FInv (c : Cx) (g0 : Heap) (M : List Nat × List Nat) (md L fd : Addr) (l : Led) (k : Nat) (h : Heap) : Prop
 | mk (g : Heap) (b : Nat) (s : FS) (as : List Addr) (lv : Addr) (o2 o3 o4 o5 o6 : Option AV) (kg : Gr g0 g) (K : FReach M b s) (PA : PairsAt g as s.lo) (hk : s.rank ≤ k)
  (S : St c g h ((lv, isL (refs as)) :: (fd, isDic c (dm s.fi)) :: (L, isFr (firstFr md fd (some (.ref lv)) o2 o3 o4 o5 o6)) :: l)) : FInv c g0 M md L fd l k h
set_option tactic.hygienic true in
theorem first_ok {md : Addr} {M : List Nat × List Nat} (S : St (c2 w os) g h l)
  (D : HO g md (isDic (c2 w os) (mapsD M))) (nd : NotSys md) (m1 : IsWhole M.1) (m2 : IsWhole M.2)
  (k : ∀ g' fd h' b s, Gr g g' → FReach M b s → s.lo = [] → St (c2 w os) g' h' ((fd, isDic (c2 w os) (dm s.fi)) :: l) → P (.ref fd) h') :
  Ok (c2 w os) (n + 4) (call (.ref 178) [.ref md]) P h := by
 refine go_first S rep_ref fun L h S => ok_s ?_
 obtain ⟨ep, F⟩ := D.fix
 walk_at "go"
 with_reducible refine ok_x_tups (names := [Str.ofString "first", Str.ofString "level"]) ?k1 ?k2 ?_
 case k1 => kernel_rfl
 case k2 => kernel_rfl
 refine ok_Tuple ?_
 walk_at "go"
 refine ok_Dict0 Str S fun fd h S => ?_
 walk_at "go"
 refine ok_Tuple ?_
 walk_at "gs"
 refine ⟨_, _, _, S, (by walk_at "rps"), (by simp), fun tp h S => ?_⟩
 refine St.fz S fun g1 k1 Y S => ?_
 have F := F.gr k1
 walk_at "go"
 rename_i lv
 rename St _ _ _ _ => S
 refine ⟨_, _, _, S, (by walk_at "rps"), (by simp), fun a' h S => ⟨_, _, _, _, rfl, S, S.get .here, rfl, fun h us r S => ?_⟩⟩
 revert us
 refine Reps.eC fun v1 r1 => ?_
 refine Reps.eC fun v2 r2 => ?_
 refine Reps.eN ?_
 cases r1
 cases r2
 have S := S.tail
 show Ok _ _ (assignInOrder [bindName _ (Str.ofString "level"), bindName _ (Str.ofString "first")] [_, _]) _ _
 refine ok_aio_cons (ok_bindName ?_)
 walk_at "go"
 refine ok_aio_cons (ok_bindName ?_)
 walk_at "gs"
 refine ok_x_while ?_
 refine okC_while (FInv (c2 w os) g1 M md L fd l) ?_ 28 ⟨g1, 0, _, [tp], lv, none, none, none, none, none, Gr.refl _, .start, ⟨Y, trivial⟩, by decide, S⟩
 rintro kk T hT h ⟨g2, b, s, as, lv, o2, o3, o4, o5, o6, k2, K, PA, hk, S⟩
 have J := K.fj m1 m2
 have F := F.gr k2
 walk_at "gs"
 refine ok_neL0 (S.get (.i1)) (S.get .here) ?_
 have S := S.tail
 walk_at "go"
 refine ⟨fun e => ?_, fun e => ?_⟩
 rotate_left
 ·have hp : s.lo = [] := by
   have := PA.len
   cases hq : s.lo with
   | nil => rfl
   | cons x r =>
    rw [hq] at this
    cases as with
    | nil => simp at this
    | cons y z => simp [refs] at e
  walk_at "go"
  exact k g2 fd _ b s (k1.trans k2) K hp (S.tail.del (.i1) (Same.refl _ _))
 have hne : s.lo ≠ [] := by
  intro hq
  have := PA.len
  rw [hq] at this
  cases as with
  | nil => simp [refs] at e
  | cons y z => simp at this
 walk_at "go"
 rename_i lo _ _
 rename St _ _ _ _ => S
 refine ok_x_for (fun u_ => rfl) ?_
 walk_at "go"
 refine ok_iterD S nd (F.gr S.keep) fun it h S => ?_
 refine okC_forA (srcA_dict (m := mapsD M) (ep := ep)) (fun i => GrInv g2 (rowsTo M s i).lo fun as' o3 o4 o5 o6 => (lo, isL (refs as')) :: (lv, isL (refs as)) :: (fd, isDic (c2 w os) (dm (rowsTo M s i).fi)) :: (L, isFr (firstFr md fd (some (.ref lv)) (some (.ref lo)) o3 o4 o5 o6)) :: l) ?_ ?_ ?_ _ (.mk [] o3 o4 o5 o6 (Gr.refl _) trivial) S
 ·rintro i g' h l' W' ⟨as', o3, o4, o5, o6, kg, PA'⟩ S
  exact (F.gr kg).gr S.keep
 ·rintro i T hT g' h l' av v hi ⟨as', o3, o4, o5, o6, kg, PA'⟩ rv S
  rw [keys_maps] at hi
  revert av v
  refine turn_strs fun y t hy => ?_
  obtain ⟨sg, rfl, hsg, hsr⟩ : ∃ sg, y = [sg] ∧ (sg = 34 ∨ sg = 92) ∧ rowsTo M s (i + 1) = FS.row M s.lo sg (rowsTo M s i) := by
   rcases two_sg hy with ⟨e, e'⟩ | ⟨e, e'⟩
   ·exact ⟨34, e', .inl rfl, by rw [e]; rfl⟩
   ·exact ⟨92, e', .inr rfl, by rw [e]; rfl⟩
  have J1 := rowsTo_fi m1 m2 J i
  generalize rowsTo M s i = t0 at J1 hsr PA' S
  walk_at "gs"
  refine ok_x_for (fun u_ => rfl) ?_
  walk_at "go"
  refine ok_iterLA S (S.get (.i2)) fun it2 h S => ?_
  refine okC_forA (srcA_list (vs := refs as)) (fun j => GrInv g' (FS.row M (s.lo.take j) sg t0).lo fun as'' o4 o5 o6 u_ => (it, isKI md (mapsD M).length ep (i + 1)) :: (lo, isL (refs as'')) :: (lv, isL (refs as)) :: (fd, isDic (c2 w os) (dm (FS.row M (s.lo.take j) sg t0).fi)) :: (L, isFr (firstFr md fd (some (.ref lv)) (some (.ref lo)) (some (.str [sg])) o4 o5 o6)) :: l) ?_ ?_ ?_ _ (.mk as' o4 o5 o6 none (Gr.refl _) PA') S
  ·rintro j g'' h l'' W' ⟨as'', o4, o5, o6, _, kg2, PA''⟩ S
   exact S.get (.i3)
  ·rintro j T hT g'' h l'' av v hj ⟨as'', o4, o5, o6, _, kg2, PA''⟩ rv S
   revert av v
   refine turn_refs fun ad had => ?_
   obtain ⟨⟨tx, en⟩, hen, Xe⟩ := (PA.gr (kg.trans kg2)).get had
   obtain ⟨q1, q2, q3⟩ := J.lev _ (List.mem_of_getElem? hen)
   have Xe : HO g'' ad (isT [.str tx, .str en]) := Xe
   have q1 : IsWhole en := q1
   have q3 : tx.length ≤ b := q3
   have hb27 : b ≤ 27 := Nat.le_trans (J.deep hne) J.few
   have J2 := FI.row m1 m2 hsg (level := s.lo.take j) J1 fun p hp => J.lev p (List.mem_of_mem_take hp)
   have hst : FS.row M (s.lo.take (j + 1)) sg t0 = FS.one M sg (FS.row M (s.lo.take j) sg t0) (tx, en) := fold_take (FS.one M sg) t0 s.lo j _ hen
   have Dm := ((D.gr k1).gr k2).gr (kg.trans kg2)
   generalize FS.row M (s.lo.take j) sg t0 = t1 at J2 hst PA'' S
   have hf1 := J2.few
   have hf2 := J2.size
   have hmz := mapOf_whole m1 m2 sg
   have nfd := S.sys (.i4)
   have hdl : ∀ xs : PM, (dm xs).length = xs.length := fun xs => by simp [dm]
   refine ok_assign_Tuple S (S.here Xe) rfl rfl fun h us r S => ?_
   revert us
   refine Reps.e2 fun t1' t2' => ?_
   walk_at "gs"
   refine ok_itemD (S.here Dm) rep_key (av := .str (mapOf M sg)) (at_maps hsg) ?_
   walk_at "av"
   walk_at "go"
   refine behind_ok (n := n + 2) S hmz.2 hmz.1 q1.1 fun h t S => ?_
   have hb : ((mapOf M sg).map fun k => en.getD (k - 48) 0) = behindOf (mapOf M sg) en := rfl
   rw [hb]
   unfold FS.one at hst
   simp only at hst
   generalize hW : behindOf (mapOf M sg) en = W at hst
   walk_at "gs"
   refine ok_x_if ?_
   walk_at "go"
   refine ok_notInD (S.get (.i4)) nfd rep_key ?_
   rw [at?_dm]
   walk_at "go"
   refine ⟨fun eb => ?_, fun eb => ?_⟩
   ·have hu : look t1.fi W = none := by
     cases hh : look t1.fi W with
     | none => rfl
     | some u => rw [hh] at eb; cases eb
    rw [hu] at hst
    walk_at "go"
    refine ok_setItemD (av := .str ([sg] ++ tx)) S (.i4) rep_key rep_str (by rw [hdl]; walk_at "lx") fun h S => ?_
    rw [dm_put hu] at S
    walk_at "go"
    refine ok_Tuple ?_
    walk_at "go"
    refine ⟨_, _, _, S, (by walk_at "rps"), (by simp), fun tp h S => ?_⟩
    refine St.fz S fun g4 k4 Y S => ?_
    walk_at "go"
    refine ok_appendA S (.i2) rep_ref (by rw [refs_len, PA''.len]; walk_at "lx") fun h S => ?_
    have S : St _ _ _ ((it2, _) :: (it, _) :: (lo, isL (refs as'' ++ [.ref tp])) :: _) := S
    rw [← refs_snoc] at S
    walk_at "go"
    refine hT _ _ ⟨g4, _, .mk (as'' ++ [tp]) _ _ _ none (kg2.trans k4) ?_, by rw [hst]; exact S⟩
    rw [hst]
    exact (PA''.gr k4).snoc (r := (sg :: tx, W)) Y
   ·obtain ⟨u, hu⟩ : ∃ u, look t1.fi W = some u := by
     cases hh : look t1.fi W with
     | some u => exact ⟨u, rfl⟩
     | none => rw [hh] at eb; cases eb
    rw [hu] at hst
    walk_at "go"
    refine hT _ _ ⟨g'', _, .mk as'' _ _ _ none kg2 ?_, by rw [hst]; exact S⟩
    rw [hst]
    exact PA''
  ·rintro g'' h l'' ⟨as'', o4, o5, o6, _, kg2, PA''⟩ S
   rw [refs_len, PA.len, List.take_length, ← hsr] at PA'' S
   walk_at "go"
   exact hT _ _ ⟨g'', _, .mk as'' _ _ _ _ (kg.trans kg2) PA'', S⟩
 rintro g' h l' ⟨as', o3, o4, o5, o6, kg, PA'⟩ S
 rw [keys_maps] at PA' S
 have er : rowsTo M s (strsOf [[34], [92]]).length = FS.round M s.fi s.lo := rfl
 rw [er] at PA' S
 walk_at "gs"
 have K' := FReach.round K hne
 have hl := FS.less (K'.fj m1 m2) hne
 exact hT _ _ ⟨kk - 1, step_lt hl hk, g', b + 1, _, as', lo, _, _, _, _, _, k2.trans kg, K', PA', step_le hl hk, S.f2.tail⟩
theorem gc_readby {v_rules v_reader v_text : Value} {av_rules av_reader av_text : AV} (S : St (c2 w os) g h l) (r_rules : av_rules.rep v_rules) (r_reader : av_reader.rep v_reader) (r_text : av_text.rep v_text)
  (k : ∀ L h', St (c2 w os) g h' ((L + 1, isC none) :: (L, isFr [((Str.ofString "rules"), some av_rules), ((Str.ofString "reader"), some av_reader), ((Str.ofString "text"), some av_text), ((Str.ofString "line"), none), ((Str.ofString "sign"), none), ((Str.ofString "waiting"), none), ((Str.ofString "left"), none), ((Str.ofString "right"), none), ((Str.ofString "one"), none), ((Str.ofString "k"), none)]) :: l) → Ok (c2 w os) n (execs bdreadby (mkEnv fdreadby 171 L [((Str.ofString "word"), L + 1)])) (kFn P) h') :
  OkC (c2 w os) (n + 1) (.call (.ref 171) ⟨[v_rules, v_reader, v_text], []⟩) (fun fl h' => ∃ v, fl = .ret v ∧ P v h') h := by
 refine (okC_call (fd := fdreadby) S (S.topH.k _ _ (fn_readby _)) rfl rfl rfl (codeRec_of S.topH.k (cd_readby _)) nd_readby ?_)
 have hb : bindArgs fdreadby ⟨[v_rules, v_reader, v_text], []⟩ = pure [((Str.ofString "rules"), v_rules), ((Str.ofString "reader"), v_reader), ((Str.ofString "text"), v_text)] := by kernel_rfl
 rw [hb]
 refine ok_pure ⟨_, S, fun L h S => ?_⟩
 rw [ns_readby, ce_readby] at S
 rw [cf_readby, hb_readby]
 have S := S.weak (.there .here) fun o q => isFr_none q
 refine ok_bind_cons ?_
 refine ok_stM' S fk_readby (by kernel_rfl) (.there .here) .here r_rules fun h S => ?_
 refine ok_bind_cons ?_
 refine ok_stM' S fk_readby (by kernel_rfl) (.there .here) (.there .here) r_reader fun h S => ?_
 refine ok_bind_cons ?_
 refine ok_stM' S fk_readby (by kernel_rfl) (.there .here) (.there (.there .here)) r_text fun h S => ?_
 exact ok_bind_nil ⟨S.topH, okC_func ((k L _ S).mono fun f h' z => ⟨_, rfl, z⟩)⟩
theorem go_readby {v_rules v_reader v_text : Value} {av_rules av_reader av_text : AV} (S : St (c2 w os) g h l) (r_rules : av_rules.rep v_rules) (r_reader : av_reader.rep v_reader) (r_text : av_text.rep v_text)
  (k : ∀ L h', St (c2 w os) g h' ((L + 1, isC none) :: (L, isFr [((Str.ofString "rules"), some av_rules), ((Str.ofString "reader"), some av_reader), ((Str.ofString "text"), some av_text), ((Str.ofString "line"), none), ((Str.ofString "sign"), none), ((Str.ofString "waiting"), none), ((Str.ofString "left"), none), ((Str.ofString "right"), none), ((Str.ofString "one"), none), ((Str.ofString "k"), none)]) :: l) → Ok (c2 w os) n (execs bdreadby (mkEnv fdreadby 171 L [((Str.ofString "word"), L + 1)])) (kFn P) h') :
  Ok (c2 w os) (n + 1) (call (.ref 171) [v_rules, v_reader, v_text]) P h := ok_call (gc_readby S r_rules r_reader r_text k)
noncomputable def rbFr (rl x a : Addr) (text : List Nat) (o1 o2 o3 o4 o5 o6 : Option AV) : AM := [(Str.ofString "rules", some (AV.ref rl)), (Str.ofString "reader", some (AV.ref x)), (Str.ofString "text", some (.str text)), (Str.ofString "line", some (AV.ref a)), (Str.ofString "sign", o1), (Str.ofString "waiting", o2), (Str.ofString "left", o3), (Str.ofString "right", o4), (Str.ofString "one", o5), (Str.ofString "k", o6)]
section
variable {rl : Addr} {x : Addr} {a : Addr} {text : List Nat} {o1 : Option AV} {o2 : Option AV} {o3 : Option AV} {o4 : Option AV} {o5 : Option AV} {o6 : Option AV} {v : AV}
theorem rbFr.h0 : HasA (rbFr rl x a text o1 o2 o3 o4 o5 o6) (Str.ofString "rules") (AV.ref rl) := .here
theorem rbFr.h1 : HasA (rbFr rl x a text o1 o2 o3 o4 o5 o6) (Str.ofString "reader") (AV.ref x) := .i1
theorem rbFr.h2 : HasA (rbFr rl x a text o1 o2 o3 o4 o5 o6) (Str.ofString "text") (.str text) := .i2
theorem rbFr.h3 : HasA (rbFr rl x a text o1 o2 o3 o4 o5 o6) (Str.ofString "line") (AV.ref a) := .i3
theorem rbFr.h4 : HasA (rbFr rl x a text (some v) o2 o3 o4 o5 o6) (Str.ofString "sign") v := .i4
theorem rbFr.p4 : PutA (rbFr rl x a text o1 o2 o3 o4 o5 o6) (Str.ofString "sign") v (rbFr rl x a text (some v) o2 o3 o4 o5 o6) := .i4
theorem rbFr.h5 : HasA (rbFr rl x a text o1 (some v) o3 o4 o5 o6) (Str.ofString "waiting") v := .i5
theorem rbFr.p5 : PutA (rbFr rl x a text o1 o2 o3 o4 o5 o6) (Str.ofString "waiting") v (rbFr rl x a text o1 (some v) o3 o4 o5 o6) := .i5
theorem rbFr.h6 : HasA (rbFr rl x a text o1 o2 (some v) o4 o5 o6) (Str.ofString "left") v := .i6
theorem rbFr.p6 : PutA (rbFr rl x a text o1 o2 o3 o4 o5 o6) (Str.ofString "left") v (rbFr rl x a text o1 o2 (some v) o4 o5 o6) := .i6
theorem rbFr.h7 : HasA (rbFr rl x a text o1 o2 o3 (some v) o5 o6) (Str.ofString "right") v := .i7
theorem rbFr.p7 : PutA (rbFr rl x a text o1 o2 o3 o4 o5 o6) (Str.ofString "right") v (rbFr rl x a text o1 o2 o3 (some v) o5 o6) := .i7
theorem rbFr.h8 : HasA (rbFr rl x a text o1 o2 o3 o4 (some v) o6) (Str.ofString "one") v := .i8
theorem rbFr.p8 : PutA (rbFr rl x a text o1 o2 o3 o4 o5 o6) (Str.ofString "one") v (rbFr rl x a text o1 o2 o3 o4 (some v) o6) := .i8
theorem rbFr.p9 : PutA (rbFr rl x a text o1 o2 o3 o4 o5 o6) (Str.ofString "k") v (rbFr rl x a text o1 o2 o3 o4 o5 (some v)) := .i9
end
noncomputable def ones (ks : List Nat) : List (List Nat) := ks.map fun k => [k]
inductive RInv (c : Cx) (g0 : Heap) (rs : List Rule) (text : List Nat) (rl x ig a d q p st L : Addr) (as : List Addr) (m0 : Nat) (l : Led) (k : Nat) (h : Heap) : Prop
 | mk (g : Heap) (wd line : List Nat) (m : DM Str) (o3 o4 o5 o6 : Option AV) (ks : List Nat) (ln : Int) (kg : Gr g0 g) (K : RReach rs text wd line) (Mo : MemoOk rs m) (hm : m.length + k ≤ m0) (hk : RB.rank wd line ≤ k) (hl : line ≠ [] → ks = [34, 34, 92, 34] ∧ ln = 1)
  (S : St c g h ((ig, isDic c m) :: lexLed d q p st ln ks (ones line).tail
   ((L + 1, isC (some (.str wd))) :: (L, isFr (rbFr rl x a text (some (.str ((ones line).headD []))) (some (.int line.length)) o3 o4 o5 o6)) :: l))) : RInv c g0 rs text rl x ig a d q p st L as m0 l k h
noncomputable def picks (w : List Nat) (p : Addr × Rule) : Option AV := if p.2.1 <:+ w then some (.ref p.1) else none
theorem picks_first {g : Heap} {w : List Nat}  {as : List Addr} : ∀ {rs : List Rule} {r : Rule}, PairsAt g as rs → rs.find? (fun r => decide (r.1 <:+ w)) = some r → ∃ a rest, (as.zip rs).filterMap (picks w) = .ref a :: rest ∧ HO g a (isT [.str r.1, .str r.2]) := by
 induction as with
 | nil => intro rs r h e; cases rs with
  | nil => cases e
  | cons _ _ => exact h.elim
 | cons a as ih => intro rs r h e; cases rs with
  | nil => exact h.elim
  | cons q rs =>
  rw [List.zip_cons_cons, List.filterMap_cons]
  rw [List.find?_cons] at e
  by_cases hq : q.1 <:+ w
  ·simp only [hq, decide_true] at e
   cases e
   exact ⟨a, _, by simp [picks, hq]; rfl, h.1⟩
  ·simp only [hq, decide_false] at e
   obtain ⟨b, rest, e2, H⟩ := ih h.2 e
   exact ⟨b, rest, by simp [picks, hq]; exact e2, H⟩
theorem zip_get {as : List Addr} {rs : List Rule} {i : Nat} {a : Addr} {r : Rule} (h1 : as[i]? = some a) (h2 : rs[i]? = some r) : (as.zip rs)[i]? = some (a, r) := by
 rw [List.getElem?_zip_eq_some]; exact ⟨h1, h2⟩
theorem tail_is {w r : List Nat} (h0 : r ≠ []) : (piece w (some (-(r.length : Int))) none = r) ↔ r <:+ w := by
 rw [piece_tail w _ (List.length_pos_iff.mpr h0)]
 constructor
 ·intro e; rw [← e]; exact List.drop_suffix _ _
 ·intro h; exact (List.suffix_iff_eq_drop.mp h).symm
theorem piece_lens {w v : List Nat} : piece w none (some ((w.length : Int) - (v.length : Int))) = w.take (w.length - v.length) ∨ w.length < v.length := by
 rcases Nat.lt_or_ge w.length v.length with h | h
 ·exact .inr h
 ·left
  rw [piece_to w (by walk_at "li")]
  congr 1; walk_at "lx"
set_option tactic.hygienic true in
theorem readby_ok {M : List Nat × List Nat} {rl x ig : Addr} {rs : List Rule} {as : List Addr} {m : DM Str} {text : List Nat} {tt : Tok} (m1 : IsWhole M.1) (m2 : IsWhole M.2) (F : RulesFine M rs) (T : LexTab g)
  (S : St (c2 w os) g h ((ig, isDic (c2 w os) m) :: l)) (R : RdS (c2 w os) g x ig (modsOf rs) ((dirsOf rs).map npath)) (PA : PairsAt g as rs) (HR : HO g rl (isL (refs as))) (Mo : MemoOk rs m) (hm : m.length ≤ 1000) (RO : RulesOk rs) (hrs : rs.length ≤ 100) (hrl : ∀ r ∈ rs, r.1.length ≤ 100)
  (hs : IsSigns text) (h0 : text ≠ []) (hz : text.length ≤ 12)
  (k : ∀ g' h' wd t, Gr g g' → St (c2 w os) g' h' l → RReach rs text wd [] → P (.str (str wd) t) h') :
  Ok (c2 w os) (n + 13) (call (.ref 171) [.ref rl, .ref x, .str (str text) tt]) P h := by
 refine go_readby S rep_ref rep_ref rep_str fun L h S => ok_s ?_
 walk_at "go"
 refine lexer_hit (n := n + 3) (ks := [34, 34, 92, 34]) T S (by simp) fun g1 a d q p st h k1 X S => ?_
 have X0 : HO g1 a (isInst 59 d) := ⟨_, X.obj, rfl⟩
 walk_at "go"
 refine ok_x_for (fun u_ => rfl) ?_
 walk_at "go"
 rename_i it
 rename St _ _ _ _ => S
 have e0 : ∀ (i : Nat) (k : Nat), text[i]? = some k → ones (text.take (i + 1)) = ones (text.take i) ++ [[k]] := fun i k h => by rw [take_snoc h]; simp [ones]
 refine okC_forT (σ := Option AV) srcA_str (fun i o1 => lexLed d q p st 1 [34, 34, 92, 34] (ones (text.take i)) ((L + 1, isC none) :: (L, isFr (rbFr rl x a text o1 none none none none none)) :: (ig, isDic (c2 w os) m) :: l)) ?_ ?_ ?_ none S
 ·intro i o1 h W' S; trivial
 ·intro i T hT o1 h av v hi rv S
  revert av v
  refine turn_signs fun kk t hx => ?_
  have hpl : (ones (text.take i)).length ≤ 12 := by unfold ones; rw [List.length_map, List.length_take]; walk_at "lx"
  walk_at "gs"
  refine pushA (n := n + 10) X S.b4 (by walk_at "li") fun h S => ?_
  walk_at "go"
  exact hT _ _ ⟨_, by rw [e0 _ _ hx]; exact S.f4⟩
 intro o1 h S
 have S : St (c2 w os) g1 h (lexLed d q p st 1 [34, 34, 92, 34] (ones text) ((L + 1, isC none) :: (L, isFr (rbFr rl x a text o1 none none none none none)) :: (ig, isDic (c2 w os) m) :: l)) := by
  rw [signs_len, List.take_length] at S; exact S
 walk_at "go"
 refine ok_Tuple ?_
 walk_at "gs"
 refine ⟨_, _, _, S, (by walk_at "rps"), (by simp), fun tp h S => ?_⟩
 refine ok_assign_Tuple S (S.get .here) rfl rfl fun h us r S => ?_
 revert us
 first | refine Reps.eS fun t1 => ?_ | refine Reps.eI fun t1 => ?_
 first | refine Reps.eS fun t2 => ?_ | refine Reps.eI fun t2 => ?_
 refine Reps.eN ?_
 have S := S.tail
 walk_at "gs"
 have hl1 : (ones text).length = text.length := by simp [ones]
 refine tokH (n := n + 4) X S (by walk_at "li") fun h t ks ln e S => ?_
 walk_at "gs"
 have S := St.front S (a := ig) (.i5)
 refine ok_x_while ?_
 refine okC_while (RInv (c2 w os) g1 rs text rl x ig a d q p st L as 150000 l) ?_ 140000 ⟨g1, [], text, m, none, none, none, none, ks, ln, Gr.refl _, .start, Mo, by walk_at "li", ?_, fun h => e (by simpa [ones] using h), S⟩
 rotate_left
 ·unfold RB.rank
  rw [List.nil_append]
  have := place_hi text
  have h3 : 2 ^ (text.length + 1) ≤ 2 ^ 13 := Nat.pow_le_pow_right (by decide) (by walk_at "li")
  walk_at "lx"
 rintro kk T hT h ⟨g2, wd, ln, m, o3, o4, o5, o6, ks, lno, k2, K, Mo, hm, hk, hl, S⟩
 have I := K.ri m1 m2 F hs h0
 have X := X.gr k2
 have X0 := X0.gr k2
 have R := R.gr (k1.trans k2)
 have PA := PA.gr (k1.trans k2)
 have HR := HR.gr (k1.trans k2)
 walk_at "go"
 refine ⟨fun e => ?_, fun e => ?_⟩
 rotate_left
 ·cases ln with
  | cons w pb => simp [ones] at e
  | nil =>
  walk_at "gs"
  exact k _ _ _ _ (k1.trans k2) S.tail.tail.tail.tail.tail.tail K
 cases ln with
 | nil => simp [ones] at e
 | cons sg ln' =>
 obtain ⟨rfl, rfl⟩ := hl (by simp)
 have hlen : wd.length + (ln'.length + 1) ≤ 12 := by
  have := place_len I.le
  rw [List.length_append, List.length_cons] at this
  walk_at "lx"
 have S : St (c2 w os) g2 h ((ig, isDic (c2 w os) m) :: lexLed d q p st 1 [34, 34, 92, 34] (ones ln') ((L + 1, isC (some (.str wd))) :: (L, isFr (rbFr rl x a text (some (.str [sg])) (some (.int (ln'.length + 1 : Nat))) o3 o4 o5 o6)) :: l)) := S
 walk_at "go"
 refine ok_Tuple ?_
 walk_at "gs"
 refine ⟨_, _, _, S, (by walk_at "rps"), (by simp), fun tp h S => ?_⟩
 refine ok_assign_Tuple S (S.get .here) rfl rfl fun h us r S => ?_
 revert us
 first | refine Reps.eS fun t1 => ?_ | refine Reps.eI fun t1 => ?_
 first | refine Reps.eS fun t2 => ?_ | refine Reps.eI fun t2 => ?_
 refine Reps.eN ?_
 have S := S.tail
 walk_at "gs"
 have ew : ((ln'.length + 1 : Nat) : Int) - 1 = (ln'.length : Int) := by walk_at "li"
 rw [ew] at S
 refine ok_x_if ?_
 walk_at "go"
 have hw : IsSigns (wd ++ [sg]) := I.signs.pre ⟨ln', by simp⟩
 refine out_ok (n := n + 9) R S Mo RO (by walk_at "li") (fun r hr => by have := hrl r hr; walk_at "lx") hw (by simp) (by simp; walk_at "lx") (by walk_at "li") fun h t m' Mo' hm' u_ u_ S => ?_
 walk_at "go"
 have hstep := (K.turn)
 have hless := RB.less m1 m2 F hz I
 refine ⟨fun ea => ?_, fun ea => ?_⟩
 rotate_left
 ·have hn : rs.find? (fun r => decide (r.1 <:+ wd ++ [sg])) = none := by
   rw [List.find?_eq_none]
   intro r hr hd
   have ha : asks rs (wd ++ [sg]) = true := asks_iff.mpr ⟨r, hr, of_decide_eq_true hd⟩
   rw [ha] at ea; simp [intB] at ea
  rw [RB.miss hn] at hstep hless
  have hol : (ones ln').length = ln'.length := by simp [ones]
  walk_at "gs"
  refine tokH (n := n + 4) X S.b4 (by walk_at "li") fun h t ks lnn e S => ?_
  have S := S.f4
  walk_at "gs"
  have hless : RB.rank (wd ++ [sg]) ln' < RB.rank wd (sg :: ln') := hless
  exact hT _ _ ⟨kk - 1, (by first | exact step_lt hless hk | walk_at "lx"), g2, wd ++ [sg], ln', m', o3, o4, o5, o6, ks, lnn, k2, hstep, Mo', (by first | exact step_memo hless hk hm' hm | walk_at "lx"), (by first | exact step_le hless hk | walk_at "lx"), fun h => e (by simpa [ones] using h), S⟩
 have ha : asks rs (wd ++ [sg]) = true := by
  cases hh : asks rs (wd ++ [sg]) with
  | true => rfl
  | false => rw [hh] at ea; simp [intB] at ea
 obtain ⟨r0, hf⟩ : ∃ r0, rs.find? (fun r => decide (r.1 <:+ wd ++ [sg])) = some r0 := by
  cases hh : rs.find? (fun r => decide (r.1 <:+ wd ++ [sg])) with
  | some r0 => exact ⟨r0, rfl⟩
  | none =>
   obtain ⟨q, hr, hd⟩ := asks_iff.mp ha
   exact (List.find?_eq_none.mp hh q hr (decide_eq_true hd)).elim
 rw [RB.find hf] at hstep hless
 have hr := List.mem_of_find?_eq_some hf
 have hsu : r0.1 <:+ wd ++ [sg] := of_decide_eq_true (List.find?_some (p := fun r : Rule => decide (r.1 <:+ wd ++ [sg])) hf)
 have hrs' := hsu.length_le
 have hr2 := (RO r0 hr).2.2
 have hal := PA.len
 generalize hwq : wd ++ [sg] = wq at *
 have hwl : wq.length ≤ 12 := by rw [← hwq, List.length_append, List.length_singleton]; walk_at "lx"
 walk_at "go"
 refine ok_fmapI [Str.ofString ".0", Str.ofString "rule"] (fun u_ => rfl) rfl rfl (by kernel_rfl) (by kernel_rfl) (by decide) ?_
 walk_at "gs"
 refine ok_iterLA S (S.here HR) fun it h S => ?_
 refine ⟨_, _, _, _, _, _, rfl, srcA_list, by rw [refs_len]; walk_at "lx", S, fun h l' S => S.right.here HR, fun i => ((as.zip rs)[i]?).bind (picks wq), ?_, ?_⟩
 ·rintro i C D ys mm h av v hi rv hmm S
  revert av v
  refine turn_refs fun ad hai => ?_
  obtain ⟨⟨q1, q2⟩, hri, Xa⟩ := PA.get hai
  have hq1 := (RO _ (List.mem_of_getElem? hri)).2.1
  have hq2 := hrl _ (List.mem_of_getElem? hri)
  simp only at hq1 hq2
  revert mm
  refine shapeE2 fun p1 p2 => ?_
  intro S
  walk_at "gs"
  refine ok_item_T (S.here Xa) (by decide) (by decide) rfl ?_
  walk_at "av"
  walk_at "gs"
  refine ok_item_T (S.here Xa) (by decide) (by decide) rfl ?_
  walk_at "av"
  walk_at "go"
  refine ⟨fun e => ?_, fun e => ?_⟩
  ·have e := (tail_is hq1).mp (of_decide_eq_true e)
   refine ⟨.ref ad, by rw [zip_get hai hri]; simp [picks, e], ?_⟩
   walk_at "go"
   exact ⟨_, rfl, rep_ref, S⟩
  ·have e := fun h => of_decide_eq_false e ((tail_is hq1).mpr h)
   exact ⟨by rw [zip_get hai hri]; simp [picks]; exact e, _, rfl, S⟩
 intro D h S
 have ez : (List.range (refs as).length).filterMap (fun i => ((as.zip rs)[i]?).bind (picks wq)) = (as.zip rs).filterMap (picks wq) := by
  have : (refs as).length = (as.zip rs).length := by rw [refs_len, List.length_zip, hal]; simp
  rw [this, range_fmap]
 rw [ez] at S
 have hzl : ((as.zip rs).filterMap (picks wq)).length ≤ 100 := by
  have := List.length_filterMap_le (picks wq) (as.zip rs)
  rw [List.length_zip] at this; walk_at "lx"
 obtain ⟨a0, rest, e2, H0⟩ := picks_first PA hf
 walk_at "go"
 refine ok_Tuple ?_
 walk_at "gs"
 refine ⟨_, _, _, S, (by walk_at "rps"), (by simp), fun tp h S => ?_⟩
 walk_at "gs"
 refine ok_addLA S (S.get (.i2)) (S.get .here) (by simp; walk_at "lx") fun xl h S => ?_
 walk_at "go"
 refine ok_item_L (av := .ref a0) (S.get .here) (by decide) (by decide) (by rw [e2]; rfl) ?_
 walk_at "av"
 walk_at "go"
 refine ok_assign_Tuple S (S.here H0) rfl rfl fun h us rr S => ?_
 revert us
 refine Reps.e2 fun t1' t2' => ?_
 have S := S.tail.tail.tail.tail
 walk_at "gs"
 have e4 : piece wq none (some ((wq.length : Int) - (r0.1.length : Int))) = wq.take (wq.length - r0.1.length) := by
  rcases piece_lens (w := wq) (v := r0.1) with e | e
  ·exact e
  ·walk_at "lx"
 rw [e4] at S
 have hol : (ones ln').length = ln'.length := by simp [ones]
 have hr3 : r0.2.length ≤ 12 := by walk_at "li"
 generalize wq.take (wq.length - r0.1.length) = wt at hstep hless S
 refine ok_x_for (fun u_ => rfl) ?_
 walk_at "go"
 rename_i it2
 rename St _ _ _ _ => S
 have e5 : ∀ (i : Nat) (k : Nat), r0.2[i]? = some k → ones (r0.2.take (i + 1)) = ones (r0.2.take i) ++ [[k]] := fun i k h => by rw [take_snoc h]; simp [ones]
 have e6 : ∀ i, (ones (r0.2.take i)).length ≤ 12 := fun i => by unfold ones; rw [List.length_map, List.length_take]; walk_at "lx"
 refine okC_forT (σ := Option AV) srcA_str (fun i o5 => (ig, isDic (c2 w os) m') :: lexLed d q p st 1 [34, 34, 92, 34] (ones ln' ++ ones (r0.2.take i)) ((L + 1, isC (some (.str wt))) :: (L, isFr (rbFr rl x a text (some (.str [sg])) (some (.int ln'.length)) (some (.str r0.1)) (some (.str r0.2)) o5 o6)) :: l)) ?_ ?_ ?_ o5 (by rw [show ones ln' ++ ones (r0.2.take 0) = ones ln' from List.append_nil _]; exact S)
 ·intro i o5 h W' S; trivial
 ·intro i T hT o5 h av v hi rv S
  revert av v
  refine turn_signs fun kk' t hx => ?_
  have := e6 i
  walk_at "gs"
  refine pushA (n := n + 10) X S.m23 (by rw [List.length_append]; walk_at "lx") fun h S => ?_
  walk_at "go"
  exact hT _ _ ⟨_, by rw [e5 _ _ hx, ← List.append_assoc]; exact S.m32⟩
 intro o5 h S
 rw [signs_len, List.take_length] at S
 walk_at "go"
 refine ok_x_for (fun u_ => rfl) ?_
 walk_at "go"
 refine ok_range1 S fun ra h S => ?_
 walk_at "go"
 refine ok_iter_rangeN S (S.get .here) (by walk_at "li") fun it3 h S => ?_
 have S := S.del (.i1) (Same.refl _ _)
 refine okC_forT (σ := Option AV) (srcA_range (x := 0) (s := 1) (N := ln'.length)) (fun i o6 => (ig, isDic (c2 w os) m') :: lexLed d q p st 1 [34, 34, 92, 34] ((ones ln').drop i ++ ones r0.2 ++ (ones ln').take i) ((L + 1, isC (some (.str wt))) :: (L, isFr (rbFr rl x a text (some (.str [sg])) (some (.int ln'.length)) (some (.str r0.1)) (some (.str r0.2)) o5 o6)) :: l)) ?_ ?_ ?_ o6 (by rw [List.drop_zero, List.take_zero, List.append_nil]; exact S)
 ·intro i o6 h W' S; trivial
 ·intro i T hT o6 h av v hi rv S
  revert av v
  refine turn_ints fun t hi => ?_
  have hor : (ones r0.2).length = r0.2.length := by simp [ones]
  have hil : i < (ones ln').length := by walk_at "li"
  rw [List.drop_eq_getElem_cons hil] at S
  generalize hy : (ones ln')[i] = y at S
  rw [List.cons_append, List.cons_append] at S
  have hty : (ones ln').take (i + 1) = (ones ln').take i ++ [y] := take_snoc (by rw [List.getElem?_eq_getElem hil, hy])
  walk_at "gs"
  refine tokA_pop (n := n + 4) X S.m23 (by rw [List.length_append, List.length_append, List.length_drop, List.length_take]; walk_at "lx") fun h t S => ?_
  have S := S.m32
  walk_at "gs"
  refine pushA (n := n + 10) X S.m23 (by rw [List.length_append, List.length_append, List.length_drop, List.length_take]; walk_at "lx") fun h S => ?_
  walk_at "go"
  exact hT _ _ ⟨_, by rw [hty, ← List.append_assoc]; exact S.m32⟩
 intro o6 h S
 have e8 : (ones ln').drop ln'.length ++ ones r0.2 ++ (ones ln').take ln'.length = ones (r0.2 ++ ln') := by
  rw [← hol, List.drop_length, List.take_length]; simp [ones]
 rw [ints_len, e8] at S
 walk_at "gs"
 have ew2 : (ln'.length : Int) + (r0.2.length : Int) = ((r0.2 ++ ln').length : Nat) := by rw [List.length_append]; walk_at "lx"
 rw [ew2] at S
 refine tokH (n := n + 4) X S.b4 (by simp [ones]; walk_at "lx") fun h t ks lnn e S => ?_
 have S := S.f4
 walk_at "gs"
 have hless : RB.rank wt (r0.2 ++ ln') < RB.rank wd (sg :: ln') := hless
 exact hT _ _ ⟨kk - 1, (by first | exact step_lt hless hk | walk_at "lx"), g2, wt, r0.2 ++ ln', m', _, _, _, _, ks, lnn, k2, hstep, Mo', (by first | exact step_memo hless hk hm' hm | walk_at "lx"), (by first | exact step_le hless hk | walk_at "lx"), fun h => e (by simpa [ones] using h), S⟩
theorem lt_place {a : List Nat} : ∀ {b : List Nat}, IsSigns a → IsSigns b → a.length = b.length → (a < b ↔ place a < place b) := by
 induction a with
 | nil => intro b _ _ h; cases b with
  | nil => simp -iota [place]
  | cons y b => cases h
 | cons x a ih0 => intro b ha hb h; cases b with
  | nil => cases h
  | cons y b =>
  have hl : a.length = b.length := by simpa -iota using h
  have ih := ih0 (fun k hk => ha k (List.mem_cons_of_mem _ hk)) (fun k hk => hb k (List.mem_cons_of_mem _ hk)) hl
  rw [List.cons_lt_cons_iff, ih, place_cons, place_cons, hl]
  have h1 := place_hi a
  have h2 := place_hi b
  have h3 := place_lo a
  have h4 := place_lo b
  rw [Nat.pow_succ] at h1 h2
  rw [hl] at h1 h3
  rcases ha x List.mem_cons_self with rfl | rfl <;> rcases hb y List.mem_cons_self with rfl | rfl <;> simp -iota <;> lia
theorem kl_place {a b : List Nat} (ha : IsSigns a) (hb : IsSigns b) : kl a b = decide (place a < place b) := by
 unfold kl
 by_cases h : a.length = b.length
 ·have e : ((a.length : Int) == b.length) = true := by rw [beq_iff_eq]; lia
  rw [if_pos e]
  by_cases h2 : a = b
  ·subst h2
   rw [if_pos rfl]
   simp -iota
  ·rw [if_neg (fun q => h2 (str_inj.mp q))]
   rw [Bool.eq_iff_iff, decide_eq_true_iff, decide_eq_true_iff]
   exact lt_place ha hb h
 ·have e : ¬ ((a.length : Int) == b.length) = true := by rw [beq_iff_eq]; lia
  rw [if_neg e, Bool.eq_iff_iff, decide_eq_true_iff, decide_eq_true_iff]
  constructor
  ·intro q; exact place_lt (by lia)
  ·intro q; have := place_len (Nat.le_of_lt q); lia
section
variable {N : Nat} {lt : Nat → Nat → Bool}
theorem asc_eq (p : Array Nat) (f n : Nat) : kas_asc p (f + 1) n = .ask (p.getD n 0) (p.getD (n - 1) 0) fun c => if c = true then .ret n else kas_asc p f (n + 1) := rfl
theorem place_eq (p : Array Nat) (k f l r : Nat) : kas_place p k (f + 1) l r = if l ≥ r then .ret l else .ask (p.getD k 0) (p.getD ((l + r) / 2) 0) fun c => if c = true then kas_place p k f l ((l + r) / 2) else kas_place p k f ((l + r) / 2 + 1) r := rfl
theorem bin_eq (f : Nat) (p : Array Nat) (k : Nat) : kas_bin (f + 1) p k = (kas_place p k k 0 k).bind fun l => kas_bin f (bubble p k (k - l)) (k + 1) := rfl
theorem runs_asc {p : Array Nat} {K : Nat} (hp : ∀ i, i < N → p.getD i 0 = i) (hK : K < N) (h1 : ∀ m, 1 ≤ m → m < K → lt m (m - 1) = false) (h2 : lt K (K - 1) = true)  (f : Nat) : ∀ (n : Nat), 1 ≤ n → n ≤ K → K - n < f → Runs N lt (kas_asc p f n) K := by
 induction f with
 | zero => intro n _ _ h; exact (Nat.not_lt_zero _ h).elim
 | succ f ih =>
  intro n hn hk h
  rw [asc_eq, hp n (by lia), hp (n - 1) (by lia)]
  refine .ask (by lia) (by lia) ?_
  by_cases e : n = K
  ·subst e; rw [h2, if_pos rfl]; exact .ret _
  ·rw [h1 n hn (by lia), if_neg (by simp -iota)]
   exact ih (n + 1) (by lia) (by lia) (by lia)
theorem runs_place0 {p : Array Nat} {k : Nat} (hk : p.getD k 0 < N)  (f : Nat) : ∀ (r : Nat), r ≤ f → (∀ j, j < r → p.getD j 0 < N ∧ lt (p.getD k 0) (p.getD j 0) = true) → Runs N lt (kas_place p k f 0 r) 0 := by
 induction f with
 | zero => intro r _ _; exact .ret _
 | succ f ih =>
  intro r hr h
  rw [place_eq]
  by_cases e : 0 ≥ r
  ·rw [if_pos e]; exact .ret _
  ·rw [if_neg e]
   obtain ⟨a, b⟩ := h ((0 + r) / 2) (by lia)
   refine .ask hk a ?_
   rw [b, if_pos rfl]
   exact ih _ (by lia) fun j hj => h j (by lia)
theorem runs_place1 {p : Array Nat} {k : Nat} (hk : p.getD k 0 < N) (h0 : p.getD 0 0 < N ∧ lt (p.getD k 0) (p.getD 0 0) = false)  (f : Nat) : ∀ (r : Nat), 1 ≤ r → r ≤ f → (∀ j, 1 ≤ j → j < r → p.getD j 0 < N ∧ lt (p.getD k 0) (p.getD j 0) = true) → Runs N lt (kas_place p k f 0 r) 1 := by
 induction f with
 | zero => intro r h1 h2 _; exact (Nat.not_succ_le_zero _ (Nat.le_trans h1 h2)).elim
 | succ f ih =>
  intro r h1 hr h
  rw [place_eq]
  rw [if_neg (by lia)]
  by_cases e : (0 + r) / 2 = 0
  ·rw [e]
   refine .ask hk h0.1 ?_
   rw [h0.2, if_neg (by simp -iota)]
   have : r = 1 := by lia
   subst this
   cases f with
   | zero => exact .ret _
   | succ f => rw [place_eq, if_pos (by lia)]; exact .ret _
  ·obtain ⟨a, b⟩ := h ((0 + r) / 2) (by lia) (by lia)
   refine .ask hk a ?_
   rw [b, if_pos rfl]
   exact ih _ (by lia) (by lia) fun j hj hj2 => h j hj (by lia)
end
theorem getD_of {p : Array Nat} {i v : Nat} (h : p[i]? = some v) : p.getD i 0 = v := by
 rw [Array.getD_eq_getD_getElem?, h]; rfl
theorem runs_sort {lt : Nat → Nat → Bool} {K : Nat} (hK : 2 ≤ K) (h1 : ∀ m, 1 ≤ m → m < K → lt m (m - 1) = false) (h2 : ∀ j, j < K → lt K j = true) (h3 : lt 0 (K - 1) = true) (h4 : ∀ j, j < K → lt (K + 1) j = true) (h5 : lt (K + 1) K = false) :
  ∃ p : Array Nat, Runs (K + 2) lt (kas_sort (K + 2)) p ∧ p.toList = K :: (K + 1) :: List.range K := by
 have hp : ∀ i, i < K + 2 → (List.toArray (List.range (K + 2)))[i]? = some i := fun i hi => by simp -iota [hi]
 have hpd : ∀ i, i < K + 2 → (List.toArray (List.range (K + 2))).getD i 0 = i := fun i hi => getD_of (hp i hi)
 have hsz : (List.toArray (List.range (K + 2))).size = K + 2 := by simp -iota
 generalize hP : List.toArray (List.range (K + 2)) = P at hp hpd hsz
 have b1 := getElem?_bubble (xs := P) (src := K) (by lia) K (Nat.le_refl _)
 have z1 : (bubble P K K).size = K + 2 := by rw [bubble_size, hsz]
 generalize hP1 : bubble P K K = P1 at b1 z1
 have g0 : P1[0]? = some K := by rw [b1 0, if_pos (by lia)]; exact hp K (by lia)
 have g1 : ∀ i, i < K → P1[i + 1]? = some i := fun i hi => by
  rw [b1 (i + 1), if_neg (by lia), if_pos (by lia)]; exact hp i (by lia)
 have g2 : P1[K + 1]? = some (K + 1) := by
  rw [b1 (K + 1), if_neg (by lia), if_neg (by lia)]; exact hp (K + 1) (by lia)
 have b2 := getElem?_bubble (xs := P1) (src := K + 1) (by lia) K (by lia)
 have z2 : (bubble P1 (K + 1) K).size = K + 2 := by rw [bubble_size, z1]
 generalize hP2 : bubble P1 (K + 1) K = P2 at b2 z2
 have q0 : P2[0]? = some K := by rw [b2 0, if_neg (by lia), if_neg (by lia)]; exact g0
 have q1 : P2[1]? = some (K + 1) := by rw [b2 1, if_pos (by lia)]; exact g2
 have q2 : ∀ i, i < K → P2[i + 2]? = some i := fun i hi => by
  rw [b2 (i + 2), if_neg (by lia), if_pos (by lia)]; exact g1 i hi
 refine ⟨P2, ?_, ?_⟩
 ·unfold kas_sort
  rw [hP]
  refine Runs.bind (a := (K, P)) ?_ ?_
  ·unfold kas_count
   refine Runs.bind (a := K) (runs_asc hpd (by lia) h1 (h2 (K - 1) (by lia)) _ 1 (by lia) (by lia) (by lia)) ?_
   rw [if_neg (by simp -iota), if_pos (by lia)]
   rw [hpd 0 (by lia), hpd (K - 1) (by lia)]
   refine .ask (by lia) (by lia) ?_
   rw [h3, if_pos rfl]
   exact .ret _
  ·simp -iota only
   rw [if_pos (by lia)]
   have e1 : max K 1 = K := by lia
   rw [e1, show K + 2 - K = 1 + 1 by lia]
   rw [bin_eq]
   refine Runs.bind (a := 0) (runs_place0 (by rw [hpd K (by lia)]; lia) K K (Nat.le_refl _) fun j hj => ?_) ?_
   ·rw [hpd K (by lia), hpd j (by lia)]
    exact ⟨by lia, h2 j hj⟩
   ·rw [Nat.sub_zero, hP1, show (1 : Nat) = 0 + 1 from rfl]
    rw [bin_eq]
    have d2 := getD_of g2
    have d0 := getD_of g0
    refine Runs.bind (a := 1) (runs_place1 (by rw [show K + (0 + 1) = K + 1 by lia, d2]; lia) ?_ _ _ (by lia) (Nat.le_refl _) fun j hj hj2 => ?_) ?_
    ·rw [show K + (0 + 1) = K + 1 by lia, d2, d0]
     exact ⟨by lia, h5⟩
    ·have := getD_of (g1 (j - 1) (by lia))
     rw [show j - 1 + 1 = j by lia] at this
     rw [show K + (0 + 1) = K + 1 by lia, d2, this]
     exact ⟨by lia, h4 _ (by lia)⟩
    ·rw [show K + (0 + 1) - 1 = K by lia, show K + (0 + 1) = K + 1 by lia, hP2]
     exact .ret _
 ·refine List.ext_getElem? fun i => ?_
  rw [Array.getElem?_toList]
  cases i with
  | zero => rw [q0]; rfl
  | succ i => cases i with
  | zero => rw [q1]; rfl
  | succ i =>
   rcases Nat.lt_or_ge i K with hi | hi
   ·rw [q2 i hi]; simp -iota [hi]
   ·rw [Array.getElem?_eq_none (by lia)]; simp -iota [hi]
noncomputable def keys2 (fi : PM) : List (List Nat) := (fi.flatMap fun p => [p.2 ++ [34], p.2 ++ [92]]) ++ [[34], [92]]
theorem least_34 (M : List Nat × List Nat) : Least M [34] :=
 ⟨by intro k hk; simp -iota at hk; lia, by simp, fun v u_ h0 u_ => by
  have := place_pos h0
  have e : place [34] = 1 := rfl
  lia⟩
theorem flat_two {fi : PM} (h : fi ≠ []) : 2 ≤ (fi.flatMap fun p => [p.2 ++ [34], p.2 ++ [92]]).length := by
 cases fi with
 | nil => exact (h rfl).elim
 | cons p r => rw [List.flatMap_cons, List.length_append]; simp -iota
theorem sort_heads {M : List Nat × List Nat} (m1 : IsWhole M.1) (m2 : IsWhole M.2) {fi : PM} (X : FirstOk M fi) :
  ∃ p : Array Nat, Runs (keys2 fi).length (fun i j => kl ((keys2 fi).getD i []) ((keys2 fi).getD j [])) (kas_sort (keys2 fi).length) p ∧ (∀ i ∈ p.toList, i < (keys2 fi).length) ∧ p.size = (keys2 fi).length ∧ (p.toList.map fun i => (keys2 fi).getD i []) = heads2 fi := by
 have hs := heads_sort m1 m2 X
 have hin := fun w => (in_heads (w := w) X).mp
 unfold heads2 at hs hin ⊢
 unfold keys2
 have hne : fi ≠ [] := by
  intro e
  have := X.all [34] (least_34 M)
  rw [e] at this; cases this
 have hA2 : 2 ≤ (fi.flatMap fun p => [p.2 ++ [34], p.2 ++ [92]]).length := by
  exact flat_two hne
 generalize (fi.flatMap fun p => [p.2 ++ [34], p.2 ++ [92]]) = A at hs hin hA2 ⊢
 rw [List.pairwise_cons, List.pairwise_cons] at hs
 obtain ⟨s1, s2, s3⟩ := hs
 have hl : (A ++ [[34], [92]]).length = A.length + 2 := by simp -iota
 rw [hl]
 have gA : ∀ i (hi : i < A.length), (A ++ [[34], [92]]).getD i [] = A[i] := fun i hi => by
  rw [List.getD_eq_getElem?_getD, List.getElem?_append_left hi, List.getElem?_eq_getElem hi]; rfl
 have g34 : (A ++ [[34], [92]]).getD A.length [] = [34] := by simp -iota [List.getD_eq_getElem?_getD]
 have g92 : (A ++ [[34], [92]]).getD (A.length + 1) [] = [92] := by simp -iota [List.getD_eq_getElem?_getD]
 have sA : ∀ w ∈ A, IsSigns w := fun w hw => (hin w (List.mem_cons_of_mem _ (List.mem_cons_of_mem _ hw))).1
 have s34 : IsSigns [34] := (least_34 M).1
 have s92 : IsSigns [92] := by intro k hk; simp -iota at hk; lia
 have asc : ∀ i j (hi : i < A.length) (hj : j < A.length), i < j → place A[i] < place A[j] := fun i j hi hj h => List.pairwise_iff_getElem.mp s3 i j hi hj h
 refine (runs_sort (lt := fun i j => kl ((A ++ [[34], [92]]).getD i []) ((A ++ [[34], [92]]).getD j [])) (K := A.length) hA2 (fun m h1 h2 => ?_) (fun j hj => ?_) ?_ (fun j hj => ?_) ?_).elim fun p ⟨r, e⟩ => ?_
 rotate_left 5
 ·refine ⟨p, r, fun i hi => ?_, ?_, ?_⟩
  ·rw [e] at hi
   simp -iota only [List.mem_cons, List.mem_range] at hi
   lia
  ·rw [← Array.length_toList, e]; simp -iota
  ·rw [e, List.map_cons, List.map_cons, g34, g92]
   congr 2
   refine List.ext_getElem? fun i => ?_
   rcases Nat.lt_or_ge i A.length with hi | hi
   ·rw [List.getElem?_map, List.getElem?_range hi, Option.map_some, gA i hi, List.getElem?_eq_getElem hi]
   ·rw [List.getElem?_eq_none (by simpa -iota using hi), List.getElem?_eq_none hi]
 ·rw [gA m h2, gA (m - 1) (by lia), kl_place (sA _ (List.getElem_mem _)) (sA _ (List.getElem_mem _))]
  have := asc (m - 1) m (by lia) h2 (by lia)
  rw [decide_eq_false_iff_not]; lia
 ·rw [gA j hj, g34, kl_place s34 (sA _ (List.getElem_mem _)), decide_eq_true_iff]
  exact s1 _ (List.mem_cons_of_mem _ (List.getElem_mem _))
 ·rw [gA 0 (by lia), gA (A.length - 1) (by lia), kl_place (sA _ (List.getElem_mem _)) (sA _ (List.getElem_mem _)), decide_eq_true_iff]
  exact asc 0 (A.length - 1) (by lia) (by lia) (by lia)
 ·rw [gA j hj, g92, kl_place s92 (sA _ (List.getElem_mem _)), decide_eq_true_iff]
  exact s2 _ (List.getElem_mem _)
 ·rw [g34, g92, kl_place s92 s34]
  decide
theorem keys2_len {fi : PM} (h1 : fi.length ≤ 27) (h2 : fi ≠ []) : 2 ≤ (keys2 fi).length ∧ (keys2 fi).length < 64 := by
 unfold keys2
 have : (fi.flatMap fun p => [p.2 ++ [34], p.2 ++ [92]]).length = 2 * fi.length := by
  rw [List.length_flatMap]
  clear h1 h2
  induction fi with
  | nil => rfl
  | cons p r ih => rw [List.map_cons, List.sum_cons, ih, List.length_cons]; simp -iota; lia
 rw [List.length_append, this]
 simp -iota; lia
theorem gc_rules {v_maps v_first : Value} {av_maps av_first : AV} (S : St (c2 w os) g h l) (r_maps : av_maps.rep v_maps) (r_first : av_first.rep v_first)
  (k : ∀ L h', St (c2 w os) g h' ((L + 2, isC (some av_first)) :: (L + 1, isC (some av_maps)) :: (L, isFr [((Str.ofString "least"), none), ((Str.ofString "rules"), none), ((Str.ofString "word"), none)]) :: l) → Ok (c2 w os) n (execs bdrules (mkEnv fdrules 183 L [((Str.ofString "first"), L + 2), ((Str.ofString "maps"), L + 1)])) (kFn P) h') :
  OkC (c2 w os) (n + 1) (.call (.ref 183) ⟨[v_maps, v_first], []⟩) (fun fl h' => ∃ v, fl = .ret v ∧ P v h') h := by
 refine (okC_call (fd := fdrules) S (S.topH.k _ _ (fn_rules _)) rfl rfl rfl (codeRec_of S.topH.k (cd_rules _)) nd_rules ?_)
 have hb : bindArgs fdrules ⟨[v_maps, v_first], []⟩ = pure [((Str.ofString "maps"), v_maps), ((Str.ofString "first"), v_first)] := by kernel_rfl
 rw [hb]
 refine ok_pure ⟨_, S, fun L h S => ?_⟩
 rw [ns_rules, ce_rules] at S
 rw [cf_rules, hb_rules]
 have S := S.weak (.there (.there .here)) fun o q => isFr_none q
 refine ok_bind_cons ?_
 refine ok_stCM' S fk_rules (by kernel_rfl) rfl (v₀ := none) (.there .here) r_maps fun h S => ?_
 refine ok_bind_cons ?_
 refine ok_stCM' S fk_rules (by kernel_rfl) rfl (v₀ := none) .here r_first fun h S => ?_
 exact ok_bind_nil ⟨S.topH, okC_func ((k L _ S).mono fun f h' z => ⟨_, rfl, z⟩)⟩
theorem go_rules {v_maps v_first : Value} {av_maps av_first : AV} (S : St (c2 w os) g h l) (r_maps : av_maps.rep v_maps) (r_first : av_first.rep v_first)
  (k : ∀ L h', St (c2 w os) g h' ((L + 2, isC (some av_first)) :: (L + 1, isC (some av_maps)) :: (L, isFr [((Str.ofString "least"), none), ((Str.ofString "rules"), none), ((Str.ofString "word"), none)]) :: l) → Ok (c2 w os) n (execs bdrules (mkEnv fdrules 183 L [((Str.ofString "first"), L + 2), ((Str.ofString "maps"), L + 1)])) (kFn P) h') :
  Ok (c2 w os) (n + 1) (call (.ref 183) [v_maps, v_first]) P h := ok_call (gc_rules S r_maps r_first k)
theorem ch_rules (P : Params) : codeHdIn (hd.heap_39 P) 182 180 = true := by kernel_rfl
noncomputable def lamOf (s : Stmt) : Arguments × PySem.Expr × Scope :=
 let d : Arguments × PySem.Expr × Scope := (⟨[], [], none, [], [], none, []⟩, .Constant .none 0 default, ⟨.function, [], false, false, []⟩)
 if h : s.ctorIdx = 9 then Stmt.For.elim (motive_2 := fun u_ => Arguments × PySem.Expr × Scope) s h fun u_ e u_ u_ u_ =>
  if h : e.ctorIdx = 16 then PySem.Expr.Call.elim (motive_1 := fun u_ => Arguments × PySem.Expr × Scope) e h fun u_ u_ k u_ => match k with | [] => d | k :: _ => lamD d (fun p b s u_ => (p, b, s)) k.value else d
 else d
noncomputable def keyDef := lamOf (nthOf bdrules 3)
noncomputable def fdKey (pm : Value) (cv : Addr) (ctv : Value) : FuncData := kla_fn (Str.ofString "<lambda>") (fdrules.qualname ++ Str.ofString ".<locals>." ++ Str.ofString "<lambda>") keyDef.1 keyDef.2.1 keyDef.2.2 [] pm (.ref cv) ctv
theorem key_ok {q cv : Addr} {pm ctv : Value} {ks : List Nat} {t : Tok} {P : VP}
  (S : St (c2 w os) g h l) (hf : HO g q (isFn (fdKey pm cv ctv) none)) (hc : HO g cv (isCode (fdKey pm cv ctv).qualname)) (hz : ks.length ≤ 1000)
  (k : ∀ tp h', St (c2 w os) g h' ((tp, isT [.int ks.length, .str ks]) :: l) → P (.ref tp) h') : Ok (c2 w os) (n + 2) (call (.ref q) [.str (str ks) t]) P h := by
 obtain ⟨of, hof, sl, rfl⟩ := hf
 have nd : ((localsOf (fdKey pm cv ctv).scope).map (·.1)).Nodup := by
  have : localsOf (fdKey pm cv ctv).scope = [(Str.ofString "word", none)] := by kernel_rfl
  rw [this]; simp
 refine ok_call (okC_call (fd := fdKey pm cv ctv) S (S.keep _ _ hof) rfl (by kernel_rfl) (by kernel_rfl) (codeRec_isCode (S.here hc)) nd ?_)
 have hb : bindArgs (fdKey pm cv ctv) ⟨[.str (str ks) t], []⟩ = pure [(Str.ofString "word", .str (str ks) t)] := by kernel_rfl
 rw [hb]
 refine ok_pure ⟨_, S, fun L h S => ?_⟩
 rw [show localsOf (fdKey pm cv ctv).scope = [(Str.ofString "word", none)] from by kernel_rfl, show ∀ l, cellLed (L + 1) (fdKey pm cv ctv).scope.names l = l from fun l => by kernel_rfl] at S
 rw [show cellsFrom (L + 1) (fdKey pm cv ctv).scope.names (fdKey pm cv ctv).closure = [] from by kernel_rfl]
 have S := S.toFr (xs := [Str.ofString "word"])
 refine ok_bind_cons ?_
 refine ok_stM' S (by kernel_rfl) (by kernel_rfl) .here .here rep_str fun h S => ?_
 refine ok_bind_nil ⟨S.topH, ?_⟩
 have hbd : bodyCode (fdKey pm cv ctv) (mkEnv (fdKey pm cv ctv) q L []) = .expr keyDef.2.1 (mkEnv (fdKey pm cv ctv) q L []) := by kernel_rfl
 rw [hbd]
 refine okC_expr ?_
 show Ok _ _ (eval (.Tuple [.Call (.Name (Str.ofString "len") _) [.Name (Str.ofString "word") _] [] _, .Name (Str.ofString "word") _] _ _) _) _ _
 refine ok_Tuple ?_
 walk_at "go"
 exact ⟨_, _, _, S, (by walk_at "rps"), (by simp), fun tp h S => ⟨_, rfl, k tp h (S.del (.i1) (Same.refl _ _))⟩⟩
theorem dm_len (xs : PM) : (dm xs).length = xs.length := by simp [dm]
theorem dm_get {xs : PM} {i : Nat} {av : AV} (h : (keysOf (dm xs))[i]? = some av) : ∃ p, xs[i]? = some p ∧ av = .str p.1 := by
 simp only [keysOf, dm, List.getElem?_map, Option.map_map, Option.map_eq_some_iff] at h
 obtain ⟨p, hp, rfl⟩ := h
 exact ⟨p, hp, by simp [key_av]⟩
theorem turn_dm {xs : PM} {i : Nat} {G : Value → Prop} (k : ∀ p t, xs[i]? = some p → G (.str (str p.1) t)) : ∀ (av : AV) (v : Value), (keysOf (dm xs))[i]? = some av → av.rep v → G v := fun av v h rv => by
 obtain ⟨x, hx, rfl⟩ := dm_get h; exact rep_eS rv fun t => k x t hx
theorem keys_dm (xs : PM) : keysOf (dm xs) = strsOf (xs.map (·.1)) := by simp [keysOf, dm, strsOf, key_av, Function.comp_def]
noncomputable def rulesFr (o1 o2 o3 : Option AV) : AM := [(Str.ofString "least", o1), (Str.ofString "rules", o2), (Str.ofString "word", o3)]
section
variable {o1 : Option AV} {o2 : Option AV} {o3 : Option AV} {v : AV}
theorem rulesFr.h0 : HasA (rulesFr (some v) o2 o3) (Str.ofString "least") v := .here
theorem rulesFr.h1 : HasA (rulesFr o1 (some v) o3) (Str.ofString "rules") v := .i1
theorem rulesFr.h2 : HasA (rulesFr o1 o2 (some v)) (Str.ofString "word") v := .i2
theorem rulesFr.p2 : PutA (rulesFr o1 o2 o3) (Str.ofString "word") v (rulesFr o1 o2 (some v)) := .i2
end
theorem some_tab {c : Cx} {a : Addr} {ps : List Value} {x1 x2 x3 x4 : Addr × (Obj → Prop)} (S : St c g h (x1 :: x2 :: x3 :: x4 :: (a, isTab ps) :: l)) : ∃ WT, (∃ ps, WT = isTab ps) ∧ St c g h (x1 :: x2 :: x3 :: x4 :: (a, WT) :: l) := ⟨_, ⟨_, rfl⟩, S⟩
set_option tactic.hygienic true in
theorem rules_ok {M : List Nat × List Nat} {md fd : Addr} {fi : PM} (S : St (c2 w os) g h ((180, isTab []) :: l)) (m1 : IsWhole M.1) (m2 : IsWhole M.2)
  (D : HO g md (isDic (c2 w os) (mapsD M))) (nd : NotSys md) (Df : HO g fd (isDic (c2 w os) (dm fi))) (nf : NotSys fd) (X : FirstOk M fi) (hz : fi.length ≤ 27) (hzw : ∀ p ∈ fi, p.2.length ≤ 100)
  (k : ∀ g' rl as h' ps, Gr g g' → PairsAt g' as (rulesOf M fi) → St (c2 w os) g' h' ((rl, isL (refs as)) :: (180, isTab ps) :: l) → P (.ref rl) h') :
  Ok (c2 w os) (n + 10) (call (.ref 183) [.ref md, .ref fd]) P h := by
 refine go_rules S rep_ref rep_ref fun L h S => ok_s ?_
 obtain ⟨ep, F⟩ := D.fix
 obtain ⟨epf, Ff⟩ := Df.fix
 have hwd := X.words
 walk_at "go"
 refine ok_dcompU Str [Str.ofString ".0", Str.ofString "whole"] (fun u_ => rfl) rfl rfl (by kernel_rfl) (by kernel_rfl) (by decide) ?_
 walk_at "gs"
 refine ok_iterD S nf (Ff.gr S.keep) fun it h S => ?_
 refine ⟨_, _, _, _, _, _, rfl, srcA_dict (m := dm fi) (ep := epf), by rw [keys_dm, strs_len, List.length_map]; walk_at "lx", S, fun i ys g' l' => g' = g ∧ l' = _ ∧ ys = dm ((fi.take i).map fun p => (p.2, p.1)), ⟨rfl, rfl, rfl⟩, ?_, ?_, ?_⟩
 ·rintro i ys g' h C D m W' l' ⟨rfl, rfl, _⟩ S
  exact Ff.gr S.keep
 ·rintro i ys g' h C D m l' av v hi ⟨rfl, rfl, rfl⟩ rv hy hm S
  revert av v
  refine turn_dm fun p t hp => ?_
  revert m
  refine shapeE2 fun o1 o2 => ?_
  intro S
  have hmem := List.mem_of_getElem? hp
  walk_at "gs"
  refine ok_itemD (S.here Df) rep_key (av := .str p.2) (by rw [at?_dm, look_in X.keys (v := p.2) hmem]; rfl) ?_
  walk_at "av"
  walk_at "gs"
  refine ⟨_, _, _, str p.2, .str p.1, rfl, rep_key, rep_str, S, rfl, rfl, ?_⟩
  have hn : look ((fi.take i).map fun p => (p.2, p.1)) p.2 = none := by
   rw [look_none, List.map_map]
   intro hm
   obtain ⟨q, hq, e⟩ := List.mem_map.mp hm
   obtain ⟨j, hj⟩ := List.mem_iff_getElem?.mp hq
   rw [List.getElem?_take] at hj
   split at hj
   ·rename_i hlt
    have hs := List.pairwise_iff_getElem.mp X.sort j i (List.getElem?_eq_some_iff.mp hj).1 (List.getElem?_eq_some_iff.mp hp).1 hlt
    rw [(List.getElem?_eq_some_iff.mp hj).2, (List.getElem?_eq_some_iff.mp hp).2] at hs
    simp only [Function.comp] at e
    rw [e] at hs; walk_at "lx"
   ·cases hj
  rw [take_snoc hp, List.map_append, dm_put hn]
  rfl
 rintro g' D2 C m ys h l' ⟨rfl, rfl, rfl⟩ S
 rw [keys_dm, strs_len, List.length_map, List.take_length] at S
 refine ok_assignC S rfl (by kernel_rfl) (by kernel_rfl) (.i2) .here fun h S => ?_
 have hlen1 : (fi.map fun p => (p.2, p.1)).length = fi.length := List.length_map ..
 walk_at "go"
 refine ok_setItemD (av := .str [48, 49, 50]) S .here rep_key rep_str (by rw [dm_len, hlen1]; walk_at "lx") fun h S => ?_
 have hn0 : look (fi.map fun p => (p.2, p.1)) [] = none := by
  rw [look_none, List.map_map]
  intro hm
  obtain ⟨q, hq, e⟩ := List.mem_map.mp hm
  exact (X.each q hq).1.2.1 e
 have nl := S.sys .here
 rw [dm_put hn0] at S
 have S : St (c2 w os) g' h ((D2, isDic (c2 w os) (dm (leastD fi))) :: _) := S
 refine St.fz S fun g1 k1 Dl S => ?_
 obtain ⟨epl, Fl⟩ := Dl.fix
 have D := D.gr k1
 have Df := Df.gr k1
 have F := F.gr k1
 have hll : (leastD fi).length = fi.length + 1 := by simp [leastD]
 walk_at "go"
 rename_i rl _ _
 rename St _ _ _ _ => S
 refine ok_x_for (fun u_ => rfl) ?_
 refine ok_CallK1 rfl ?_
 walk_at "go"
 refine ⟨_, rfl, ?_⟩
 refine ok_comp2 [Str.ofString ".0", Str.ofString "head", Str.ofString "sign"] (fun u_ => rfl) (fun u_ u_ => rfl) rfl rfl (by kernel_rfl) (by kernel_rfl) (by decide) ?_
 walk_at "gs"
 refine ok_iterD S nl (Fl.gr S.keep) fun it h S => ?_
 refine ⟨_, _, _, _, _, _, 2, rfl, srcA_dict (m := dm (leastD fi)) (ep := epl), S, fun h l' S => Fl.gr S.keep, fun i => match (leastD fi)[i]? with | some p => strsOf [p.1 ++ [34], p.1 ++ [92]] | none => [], ?_, ?_, ?_, ?_⟩
 ·intro i; (try dsimp only); split <;> simp [strsOf]
 ·rw [keys_dm, strs_len, List.length_map, hll]; walk_at "lx"
 ·rintro C D i ys m h av v hi rv hm S
  revert av v
  refine turn_dm fun p t hp => ?_
  revert m
  refine shapeE3 fun o1 o2 o3 => ?_
  intro S
  walk_at "gs"
  refine ok_iterD S nd (F.gr S.keep) fun it2 h S => ?_
  refine ⟨_, _, _, _, [], _, rfl, srcA_dict (m := mapsD M) (ep := ep), S, fun h l' S => F.gr S.keep, fun m => ∃ o, m = [(Str.ofString ".0", o1), (Str.ofString "head", some (.str p.1)), (Str.ofString "sign", o)], fun j => .str (p.1 ++ if j = 0 then [34] else [92]), ⟨_, rfl⟩, ?_, ?_, ?_⟩
  ·rintro m ⟨o, rfl⟩; rfl
  ·(try dsimp only); rw [hp]; rfl
  ·rintro j ys m h av v hj rv ⟨o, rfl⟩ S
   rw [keys_maps] at hj
   revert av v
   refine turn_strs fun y t hy => ?_
   have hyj : y = if j = 0 then [34] else [92] := by
    rcases two_sg hy with ⟨e, e'⟩ | ⟨e, e'⟩ <;> rw [e, e'] <;> rfl
   have hpl : p.1.length ≤ 100 := by
    have := List.mem_of_getElem? hp
    unfold leastD at this
    rcases List.mem_append.mp this with h | h
    ·obtain ⟨q, hq, rfl⟩ := List.mem_map.mp h; exact hzw q hq
    ·simp at h; rw [h]; simp
   have hyl : y.length ≤ 1 := by rw [hyj]; split <;> simp
   walk_at "go"
   (try dsimp only)
   rw [← hyj]
   exact ⟨_, ⟨_, rfl⟩, rep_str, by assumption⟩
 intro Dk h S
 have ek : (List.range (keysOf (dm (leastD fi))).length).flatMap (fun i => match (leastD fi)[i]? with | some p => strsOf [p.1 ++ [34], p.1 ++ [92]] | none => []) = strsOf (keys2 fi) := by
  rw [keys_dm, strs_len, List.length_map]
  have gen : ∀ (xs : PM), (List.range xs.length).flatMap (fun i => match xs[i]? with | some p => strsOf [p.1 ++ [34], p.1 ++ [92]] | none => []) = strsOf (xs.flatMap fun p => [p.1 ++ [34], p.1 ++ [92]]) := by
   intro xs
   induction xs with
   | nil => rfl
   | cons p r ih =>
    rw [List.length_cons, List.range_succ_eq_map, List.flatMap_cons, List.flatMap_map, List.flatMap_cons]
    show strsOf [p.1 ++ [34], p.1 ++ [92]] ++ (List.range r.length).flatMap (fun i => match r[i]? with | some p => strsOf [p.1 ++ [34], p.1 ++ [92]] | none => []) = _
    rw [ih]
    simp [strsOf]
  rw [gen]
  unfold leastD keys2
  rw [List.flatMap_append, List.flatMap_map]
  rfl
 rw [ek] at S
 refine ok_Lambda rfl rfl ?_
 refine ok_makeLamU S rfl (by kernel_rfl) (by kernel_rfl) (codeHd_of_K S.top.k (ch_rules _)) (fun W => by walk_at "m") (by trivial) rfl fun q c1 ctv1 pm1 h S => ?_
 have hne : fi ≠ [] := by
  intro e
  have := X.all [34] (least_34 M)
  rw [e] at this; cases this
 have hk2 := keys2_len hz hne
 have hkw : ∀ w ∈ heads2 fi, w.length ≤ 101 := by
  intro w hw
  unfold heads2 at hw
  simp only [List.mem_cons, List.mem_flatMap] at hw
  rcases hw with rfl | rfl | ⟨p, hp, h⟩
  ·simp
  ·simp
  ·have := hzw p hp
   simp at h
   rcases h with rfl | rfl <;> simp <;> walk_at "lx"
 have hkw2 : ∀ w ∈ keys2 fi, w.length ≤ 101 := by
  intro w hw
  refine hkw w ?_
  unfold keys2 at hw
  unfold heads2
  rcases List.mem_append.mp hw with h | h
  ·exact List.mem_cons_of_mem _ (List.mem_cons_of_mem _ h)
  ·simp at h
   rcases h with rfl | rfl <;> simp
 obtain ⟨g2, k2, S, Xq⟩ := S.freezeL (l₁ := [_, _])
 have xq : HO g2 q (isFn (fdKey pm1 c1 ctv1) none) := Xq _ List.mem_cons_self
 have xc : HO g2 c1 (isCode (fdKey pm1 c1 ctv1).qualname) := Xq _ (List.mem_cons_of_mem _ List.mem_cons_self)
 obtain ⟨pz, r1, r2, r3, r4⟩ := sort_heads m1 m2 X
 refine ok_sortedK (n := n + 7) S (S.get .here) hk2.1 hk2.2 (fun g' h' l' wd t Q kg S hw z => key_ok (n := n + 5) S (xq.gr kg) (xc.gr kg) (by have := hkw2 wd hw; walk_at "lx") z) r1 r2 r3 fun g3 sl h k3 S => ?_
 rw [r4] at S
 refine St.fz S fun g4 k4 Xs S => ?_
 have S := S.tail
 have kk4 := k2.trans (k3.trans k4)
 have D := D.gr kk4
 have Df := Df.gr kk4
 have Dl := Dl.gr kk4
 obtain ⟨WT, hWT, S⟩ := some_tab S
 refine ok_iterLA S (S.here Xs) fun it2 h S => ?_
 refine okC_forA (srcA_list (vs := strsOf (heads2 fi))) (fun i => GrInv g4 (((heads2 fi).take i).filterMap (ruleOf M fi)) fun as' o3 u_ u_ u_ => (rl, isL (refs as')) :: (L + 2, isC (some (.ref fd))) :: (L + 1, isC (some (.ref md))) :: (L, isFr (rulesFr (some (.ref D2)) (some (.ref rl)) o3)) :: (180, WT) :: l) ?_ ?_ ?_ _ (.mk [] none none none none (Gr.refl _) trivial) S
 ·rintro i g' h l' W' ⟨as', o3, _, _, _, kg, PA⟩ S
  exact S.here (Xs.gr kg)
 ·rintro i T hT g' h l' av v hi ⟨as', o3, _, _, _, kg, PA⟩ rv S
  revert av v
  refine turn_strs fun wd t hw => ?_
  have D := D.gr kg
  have Df := Df.gr kg
  have Dl := Dl.gr kg
  have hin := List.mem_of_getElem? hw
  have hwl := hkw wd hin
  have eT : ((heads2 fi).take (i + 1)).filterMap (ruleOf M fi) = ((heads2 fi).take i).filterMap (ruleOf M fi) ++ (match ruleOf M fi wd with | some r => [r] | none => []) := by
   rw [take_snoc hw, List.filterMap_append]
   congr 1
   cases h : ruleOf M fi wd <;> simp [h]
  walk_at "gs"
  refine ok_x_if ?_
  walk_at "go"
  refine ok_notInD (S.here Dl) nl rep_key ?_
  rw [at?_dm]
  walk_at "go"
  obtain ⟨hs, h0, hd⟩ := (in_heads X).mp hin
  refine ⟨fun ea => ?_, fun ea => ?_⟩
  rotate_left
  ·have er : ruleOf M fi wd = none := by
    unfold ruleOf
    rw [if_neg]
    intro hc
    rw [Bool.and_eq_true] at hc
    have := Option.isNone_iff_eq_none.mp hc.1
    rw [this] at ea; simp at ea
   rw [er, List.append_nil] at eT
   walk_at "tst"
   refine hT _ _ ⟨g', _, .mk as' _ none none none kg ?_, S⟩
   rw [eT]; exact PA
  have en : look (leastD fi) wd = none := by
   cases hh : look (leastD fi) wd with
   | none => rfl
   | some v => rw [hh] at ea; simp at ea
  walk_at "gs"
  rw [piece_from wd (by decide : (0 : Int) ≤ 1), show (1 : Int).toNat = 1 from rfl, List.drop_one]
  refine ok_inD (S.here Dl) nl rep_key ?_
  rw [at?_dm]
  walk_at "go"
  refine ⟨fun eb => ?_, fun eb => ?_⟩
  rotate_left
  ·have er : ruleOf M fi wd = none := by
    unfold ruleOf
    rw [if_neg]
    intro hc
    rw [Bool.and_eq_true] at hc
    obtain ⟨v, hv⟩ := Option.isSome_iff_exists.mp hc.2
    rw [hv] at eb; simp at eb
   rw [er, List.append_nil] at eT
   walk_at "tst"
   refine hT _ _ ⟨g', _, .mk as' _ none none none kg ?_, S⟩
   rw [eT]; exact PA
  have et : (look (leastD fi) wd.tail).isSome = true := by
   cases hh : look (leastD fi) wd.tail with
   | none => rw [hh] at eb; simp at eb
   | some v => rfl
  obtain ⟨u, u1, u2, u3⟩ := X.find hs h0
  obtain ⟨w0, kz, rfl⟩ : ∃ w0 kz, wd = w0 ++ [kz] := ⟨wd.dropLast, wd.getLast h0, (List.dropLast_concat_getLast h0).symm⟩
  have hkz : kz = 34 ∨ kz = 92 := hs kz (by simp)
  rw [List.dropLast_concat] at hd
  have hld := X.leastAt hd
  have hvw := ev_whole m1 m2 w0
  have hmz := mapOf_whole m1 m2 kz
  have er : ruleOf M fi (w0 ++ [kz]) = some (w0 ++ [kz], u) := by
   unfold ruleOf
   rw [if_pos (by rw [en, et]; rfl), List.dropLast_concat, List.getLastD_concat, hld, Option.getD_some, ← ev_snoc, u1]
   rfl
  rw [er] at eT
  have hal := PA.len
  walk_at "tst"
  refine ok_Tuple ?_
  walk_at "gs"
  rw [piece_butlast, List.dropLast_concat]
  refine ok_itemD (S.here Dl) rep_key (av := .str (ev M w0)) (by rw [at?_dm, hld]; rfl) ?_
  walk_at "av"
  walk_at "go"
  refine ok_lastS fun t => ?_
  walk_at "go"
  refine ok_itemD (S.here D) rep_key (av := .str (mapOf M kz)) (at_maps hkz) ?_
  walk_at "av"
  walk_at "go"
  refine behind_ok (n := n + 8) S hvw.2 hvw.1 hmz.1 fun h t S => ?_
  have hb : ((ev M w0).map fun k => (mapOf M kz).getD (k - 48) 0) = ev M (w0 ++ [kz]) := by rw [ev_snoc]; rfl
  rw [hb]
  walk_at "go"
  refine ok_itemD (S.here Df) rep_key (av := .str u) (by rw [at?_dm, u1]; rfl) ?_
  walk_at "av"
  walk_at "go"
  refine ⟨_, _, _, S, (by walk_at "rps"), (by simp), fun tp h S => ?_⟩
  refine St.fz S fun g5 k5 Y S => ?_
  have hfl := List.length_filterMap_le (ruleOf M fi) ((heads2 fi).take i)
  have hhl : (heads2 fi).length ≤ 100 := by
   have : (heads2 fi).length = (keys2 fi).length := by unfold heads2 keys2; simp
   walk_at "lx"
  rw [List.length_take] at hfl
  walk_at "go"
  refine ok_appendA S (.i1) rep_ref (by rw [refs_len]; walk_at "lx") fun h S => ?_
  have S : St _ _ _ ((it2, _) :: (rl, isL (refs as' ++ [.ref tp])) :: _) := S
  rw [← refs_snoc] at S
  walk_at "go"
  refine hT _ _ ⟨g5, _, .mk (as' ++ [tp]) _ none none none (kg.trans k5) ?_, S⟩
  rw [eT]
  exact (PA.gr k5).snoc (r := (w0 ++ [kz], u)) Y
 rintro g' h l' ⟨as', o3, _, _, _, kg, PA⟩ S
 rw [strs_len, List.take_length] at PA
 walk_at "gs"
 obtain ⟨ps, rfl⟩ := hWT
 exact k g' rl as' _ ps (k1.trans (kk4.trans kg)) PA S.f2.tail.f2.tail.f2.tail
theorem esc_cons (R : List Nat) (k : Nat) (w : List Nat) : escape R (k :: w) = (if k ∈ R then [92, k] else [k]) ++ escape R w := by
 unfold escape
 rw [List.map_cons, List.flatten_cons]
 congr 1
 unfold escOf
 by_cases h : k ∈ R <;> simp -iota [h]
theorem inQ_esc {R : List Nat} (h34 : 34 ∈ R) (h92 : 92 ∈ R) (tl : List Nat) (res : List Nat → List Nat × List Nat) (ht : ∀ acc, inQ tl acc = res acc) (w : List Nat) : ∀ (acc : List Nat), inQ (escape R w ++ tl) acc = res (acc ++ w) := by
 induction w with
 | nil => intro acc; rw [List.append_nil]; exact ht acc
 | cons k w ih =>
  intro acc
  rw [esc_cons]
  have ih := ih (acc ++ [k])
  rw [List.append_assoc, List.singleton_append] at ih
  by_cases h : k ∈ R
  ·rw [if_pos h]
   show inQ (92 :: k :: (escape R w ++ tl)) acc = _
   rw [inQ_bs]; exact ih
  ·rw [if_neg h]
   show inQ (k :: (escape R w ++ tl)) acc = _
   rw [inQ_go (fun e => h (by rw [e]; exact h34)) (fun e => h (by rw [e]; exact h92))]; exact ih
theorem inB_esc {R : List Nat} (tl : List Nat) (res : List Nat → List Nat × List Nat) (ht : ∀ acc, inB tl acc = res acc) (w : List Nat) : ∀ (acc : List Nat), (∀ k ∈ w, k ∈ R ∨ (white k = false ∧ k ≠ 92)) → inB (escape R w ++ tl) acc = res (acc ++ w) := by
 induction w with
 | nil => intro acc _; rw [List.append_nil]; exact ht acc
 | cons k w ih =>
  intro acc hw
  rw [esc_cons]
  have ih := ih (acc ++ [k]) fun j hj => hw j (List.mem_cons_of_mem _ hj)
  rw [List.append_assoc, List.singleton_append] at ih
  by_cases h : k ∈ R
  ·rw [if_pos h]
   show inB (92 :: k :: (escape R w ++ tl)) acc = _
   rw [inB_bs]; exact ih
  ·rw [if_neg h]
   obtain ⟨h1, h2⟩ := (hw k List.mem_cons_self).resolve_left h
   show inB (k :: (escape R w ++ tl)) acc = _
   rw [inB_go h1 h2]; exact ih
theorem white_or {k : Nat} : white k = true ↔ k = 10 ∨ k = 9 ∨ k = 13 ∨ k = 32 := by simp -iota [white, or_assoc]
theorem risky_ok {w : List Nat} {m : Nat} (hm : 0 < m) (hm3 : m < 3) (h0 : w ≠ []) : (∀ k ∈ w, k ∈ riskyOf w m ∨ (white k = false ∧ k ≠ 92)) ∧ (w.headD 0 ∈ riskyOf w m ∨ (white (w.headD 0) = false ∧ w.headD 0 ≠ 92 ∧ w.headD 0 ≠ 34)) := by
 have hh : w.headD 0 ∈ w := by
  cases w with
  | nil => exact (h0 rfl).elim
  | cons a r => exact List.mem_cons_self
 rcases (by lia : m = 1 ∨ m = 2) with rfl | rfl
 ·skip
  have key : ∀ k, k ∈ riskyOf w 1 ∨ (white k = false ∧ k ≠ 92) := fun k => by
   by_cases hw : white k = true
   ·left
    rcases white_or.mp hw with rfl | rfl | rfl | rfl <;> (show _ ∈ [10, 9, 13, 32, 92] ++ _; simp -iota)
   ·by_cases e : k = 92
    ·left; subst e; show _ ∈ [10, 9, 13, 32, 92] ++ _; simp -iota
    ·right; exact ⟨Bool.eq_false_iff.mpr hw, e⟩
  refine ⟨fun k u_ => key k, ?_⟩
  rcases key (w.headD 0) with h | ⟨h1, h2⟩
  ·exact .inl h
  ·by_cases e : w.headD 0 = 34
   ·left
    have : w.take 1 = [34] := by
     cases w with
     | nil => exact (h0 rfl).elim
     | cons a r => simp at e; simp [e]
    rw [e]
    show 34 ∈ [10, 9, 13, 32, 92] ++ (if w.take 1 = [34] then [34] else [])
    rw [if_pos this]; simp -iota
   ·exact .inr ⟨h1, h2, e⟩
 ·exact ⟨fun k hk => .inl hk, .inl hh⟩
theorem token_esc {w : List Nat} {R tl : List Nat} {res : List Nat → List Nat × List Nat} (h0 : w ≠ []) (hr : ∀ k ∈ w, k ∈ R ∨ (white k = false ∧ k ≠ 92)) (hh : w.headD 0 ∈ R ∨ (white (w.headD 0) = false ∧ w.headD 0 ≠ 92 ∧ w.headD 0 ≠ 34)) (ht : ∀ acc, inB tl acc = res acc) : token (escape R w ++ tl) = res w := by
 cases w with
 | nil => exact (h0 rfl).elim
 | cons k w =>
  rw [esc_cons]
  have ih := inB_esc tl res ht w [k] fun j hj => hr j (List.mem_cons_of_mem _ hj)
  by_cases h : k ∈ R
  ·rw [if_pos h]
   show token (92 :: k :: (escape R w ++ tl)) = _
   rw [token_cons]
   exact ih
  ·rw [if_neg h]
   obtain ⟨h1, h2, h3⟩ := hh.resolve_left h
   simp -iota only [List.headD_cons] at h1 h2 h3
   show token (k :: (escape R w ++ tl)) = _
   rw [token_cons, h1, if_neg (by simp -iota), if_neg h3, if_neg h2]
   exact ih
theorem token_piece {w : List Nat} {m b : Nat} (h0 : w ≠ []) (hm : m < 3) (hb : white b = true) (rest : List Nat) : token (pieceOf w m [b] ++ rest) = (w, rest) := by
 unfold pieceOf
 by_cases h : 0 < m
 ·rw [if_pos h, List.append_assoc]
  obtain ⟨h1, h2⟩ := risky_ok h hm h0
  exact token_esc h0 h1 h2 (res := fun acc => (acc, rest)) fun acc => inB_end hb rest acc
 ·rw [if_neg h]
  have e : m = 0 := by lia
  subst e
  show token (b :: 34 :: (escape (riskyOf w 0) w ++ [34] ++ rest)) = _
  rw [token_cons, if_pos hb, token_cons, if_neg (by decide), if_pos rfl, List.append_assoc]
  exact inQ_esc (List.mem_cons_self) (List.mem_cons_of_mem _ List.mem_cons_self) ([34] ++ rest) (fun acc => (acc, rest)) (fun acc => inQ_end rest acc) w []
theorem token_last {w : List Nat} {m b : Nat} (h0 : w ≠ []) (hm : m < 3) (hb : white b = true) : token (pieceOf w m [b]).dropLast = (w, []) := by
 unfold pieceOf
 by_cases h : 0 < m
 ·rw [if_pos h, List.dropLast_concat]
  obtain ⟨h1, h2⟩ := risky_ok h hm h0
  have := token_esc h0 h1 h2 (tl := []) (res := fun acc => (acc, [])) fun acc => rfl
  rw [List.append_nil] at this; exact this
 ·rw [if_neg h, List.dropLast_concat]
  have e : m = 0 := by lia
  subst e
  show token (b :: 34 :: escape (riskyOf w 0) w) = _
  rw [token_cons, if_pos hb, token_cons, if_neg (by decide), if_pos rfl]
  have := inQ_esc (R := riskyOf w 0) (List.mem_cons_self) (List.mem_cons_of_mem _ List.mem_cons_self) [] (fun acc => (acc, [])) (fun acc => rfl) w []
  rw [List.append_nil] at this; exact this
theorem piece_ne (w : List Nat) (m b : Nat) : pieceOf w m [b] ≠ [] := by unfold pieceOf; split <;> simp -iota
theorem piece_cn {w : List Nat} {m b : Nat} (hb : b ≠ 10) (pre : List Nat) : cn (pre ++ pieceOf w m [b]).dropLast = cn (pre ++ pieceOf w m [b]) := by
 rw [List.dropLast_append_of_ne_nil (piece_ne w m b)]
 unfold pieceOf cn
 split
 ·rw [List.dropLast_concat, List.count_append, List.count_append, List.count_append]
  simp -iota [hb]
 ·rw [List.dropLast_concat]
  simp -iota only [List.count_append, List.count_cons, List.count_nil]
  simp -iota
noncomputable def writing3 (w0 w1 w2 : List Nat) (m0 m1 m2 : Nat) : List Nat := pieceOf w0 m0 [10] ++ pieceOf w1 m1 [9] ++ pieceOf w2 m2 [13]
theorem tokens3 {w0 w1 w2 : List Nat} {m0 m1 m2 : Nat} (h0 : w0 ≠ []) (h1 : w1 ≠ []) (h2 : w2 ≠ []) (e0 : m0 < 3) (e1 : m1 < 3) (e2 : m2 < 3) :
  ∃ R1 R2, token (writing3 w0 w1 w2 m0 m1 m2).dropLast = (w0, R1) ∧ token R1 = (w1, R2) ∧ token R2 = (w2, []) ∧ cn (writing3 w0 w1 w2 m0 m1 m2).dropLast = cn (writing3 w0 w1 w2 m0 m1 m2) := by
 refine ⟨pieceOf w1 m1 [9] ++ (pieceOf w2 m2 [13]).dropLast, (pieceOf w2 m2 [13]).dropLast, ?_, token_piece h1 e1 (by decide) _, token_last h2 e2 (by decide), piece_cn (by decide) _⟩
 unfold writing3
 rw [List.dropLast_append_of_ne_nil (piece_ne _ _ _), List.append_assoc]
 exact token_piece h0 e0 (by decide) _
noncomputable def own5 : List Int := [28, 63, 0, 2, 1]
noncomputable def numsOf (xs : List Int) : List Int := (piece xs none (some 8) ++ piece own5 (some (xs.length : Int)) none).map fun x => x.fmod 1000000
theorem nums_len (xs : List Int) : 5 ≤ (numsOf xs).length ∧ (numsOf xs).length ≤ 8 := by
 unfold numsOf
 rw [List.length_map, List.length_append, piece_to xs (by decide : (0 : Int) ≤ 8), piece_from own5 (by lia : (0 : Int) ≤ (xs.length : Int)), List.length_take, List.length_drop]
 have e : own5.length = 5 := rfl
 rw [e]
 have e2 : (8 : Int).toNat = 8 := rfl
 rw [e2, Int.toNat_natCast]
 rcases Nat.le_total 8 xs.length with h | h
 ·rw [Nat.min_eq_left h, Nat.sub_eq_zero_of_le (Nat.le_trans (by decide) h)]; decide
 ·rw [Nat.min_eq_right h]
  rcases Nat.le_total 5 xs.length with h2 | h2
  ·rw [Nat.sub_eq_zero_of_le h2]; exact ⟨h2, h⟩
  ·rw [Nat.add_sub_cancel' h2]; decide
theorem nums_in {xs : List Int} {x : Int} (h : x ∈ numsOf xs) : 0 ≤ x ∧ x < 1000000 := by
 obtain ⟨y, _, rfl⟩ := List.mem_map.mp h
 exact ⟨Int.fmod_nonneg_of_pos y (by decide), Int.fmod_lt_of_pos y (by decide)⟩
noncomputable def fig (b : Nat) (x : Int) (k : Nat) : Nat := ((x.fdiv ((b : Int) ^ k)).fmod b).toNat
theorem fig_lt {b : Nat} (hb : 0 < b) (x : Int) (k : Nat) : fig b x k < b := by
 unfold fig
 have h1 := Int.fmod_nonneg_of_pos (x.fdiv ((b : Int) ^ k)) (Int.natCast_pos.mpr hb)
 have h2 := Int.fmod_lt_of_pos (x.fdiv ((b : Int) ^ k)) (Int.natCast_pos.mpr hb)
 exact (Int.toNat_lt h1).mpr h2
theorem fig_cast {b : Nat} (hb : 0 < b) (x : Int) (k : Nat) : (x.fdiv ((b : Int) ^ k)).fmod b = fig b x k := by
 unfold fig
 exact (Int.toNat_of_nonneg (Int.fmod_nonneg_of_pos (x.fdiv ((b : Int) ^ k)) (Int.natCast_pos.mpr hb))).symm
noncomputable def mapText (x : Int) : List Nat := (List.range 3).map fun k => 48 + fig 3 x k
theorem mapText_whole (x : Int) : IsWhole (mapText x) := by
 refine ⟨by simp -iota [mapText], fun k hk => ?_⟩
 obtain ⟨j, _, rfl⟩ := List.mem_map.mp hk
 have := fig_lt (b := 3) (by decide) x j
 lia
noncomputable def signAt (i : Nat) : Nat := [34, 92].getD i 0
noncomputable def drawn2 (ns : List Int) : List Nat := (ns.drop 2).flatMap fun x => (List.range 2).map fun k => signAt (fig 2 x k)
theorem text_signs (ns : List Int) : IsSigns (drawn2 ns) := by
 intro k hk
 obtain ⟨x, _, h⟩ := List.mem_flatMap.mp hk
 obtain ⟨j, _, rfl⟩ := List.mem_map.mp h
 have := fig_lt (b := 2) (by decide) x j
 have : fig 2 x j = 0 ∨ fig 2 x j = 1 := by lia
 rcases this with e | e <;> rw [e] <;> simp -iota [signAt]
theorem text_len (ns : List Int) : (drawn2 ns).length = 2 * (ns.length - 2) := by
 unfold drawn2
 rw [List.length_flatMap]
 have : ∀ xs : List Int, (xs.map fun x => ((List.range 2).map fun k => signAt (fig 2 x k)).length).sum = 2 * xs.length := by
  intro xs
  induction xs with
  | nil => rfl
  | cons x r ih => rw [List.map_cons, List.sum_cons, ih, List.length_cons]; simp -iota; lia
 rw [this, List.length_drop]
noncomputable def wordOf (m : List Nat) : List Nat := m.map fun k => [32, 35, 10].getD (k - 48) 0
theorem wordOf_len (m : List Nat) : (wordOf m).length = m.length := by simp -iota [wordOf]
theorem KReach.fine {M : List Nat × List Nat} (m1 : IsWhole M.1) (m2 : IsWhole M.2) {s : KS} (x : KReach M s) (h : s.pb = []) : RulesFine M s.rs := by
 have X := x.kl m1 m2
 refine ⟨X.rs, fun w hw => ?_⟩
 rcases X.allr w hw with h1 | ⟨u, hu, _⟩
 ·exact h1
 ·rw [h] at hu; cases hu
theorem read_first {M : List Nat × List Nat} (m1 : IsWhole M.1) (m2 : IsWhole M.2) {rs : List Rule} (F : RulesFine M rs) {fi : PM} (X : FirstOk M fi) {text w : List Nat} (hs : IsSigns text) (h0 : text ≠ []) (x : RReach rs text w []) : look fi (ev M text) = some w := by
 obtain ⟨a, b⟩ := read_end m1 m2 F hs h0 x
 obtain ⟨u, u1, u2, u3⟩ := X.find hs h0
 rw [u1, least_uniq u2 a (u3.trans b.symm)]
noncomputable def ones1 (rs : List Rule) (w : List Nat) : List Int := 0 :: rs.filterMap fun r => if r.1 <:+ w then some 1 else none
theorem ones1_max {rs : List Rule} {w : List Nat} {m : Int} (h : m ∈ ones1 rs w) (hm : ∀ x ∈ ones1 rs w, x ≤ m) : m = intB (asks rs w) := by
 unfold ones1 at h hm
 by_cases ha : asks rs w = true
 ·obtain ⟨r, hr, hs⟩ := asks_iff.mp ha
  have h1 := hm 1 (List.mem_cons_of_mem _ (List.mem_filterMap.mpr ⟨r, hr, by rw [if_pos hs]⟩))
  have h2 : m ≤ 1 := by
   rcases List.mem_cons.mp h with rfl | h
   ·lia
   ·obtain ⟨q, _, e⟩ := List.mem_filterMap.mp h
    split at e
    ·cases e; lia
    ·cases e
  rw [ha]; show m = 1; lia
 ·have ha : asks rs w = false := by simpa -iota using ha
  have hn : rs.filterMap (fun r => if r.1 <:+ w then some (1 : Int) else none) = [] := by
   rw [List.filterMap_eq_nil_iff]
   intro r hr
   rw [if_neg]
   intro hs
   rw [asks_iff.mpr ⟨r, hr, hs⟩] at ha; cases ha
  rw [hn] at h
  simp -iota at h
  rw [ha]; subst h; rfl
noncomputable def headsOf (text : List Nat) : List (List Nat) := (List.range text.length).map fun k => text.take (k + 1)
theorem heads_in {text w : List Nat} (h : w ∈ headsOf text) : w <+: text ∧ w ≠ [] ∧ w.length ≤ text.length := by
 obtain ⟨k, hk, rfl⟩ := List.mem_map.mp h
 rw [List.mem_range] at hk
 refine ⟨List.take_prefix _ _, ?_, by rw [List.length_take]; lia⟩
 intro e
 have h2 := congrArg List.length e
 rw [List.length_take, List.length_nil] at h2
 lia
theorem gc_law {v_script : Value} {av_script : AV} (S : St (c2 w os) g h l) (r_script : av_script.rep v_script)
  (k : ∀ L h', St (c2 w os) g h' ((L + 6, isC none) :: (L + 5, isC none) :: (L + 4, isC none) :: (L + 3, isC none) :: (L + 2, isC none) :: (L + 1, isC none) :: (L, isFr [((Str.ofString "script"), some av_script), ((Str.ofString "own"), none), ((Str.ofString "numbers"), none), ((Str.ofString "sign"), none), ((Str.ofString "words"), none), ((Str.ofString "writing"), none), ((Str.ofString "told"), none), ((Str.ofString "kept"), none), ((Str.ofString "first"), none), ((Str.ofString "heads"), none), ((Str.ofString "seen"), none), ((Str.ofString "due"), none), ((Str.ofString "blind"), none), ((Str.ofString "whole_text"), none)]) :: l) → Ok (c2 w os) n (execs bdlaw (mkEnv fdlaw 188 L [((Str.ofString "way"), L + 6), ((Str.ofString "reader"), L + 5), ((Str.ofString "rules"), L + 4), ((Str.ofString "lexer"), L + 3), ((Str.ofString "text"), L + 2), ((Str.ofString "maps"), L + 1)])) (kFn P) h') :
  OkC (c2 w os) (n + 1) (.call (.ref 188) ⟨[v_script], []⟩) (fun fl h' => ∃ v, fl = .ret v ∧ P v h') h := by
 refine (okC_call (fd := fdlaw) S (S.topH.k _ _ (fn_law _)) rfl rfl rfl (codeRec_of S.topH.k (cd_law _)) nd_law ?_)
 have hb : bindArgs fdlaw ⟨[v_script], []⟩ = pure [((Str.ofString "script"), v_script)] := by kernel_rfl
 rw [hb]
 refine ok_pure ⟨_, S, fun L h S => ?_⟩
 rw [ns_law, ce_law] at S
 rw [cf_law, hb_law]
 have S := S.weak (.there (.there (.there (.there (.there (.there .here)))))) fun o q => isFr_none q
 refine ok_bind_cons ?_
 refine ok_stM' S fk_law (by kernel_rfl) (.there (.there (.there (.there (.there (.there .here)))))) .here r_script fun h S => ?_
 exact ok_bind_nil ⟨S.topH, okC_func ((k L _ S).mono fun f h' z => ⟨_, rfl, z⟩)⟩
theorem go_law {v_script : Value} {av_script : AV} (S : St (c2 w os) g h l) (r_script : av_script.rep v_script)
  (k : ∀ L h', St (c2 w os) g h' ((L + 6, isC none) :: (L + 5, isC none) :: (L + 4, isC none) :: (L + 3, isC none) :: (L + 2, isC none) :: (L + 1, isC none) :: (L, isFr [((Str.ofString "script"), some av_script), ((Str.ofString "own"), none), ((Str.ofString "numbers"), none), ((Str.ofString "sign"), none), ((Str.ofString "words"), none), ((Str.ofString "writing"), none), ((Str.ofString "told"), none), ((Str.ofString "kept"), none), ((Str.ofString "first"), none), ((Str.ofString "heads"), none), ((Str.ofString "seen"), none), ((Str.ofString "due"), none), ((Str.ofString "blind"), none), ((Str.ofString "whole_text"), none)]) :: l) → Ok (c2 w os) n (execs bdlaw (mkEnv fdlaw 188 L [((Str.ofString "way"), L + 6), ((Str.ofString "reader"), L + 5), ((Str.ofString "rules"), L + 4), ((Str.ofString "lexer"), L + 3), ((Str.ofString "text"), L + 2), ((Str.ofString "maps"), L + 1)])) (kFn P) h') :
  Ok (c2 w os) (n + 1) (call (.ref 188) [v_script]) P h := ok_call (gc_law S r_script k)
noncomputable def lawS (i : Nat) : List Stmt := bdlaw.drop i
noncomputable def lawFr (script : Addr) (own numbers sign words writing told kept first heads seen due blind whole : Option AV) : AM :=
 [(Str.ofString "script", some (AV.ref script)), (Str.ofString "own", own), (Str.ofString "numbers", numbers), (Str.ofString "sign", sign), (Str.ofString "words", words), (Str.ofString "writing", writing), (Str.ofString "told", told), (Str.ofString "kept", kept), (Str.ofString "first", first), (Str.ofString "heads", heads), (Str.ofString "seen", seen), (Str.ofString "due", due), (Str.ofString "blind", blind), (Str.ofString "whole_text", whole)]
section
variable {script : Addr} {own : Option AV} {numbers : Option AV} {sign : Option AV} {words : Option AV} {writing : Option AV} {told : Option AV} {kept : Option AV} {first : Option AV} {heads : Option AV} {seen : Option AV} {due : Option AV} {blind : Option AV} {whole : Option AV} {v : AV}
theorem lawFr.h0 : HasA (lawFr script own numbers sign words writing told kept first heads seen due blind whole) (Str.ofString "script") (AV.ref script) := .here
theorem lawFr.h1 : HasA (lawFr script (some v) numbers sign words writing told kept first heads seen due blind whole) (Str.ofString "own") v := .i1
theorem lawFr.p1 : PutA (lawFr script own numbers sign words writing told kept first heads seen due blind whole) (Str.ofString "own") v (lawFr script (some v) numbers sign words writing told kept first heads seen due blind whole) := .i1
theorem lawFr.h2 : HasA (lawFr script own (some v) sign words writing told kept first heads seen due blind whole) (Str.ofString "numbers") v := .i2
theorem lawFr.p2 : PutA (lawFr script own numbers sign words writing told kept first heads seen due blind whole) (Str.ofString "numbers") v (lawFr script own (some v) sign words writing told kept first heads seen due blind whole) := .i2
theorem lawFr.h3 : HasA (lawFr script own numbers (some v) words writing told kept first heads seen due blind whole) (Str.ofString "sign") v := .i3
theorem lawFr.p3 : PutA (lawFr script own numbers sign words writing told kept first heads seen due blind whole) (Str.ofString "sign") v (lawFr script own numbers (some v) words writing told kept first heads seen due blind whole) := .i3
theorem lawFr.h4 : HasA (lawFr script own numbers sign (some v) writing told kept first heads seen due blind whole) (Str.ofString "words") v := .i4
theorem lawFr.p4 : PutA (lawFr script own numbers sign words writing told kept first heads seen due blind whole) (Str.ofString "words") v (lawFr script own numbers sign (some v) writing told kept first heads seen due blind whole) := .i4
theorem lawFr.h5 : HasA (lawFr script own numbers sign words (some v) told kept first heads seen due blind whole) (Str.ofString "writing") v := .i5
theorem lawFr.p5 : PutA (lawFr script own numbers sign words writing told kept first heads seen due blind whole) (Str.ofString "writing") v (lawFr script own numbers sign words (some v) told kept first heads seen due blind whole) := .i5
theorem lawFr.h6 : HasA (lawFr script own numbers sign words writing (some v) kept first heads seen due blind whole) (Str.ofString "told") v := .i6
theorem lawFr.p6 : PutA (lawFr script own numbers sign words writing told kept first heads seen due blind whole) (Str.ofString "told") v (lawFr script own numbers sign words writing (some v) kept first heads seen due blind whole) := .i6
theorem lawFr.h7 : HasA (lawFr script own numbers sign words writing told (some v) first heads seen due blind whole) (Str.ofString "kept") v := .i7
theorem lawFr.p7 : PutA (lawFr script own numbers sign words writing told kept first heads seen due blind whole) (Str.ofString "kept") v (lawFr script own numbers sign words writing told (some v) first heads seen due blind whole) := .i7
theorem lawFr.h8 : HasA (lawFr script own numbers sign words writing told kept (some v) heads seen due blind whole) (Str.ofString "first") v := .i8
theorem lawFr.p8 : PutA (lawFr script own numbers sign words writing told kept first heads seen due blind whole) (Str.ofString "first") v (lawFr script own numbers sign words writing told kept (some v) heads seen due blind whole) := .i8
theorem lawFr.h9 : HasA (lawFr script own numbers sign words writing told kept first (some v) seen due blind whole) (Str.ofString "heads") v := .i9
theorem lawFr.p9 : PutA (lawFr script own numbers sign words writing told kept first heads seen due blind whole) (Str.ofString "heads") v (lawFr script own numbers sign words writing told kept first (some v) seen due blind whole) := .i9
theorem lawFr.h10 : HasA (lawFr script own numbers sign words writing told kept first heads (some v) due blind whole) (Str.ofString "seen") v := .i10
theorem lawFr.p10 : PutA (lawFr script own numbers sign words writing told kept first heads seen due blind whole) (Str.ofString "seen") v (lawFr script own numbers sign words writing told kept first heads (some v) due blind whole) := .i10
theorem lawFr.h11 : HasA (lawFr script own numbers sign words writing told kept first heads seen (some v) blind whole) (Str.ofString "due") v := .i11
theorem lawFr.p11 : PutA (lawFr script own numbers sign words writing told kept first heads seen due blind whole) (Str.ofString "due") v (lawFr script own numbers sign words writing told kept first heads seen (some v) blind whole) := .i11
theorem lawFr.h12 : HasA (lawFr script own numbers sign words writing told kept first heads seen due (some v) whole) (Str.ofString "blind") v := .i12
theorem lawFr.p12 : PutA (lawFr script own numbers sign words writing told kept first heads seen due blind whole) (Str.ofString "blind") v (lawFr script own numbers sign words writing told kept first heads seen due (some v) whole) := .i12
theorem lawFr.h13 : HasA (lawFr script own numbers sign words writing told kept first heads seen due blind (some v)) (Str.ofString "whole_text") v := .i13
theorem lawFr.p13 : PutA (lawFr script own numbers sign words writing told kept first heads seen due blind whole) (Str.ofString "whole_text") v (lawFr script own numbers sign words writing told kept first heads seen due blind (some v)) := .i13
end
noncomputable abbrev lawCs (L : Addr) : List (Str × Addr) := [(Str.ofString "way", L + 6), (Str.ofString "reader", L + 5), (Str.ofString "rules", L + 4), (Str.ofString "lexer", L + 3), (Str.ofString "text", L + 2), (Str.ofString "maps", L + 1)]
noncomputable abbrev lawTl (L : Addr) (way reader rules lexer text maps : Option AV) (l : Led) : Led := (L + 6, isC way) :: (L + 5, isC reader) :: (L + 4, isC rules) :: (L + 3, isC lexer) :: (L + 2, isC text) :: (L + 1, isC maps) :: l
noncomputable abbrev lawLed (L : Addr) (way reader rules lexer text maps : Option AV) (fr : AM) (l : Led) : Led := (L, isFr fr) :: lawTl L way reader rules lexer text maps l
theorem piece_map {α β : Type} (f : α → β) (xs : List α) (i j : Option Int) : piece (xs.map f) i j = (piece xs i j).map f := by
 unfold piece
 rw [List.length_map, ← List.map_drop, ← List.map_take]
theorem ints_at {xs : List Int} {i : Nat} {av : AV} (h : (intAV xs)[i]? = some av) : ∃ x, xs[i]? = some x ∧ av = .int x := by
 simp only [intAV, List.getElem?_map, Option.map_eq_some_iff] at h
 obtain ⟨x, hx, rfl⟩ := h
 exact ⟨x, hx, rfl⟩
theorem turn_at {xs : List Int} {i : Nat} {G : Value → Prop} (k : ∀ x t, xs[i]? = some x → G (.int x t)) : ∀ (av : AV) (v : Value), (intAV xs)[i]? = some av → av.rep v → G v := fun av v h rv => by
 obtain ⟨x, hx, rfl⟩ := ints_at h; exact rep_eI rv fun t => k x t hx
theorem intAV_len (xs : List Int) : (intAV xs).length = xs.length := by simp [intAV]
theorem range_some {α β : Type} (f : α → β) (xs : List α) : (List.range xs.length).filterMap (fun i => (xs[i]?).map f) = xs.map f := by
 have := range_fmap (fun x => some (f x)) xs
 rw [List.filterMap_eq_map'] at this
 rw [← this]
 refine fmap_congr fun i u_ => ?_
 cases xs[i]? <;> rfl
set_option tactic.hygienic true in
theorem lawA {P : Flow → Heap → Prop} {L ls : Addr} {xs : List Int}
  (S : St (c2 w os) g h (lawLed L none none none none none none (lawFr ls none none none none none none none none none none none none none) l)) (A0 : HO g ls (isL (intAV xs))) (hz : xs.length ≤ 63)
  (k : ∀ nl h' x, St (c2 w os) g h' ((nl, isL (intAV (numsOf xs))) :: lawLed L none none none none none none (lawFr ls (some (.ref x)) (some (.ref nl)) none none none none none none none none none none none) l) → Ok (c2 w os) n (execs (lawS 2) (mkEnv fdlaw 188 L (lawCs L))) P h') :
  Ok (c2 w os) n (execs bdlaw (mkEnv fdlaw 188 L (lawCs L))) P h := by
 refine ok_s ?_
 walk_at "go"
 rename_i ow _ _
 rename St _ _ _ _ => S
 have S : St (c2 w os) g _ ((ow, isL (intAV own5)) :: lawLed L none none none none none none (lawFr ls (some (.ref ow)) none none none none none none none none none none none none) l) := S
 refine ok_fmapIU [Str.ofString ".0", Str.ofString "x"] (fun u_ => rfl) rfl rfl (by kernel_rfl) (by kernel_rfl) (by decide) ?_
 walk_at "gs"
 refine ok_sliceL S .none .some (S.here A0) (by rw [intAV_len]; walk_at "lx") fun x1 h S => ?_
 walk_at "go"
 refine ok_len_L (S.here A0) (by rw [intAV_len]; walk_at "lx") fun t => ?_
 rw [intAV_len]
 walk_at "gs"
 refine ok_sliceL S .some .none (S.get (.i2)) (by simp [intAV, own5]) fun x2 h S => ?_
 walk_at "go"
 have l1 : (piece (intAV xs) none (some 8)).length ≤ 8 := by
  rw [piece_to _ (by decide : (0 : Int) ≤ 8), List.length_take]
  have : (8 : Int).toNat = 8 := rfl
  walk_at "lx"
 have l2 : (piece (intAV own5) (some (xs.length : Int)) none).length ≤ 5 := by
  rw [piece_from _ (by walk_at "li" : (0 : Int) ≤ (xs.length : Int)), List.length_drop, intAV_len]
  have : own5.length = 5 := rfl
  walk_at "lx"
 refine ok_addLA S (S.get (.i1)) (S.get .here) (by walk_at "li") fun sl h S => ?_
 walk_at "go"
 have es : piece (intAV xs) none (some 8) ++ piece (intAV own5) (some (xs.length : Int)) none = intAV (piece xs none (some 8) ++ piece own5 (some (xs.length : Int)) none) := by
  unfold intAV
  rw [piece_map, piece_map, List.map_append]
 rw [es] at S
 have hnl := nums_len xs
 unfold numsOf at hnl k
 rw [List.length_map] at hnl
 generalize piece xs none (some 8) ++ piece own5 (some (xs.length : Int)) none = ys at S hnl k
 refine ok_iterLA S (S.get .here) fun it h S => ?_
 refine ⟨_, _, _, _, _, _, rfl, srcA_list, by rw [intAV_len]; walk_at "lx", S, fun h l' S => S.right.get .here, fun i => (ys[i]?).map fun x => .int (x.fmod 1000000), ?_, ?_⟩
 ·rintro i C D zs m h av v hi rv hm S
  revert av v
  refine turn_at fun x t hx => ?_
  revert m
  refine shapeE2 fun o1 o2 => ?_
  intro S
  walk_at "go"
  refine ⟨.int (x.fmod 1000000), by (try dsimp only); rw [hx]; rfl, ?_⟩
  walk_at "go"
  refine ok_pow_int (by decide) (by decide) (by decide) fun t => ?_
  rw [show (10 : Int) ^ (6 : Int).toNat = 1000000 by decide]
  refine ok_mod_int (by decide) fun t => ?_
  exact ⟨_, rfl, rep_int, by assumption⟩
 intro D C m h S
 rw [intAV_len, range_some (fun x : Int => AV.int (x.fmod 1000000))] at S
 have eI : ys.map (fun x : Int => AV.int (x.fmod 1000000)) = intAV (ys.map fun x => x.fmod 1000000) := by unfold intAV; rw [List.map_map]; rfl
 rw [eI] at S
 refine ok_assignC S rfl (by kernel_rfl) (by kernel_rfl) (.i4) lawFr.p2 fun h S => ?_
 exact k D h ow S.f2.tail.f2.tail.f2.tail.f2.tail
theorem lt2 {i : Nat} (h : i < 2) : i = 0 ∨ i = 1 := by walk_at "li"
theorem lt3 {i : Nat} (h : i < 3) : i = 0 ∨ i = 1 ∨ i = 2 := by walk_at "li"
theorem lt4 {i : Nat} (h : i < 4) : i = 0 ∨ i = 1 ∨ i = 2 ∨ i = 3 := by walk_at "li"
theorem pow3 {j : Nat} (h : j < 3) : (3 : Int) ^ j = 1 ∨ (3 : Int) ^ j = 3 ∨ (3 : Int) ^ j = 9 := by
 rcases lt3 h with rfl | rfl | rfl
 ·exact .inl rfl
 ·exact .inr (.inl rfl)
 ·exact .inr (.inr rfl)
theorem str_digit {i : Nat} (h : i < 3) : Str.ofString (toString ((i : Nat) : Int)) = str [48 + i] := by
 rcases lt3 h with rfl | rfl | rfl
 ·kernel_rfl
 ·kernel_rfl
 ·kernel_rfl
theorem int_at {ns : List Int} {i : Nat} (h : i < ns.length) : (intAV ns)[i]? = some (.int (ns.getD i 0)) := by
 simp [intAV, h, List.getD_eq_getElem?_getD]
noncomputable def mapsOf (ns : List Int) : List Nat × List Nat := (mapText (ns.getD 0 0), mapText (ns.getD 1 0))
theorem lawB {P : Flow → Heap → Prop} {L ls ow nl : Addr} {ns : List Int} (hn5 : 5 ≤ ns.length) (hn8 : ns.length ≤ 8) (hin : ∀ x ∈ ns, 0 ≤ x ∧ x < 1000000)
  (S : St (c2 w os) g h (lawLed L none none none none none none (lawFr ls (some (.ref ow)) (some (.ref nl)) none none none none none none none none none none none) l)) (A0 : HO g nl (isL (intAV ns)))
  (k : ∀ g' md h' o, Gr g g' → HO g' md (isDic (c2 w os) (mapsD (mapsOf ns))) → NotSys md → St (c2 w os) g' h' (lawLed L none none none none none (some (.ref md)) (lawFr ls (some (.ref ow)) (some (.ref nl)) o none none none none none none none none none none) l) → Ok (c2 w os) (n + 14) (execs (lawS 3) (mkEnv fdlaw 188 L (lawCs L))) P h') :
  Ok (c2 w os) (n + 14) (execs (lawS 2) (mkEnv fdlaw 188 L (lawCs L))) P h := by
 refine ok_s ?_
 walk_at "go"
 refine ok_zcompDU1 Str (xc := Str.ofString "x") [Str.ofString ".0", Str.ofString "sign"] (fun u_ => rfl) rfl rfl (by kernel_rfl) (by kernel_rfl) (by decide) (fun C l => by kernel_rfl) (fun C => by kernel_rfl) ?_
 walk_at "gs"
 refine ok_zip_sl (n := n + 12) S A0 fun z TI TO i1 i2 h S => ?_
 walk_at "go"
 refine ok_zip_iter S .here ?_
 refine St.fz S.f3 fun g1 k1 HT S => ?_
 have A0 := A0.gr k1
 have S := S.perm (l' := (z, isZ .none TI TO) :: (TO, isTn 2) :: (i1, _) :: (i2, _) :: _) (.cons _ (.cons _ (.swap ..)))
 refine ⟨g1, z, _, _, fun i => [.str [if i = 0 then 34 else 92], .int (ns.getD i 0)], 2, _, rfl, srcZ2 srcN_str srcN_list HT (fun h l' S => ⟨trivial, S.here A0⟩) rfl ?_, by decide, S, fun i => str [if i = 0 then 34 else 92], fun i => .str (mapText (ns.getD i 0)), ?_, ?_⟩
 ·intro i hi
  refine ⟨_, _, ?_, int_at (by walk_at "li"), rfl⟩
  rcases lt2 hi with rfl | rfl
  ·rfl
  ·rfl
 ·rintro i C D ys m o h T hi hm S
  revert m
  refine shapeE2 fun o1 o2 => ?_
  intro S
  refine ok_assign_Tuple S (S.get .here) rfl rfl fun h us r S => ?_
  revert us
  first | refine Reps.eS fun t1 => ?_ | refine Reps.eI fun t1 => ?_
  first | refine Reps.eS fun t2 => ?_ | refine Reps.eI fun t2 => ?_
  refine Reps.eN ?_
  have hx : ns.getD i 0 ∈ ns := by
   have : i < ns.length := by walk_at "li"
   rw [List.getD_eq_getElem?_getD, List.getElem?_eq_getElem this]
   exact List.getElem_mem _
  have hx := hin _ hx
  (try dsimp only at S)
  generalize hxv : ns.getD i 0 = xv at S hx
  generalize hsg : (if i = 0 then 34 else 92 : Nat) = sg at S
  walk_at "gs"
  refine ok_stCA S rfl (by kernel_rfl) rfl (.i2) rep_int fun h S => ?_
  walk_at "go"
  refine ok_fmapI [Str.ofString ".0", Str.ofString "k"] (fun u_ => rfl) rfl rfl (by kernel_rfl) (by kernel_rfl) (by decide) ?_
  walk_at "go"
  refine ok_range1 S fun ra h S => ?_
  walk_at "go"
  refine ok_iter_rangeN (N := 3) S (S.get .here) (by decide) fun it h S => ?_
  refine ⟨_, _, _, _, _, _, rfl, srcA_range (x := 0) (s := 1) (N := 3), by decide, S, fun h l' S => trivial, fun j => if j < 3 then some (.str [48 + fig 3 xv j]) else none, ?_, ?_⟩
  ·rintro j C2 D2 zs m h av v hj rv hm2 S
   revert av v
   refine turn_ints fun t hj3 => ?_
   revert m
   refine shapeE2 fun q1 q2 => ?_
   intro S
   have ej : (0 : Int) + (j : Int) * 1 = (j : Int) := by walk_at "li"
   rw [ej]
   walk_at "go"
   refine ⟨.str [48 + fig 3 xv j], by (try dsimp only); rw [if_pos hj3], ?_⟩
   walk_at "gs"
   have e3 := pow3 hj3
   have ef : (xv.fdiv ((3 : Int) ^ j)).fmod 3 = (fig 3 xv j : Nat) := fig_cast (b := 3) (by decide) xv j
   have hf3 := fig_lt (b := 3) (by decide) xv j
   refine ok_pow_int (by walk_at "li") (by walk_at "li") (by decide) fun t => ?_
   rw [Int.toNat_natCast]
   refine ok_fdiv_int (by walk_at "li") (by walk_at "li") fun t => ?_
   walk_at "go"
   refine ok_mod_int (by decide) fun t => ?_
   rw [ef]
   walk_at "go"
   refine ok_str_int (by
    have : fig 3 xv j = 0 ∨ fig 3 xv j = 1 ∨ fig 3 xv j = 2 := by walk_at "li"
    rcases this with e | e | e <;> rw [e] <;> decide) fun t => ?_
   rw [str_digit hf3]
   exact ⟨_, rfl, rep_str, S⟩
  intro D2 h S
  have e9 : (List.range (intsOf 0 1 3).length).filterMap (fun j => if j < 3 then some (AV.str [48 + fig 3 xv j]) else none) = strsOf ((List.range 3).map fun j => [48 + fig 3 xv j]) := by rfl
  rw [e9] at S
  walk_at "go"
  refine ok_joinA (S.get .here) ?_ fun t => ?_
  ·exact Nat.le_trans (m := 3) (Nat.le_of_eq rfl) (by decide)
  have e10 : glueL [] ((List.range 3).map fun j => [48 + fig 3 xv j]) = mapText xv := by rfl
  rw [e10]
  exact ⟨_, _, [_, _, _], rfl, (by (try rw [hsg]); exact rep_key), (by (try rw [hxv]); exact rep_str), S⟩
 intro D C m h S
 have ef : (List.range 2).foldl (fun d i => putAt d (str [if i = 0 then 34 else 92]) (AV.str (mapText (ns.getD i 0)))) [] = mapsD (mapsOf ns) := by
  have e1 : putAt ([] : DM Str) (str [34]) (AV.str (mapText (ns.getD 0 0))) = [(str [34], AV.str (mapText (ns.getD 0 0)))] := rfl
  show putAt (putAt [] (str [34]) _) (str [92]) _ = _
  rw [e1, putAt_new (by rfl)]
  rfl
 rw [ef] at S
 refine ⟨_, _, _, S, fun h S => ?_⟩
 have nd := S.sys .here
 refine St.fz S fun g2 k2 D2 S => ?_
 refine ok_stCM' S fk_law (by kernel_rfl) rfl (.i6) rep_ref fun h S => ?_
 exact k g2 D _ _ (k1.trans k2) D2 nd S
noncomputable def optL {α : Type} (f : α → List AV) (o : Option α) : List AV := match o with | some x => f x | none => []
theorem fm_some {α : Type} (f : α → List AV) (xs : List α) : (List.range xs.length).flatMap (fun i => optL f xs[i]?) = xs.flatMap f := by
 induction xs with
 | nil => rfl
 | cons p r ih =>
  rw [List.length_cons, List.range_succ_eq_map, List.flatMap_cons, List.flatMap_map, List.flatMap_cons]
  show f p ++ (List.range r.length).flatMap (fun i => optL f r[i]?) = _
  rw [ih]
theorem drawn_strs (xs : List Int) : xs.flatMap (fun x => strsOf [[signAt (fig 2 x 0)], [signAt (fig 2 x 1)]]) = strsOf ((xs.flatMap fun x => (List.range 2).map fun k => signAt (fig 2 x k)).map fun k => [k]) := by
 induction xs with
 | nil => rfl
 | cons x r ih => rw [List.flatMap_cons, List.flatMap_cons, ih]; simp [strsOf]; rfl
theorem glue_ones (ks : List Nat) : glueL [] (ks.map fun k => [k]) = ks := by
 rw [glue_nil]
 induction ks with
 | nil => rfl
 | cons k r ih => rw [List.map_cons, List.flatten_cons, ih]; rfl
theorem sum_ones (ks : List Nat) : ((ks.map fun k => [k]).map (·.length)).sum = ks.length := by
 induction ks with
 | nil => rfl
 | cons k r ih => rw [List.map_cons, List.map_cons, List.sum_cons, ih, List.length_cons]; simp; walk_at "lx"
theorem tri {i : Nat} (h : i < 3) : i = 0 ∨ i = 1 ∨ i = 2 := by lia
theorem pow2 {j : Nat} (h : j < 2) : (2 : Int) ^ j = 1 ∨ (2 : Int) ^ j = 2 := by
 obtain rfl | rfl : j = 0 ∨ j = 1 := by lia
 ·exact .inl rfl
 ·exact .inr rfl
theorem fig2_cast (x : Int) (j : Nat) : (x.fdiv ((2 : Int) ^ j)).fmod 2 = (fig 2 x j : Nat) := fig_cast (b := 2) (by decide) x j
theorem fig2_or (x : Int) (j : Nat) : fig 2 x j = 0 ∨ fig 2 x j = 1 := by have := fig_lt (b := 2) (by decide) x j; walk_at "lx"
theorem lawC {P : Flow → Heap → Prop} {L ls ow nl md : Addr} {ns : List Int} {o0 : Option AV} (hn5 : 5 ≤ ns.length) (hn8 : ns.length ≤ 8) (hin : ∀ x ∈ ns, 0 ≤ x ∧ x < 1000000)
  (S : St (c2 w os) g h (lawLed L none none none none none (some (.ref md)) (lawFr ls (some (.ref ow)) (some (.ref nl)) o0 none none none none none none none none none none) l)) (A0 : HO g nl (isL (intAV ns)))
  (k : ∀ h', St (c2 w os) g h' (lawLed L none none none none (some (.str (drawn2 ns))) (some (.ref md)) (lawFr ls (some (.ref ow)) (some (.ref nl)) o0 none none none none none none none none none none) l) → Ok (c2 w os) n (execs (lawS 4) (mkEnv fdlaw 188 L (lawCs L))) P h') :
  Ok (c2 w os) n (execs (lawS 3) (mkEnv fdlaw 188 L (lawCs L))) P h := by
 refine ok_s ?_
 walk_at "go"
 refine ok_comp2 [Str.ofString ".0", Str.ofString "x", Str.ofString "k"] (fun u_ => rfl) (fun u_ u_ => rfl) rfl rfl (by kernel_rfl) (by kernel_rfl) (by decide) ?_
 walk_at "gs"
 refine ok_sliceL S .some .none (S.here A0) (by rw [intAV_len]; walk_at "lx") fun x1 h S => ?_
 have ed : piece (intAV ns) (some 2) none = intAV (ns.drop 2) := by
  unfold intAV
  rw [piece_map, piece_from _ (by decide : (0 : Int) ≤ 2)]
  rfl
 rw [ed] at S
 walk_at "go"
 refine ok_iterLA S (S.get .here) fun it h S => ?_
 refine ⟨_, _, _, _, _, _, 2, rfl, srcA_list, S, fun h l' S => S.right.get .here, fun i => optL (fun x => strsOf [[signAt (fig 2 x 0)], [signAt (fig 2 x 1)]]) (ns.drop 2)[i]?, ?_, ?_, ?_, ?_⟩
 ·intro i; (try dsimp only); unfold optL; split <;> simp [strsOf]
 ·rw [intAV_len, List.length_drop]; walk_at "lx"
 ·rintro C D i ys m h av v hi rv hm S
  revert av v
  refine turn_at fun xv t hx => ?_
  revert m
  refine shapeE3 fun o1 o2 o3 => ?_
  intro S
  have hxin := hin xv (List.mem_of_mem_drop (List.mem_of_getElem? hx))
  walk_at "gs"
  refine ok_range1 S fun ra h S => ?_
  walk_at "go"
  refine ok_iter_rangeN (N := 2) S (S.get .here) (by decide) fun it2 h S => ?_
  have S := S.perm (l' := (it2, _) :: (C, _) :: (D, _) :: (it, _) :: (ra, _) :: _) (.cons _ ((List.Perm.cons _ ((List.Perm.cons _ (.swap ..)).trans (.swap ..))).trans (.swap ..)))
  refine ⟨_, _, _, _, [(ra, isRange 0 2 1)], _, rfl, srcA_range (x := 0) (s := 1) (N := 2), S, fun h l' S => trivial, fun m => ∃ o, m = [(Str.ofString ".0", o1), (Str.ofString "x", some (.int xv)), (Str.ofString "k", o)], fun j => .str [signAt (fig 2 xv j)], ⟨_, rfl⟩, ?_, ?_, ?_⟩
  ·rintro m ⟨o, rfl⟩; rfl
  ·show optL (fun x => strsOf [[signAt (fig 2 x 0)], [signAt (fig 2 x 1)]]) (ns.drop 2)[i]? = _
   rw [hx]; rfl
  ·rintro j ys m h av v hj rv ⟨o, rfl⟩ S
   revert av v
   refine turn_ints fun t hj2 => ?_
   have ej : (0 : Int) + (j : Int) * 1 = (j : Int) := by walk_at "li"
   rw [ej]
   walk_at "gs"
   have e3 := pow2 hj2
   have ef := fig2_cast xv j
   have hf2 := fig_lt (b := 2) (by decide) xv j
   refine ok_pow_int (by walk_at "li") (by walk_at "li") (by decide) fun t => ?_
   rw [Int.toNat_natCast]
   refine ok_fdiv_int (by walk_at "li") (by walk_at "li") fun t => ?_
   walk_at "go"
   refine ok_mod_int (by decide) fun t => ?_
   rw [ef]
   refine ok_itemS (by walk_at "li") (by walk_at "li") (k := signAt (fig 2 xv j)) ?_ fun t => ?_
   ·rw [Int.toNat_natCast]
    rcases fig2_or xv j with e | e <;> rw [e] <;> rfl
   exact ⟨_, ⟨_, rfl⟩, rep_str, S⟩
 intro D h S
 have hdl := text_len ns
 rw [intAV_len, fm_some, drawn_strs] at S
 have S : St (c2 w os) g h ((D, isL (strsOf ((drawn2 ns).map fun k => [k]))) :: _) := S
 walk_at "go"
 refine ok_joinA (S.get .here) ?_ fun t => ?_
 ·rw [sum_ones]; simp; walk_at "lx"
 rw [glue_ones]
 have S := S.tail.tail
 refine ok_stCM' S fk_law (by kernel_rfl) rfl (.i5) rep_str fun h S => ?_
 exact k _ S
theorem maps_get {M : List Nat × List Nat} {i : Nat} {av : AV} (h : (keysOf (mapsD M))[i]? = some av) : ∃ s, (s = 34 ∨ s = 92) ∧ av = .str [s] ∧ mapOf M s = (if i = 0 then M.1 else M.2) ∧ i < 2 := by
 rw [keys_maps] at h
 obtain ⟨y, hy, rfl⟩ := strs_get h
 rcases two_sg hy with ⟨rfl, rfl⟩ | ⟨rfl, rfl⟩
 ·exact ⟨34, .inl rfl, rfl, rfl, by decide⟩
 ·exact ⟨92, .inr rfl, rfl, rfl, by decide⟩
noncomputable def words3 (M : List Nat × List Nat) (text : List Nat) : List (List Nat) := [wordOf M.1, wordOf M.2, text]
theorem lawD {P : Flow → Heap → Prop} {L ls ow nl md : Addr} {M : List Nat × List Nat} {text : List Nat} {o0 : Option AV} (m1 : IsWhole M.1) (m2 : IsWhole M.2)
  (S : St (c2 w os) g h (lawLed L none none none none (some (.str text)) (some (.ref md)) (lawFr ls (some (.ref ow)) (some (.ref nl)) o0 none none none none none none none none none none) l)) (D : HO g md (isDic (c2 w os) (mapsD M))) (nd : NotSys md)
  (k : ∀ wl h', St (c2 w os) g h' ((wl, isL (strsOf (words3 M text))) :: lawLed L none none none none (some (.str text)) (some (.ref md)) (lawFr ls (some (.ref ow)) (some (.ref nl)) o0 (some (.ref wl)) none none none none none none none none none) l) → Ok (c2 w os) n (execs (lawS 5) (mkEnv fdlaw 188 L (lawCs L))) P h') :
  Ok (c2 w os) n (execs (lawS 4) (mkEnv fdlaw 188 L (lawCs L))) P h := by
 obtain ⟨ep, F⟩ := D.fix
 refine ok_s ?_
 walk_at "go"
 refine ok_fmapI [Str.ofString ".0", Str.ofString "sign"] (fun u_ => rfl) rfl rfl (by kernel_rfl) (by kernel_rfl) (by decide) ?_
 walk_at "gs"
 refine ok_iterD S nd (F.gr S.keep) fun it h S => ?_
 refine ⟨_, _, _, _, _, _, rfl, srcA_dict (m := mapsD M) (ep := ep), by rw [keys_maps]; decide, S, fun h l' S => F.gr S.keep, fun i => some (.str (wordOf (if i = 0 then M.1 else M.2))), ?_, ?_⟩
 ·rintro i C D1 ys m h av v hi rv hm S
  obtain ⟨s, hs, rfl, hms, hi2⟩ := maps_get hi
  revert m
  refine shapeE2 fun o1 o2 => ?_
  intro S
  obtain ⟨t, rfl⟩ := rv
  have hw := mapOf_whole m1 m2 s
  walk_at "go"
  refine ⟨.str (wordOf (mapOf M s)), by rw [hms], ?_⟩
  walk_at "go"
  refine ok_fmapI [Str.ofString ".0", Str.ofString "k"] (fun u_ => rfl) rfl rfl (by kernel_rfl) (by kernel_rfl) (by decide) ?_
  walk_at "gs"
  refine ok_itemD (S.here D) rep_key (av := .str (mapOf M s)) (at_maps hs) ?_
  walk_at "av"
  walk_at "gs"
  generalize mapOf M s = mm at hw S
  refine ⟨_, _, _, _, _, _, rfl, srcA_str, by rw [signs_len, hw.1]; decide, S, fun u_ u_ u_ => trivial, fun j => (mm[j]?).map fun k => .str [[32, 35, 10].getD (k - 48) 0], ?_, ?_⟩
  ·rintro j C2 D2 zs m h av v hj rv hm2 S
   revert av v
   refine turn_signs fun kk t hk => ?_
   revert m
   refine shapeE2 fun q1 q2 => ?_
   intro S
   have hk2 := hw.2 kk (List.mem_of_getElem? hk)
   walk_at "go"
   refine ⟨.str [[32, 35, 10].getD (kk - 48) 0], by (try dsimp only); rw [hk]; rfl, ?_⟩
   walk_at "go"
   refine ok_intS hk2 fun u_ => ?_
   refine ok_itemS (by walk_at "li") (by walk_at "li") (k := [32, 35, 10].getD (kk - 48) 0) ?_ fun u_ => ⟨_, rfl, rep_str, by assumption⟩
   obtain rfl | rfl | rfl : kk = 48 ∨ kk = 49 ∨ kk = 50 := by walk_at "li"
   all_goals rfl
  intro D2 h S
  have e2 : (List.range (signsOf mm).length).filterMap (fun j => (mm[j]?).map fun k => AV.str [[32, 35, 10].getD (k - 48) 0]) = strsOf ((wordOf mm).map fun k => [k]) := by
   rw [signs_len, range_some]
   unfold wordOf strsOf
   rw [List.map_map, List.map_map]
   rfl
  rw [e2] at S
  walk_at "go"
  refine ok_joinA (S.get .here) ?_ fun t => ?_
  ·rw [sum_ones, wordOf_len, hw.1]; simp
  rw [glue_ones]
  exact ⟨_, rfl, rep_str, S.tail⟩
 intro D1 h S
 have e3 : (List.range (keysOf (mapsD M)).length).filterMap (fun i => some (AV.str (wordOf (if i = 0 then M.1 else M.2)))) = strsOf [wordOf M.1, wordOf M.2] := by rw [keys_maps]; rfl
 rw [e3] at S
 walk_at "gs"
 refine ok_addLA S (S.get (.i1)) (S.get .here) (by simp [strsOf]) fun wl h S => ?_
 refine ok_stM' S fk_law (by kernel_rfl) (by walk_at "m") (by walk_at "m") rep_ref fun h S => ?_
 exact k wl h S.f2.tail.f2.tail
theorem fig27_cast (x : Int) : (x.fdiv 27).fmod 3 = (fig 3 x 3 : Nat) := by
 have := fig_cast (b := 3) (by decide) x 3
 have e : ((3 : Nat) : Int) ^ 3 = 27 := by decide
 rw [e] at this; exact this
theorem piece_le (w : List Nat) (m b : Nat) : (pieceOf w m [b]).length ≤ 2 * w.length + 3 := by
 have := escape_le (riskyOf w m) w
 unfold pieceOf
 split <;> simp <;> walk_at "lx"
noncomputable def man (ns : List Int) (i : Nat) : Nat := fig 3 (ns.getD i 0) 3
theorem man_lt (ns : List Int) (i : Nat) : man ns i < 3 := fig_lt (by decide) _ _
noncomputable def writtenOf (W : List (List Nat)) (ns : List Int) : List Nat := writing3 (W.getD 0 []) (W.getD 1 []) (W.getD 2 []) (man ns 0) (man ns 1) (man ns 2)
theorem strs_at {W : List (List Nat)} {i : Nat} (h : i < W.length) : (strsOf W)[i]? = some (.str (W.getD i [])) := by
 simp [strsOf, h, List.getD_eq_getElem?_getD]
theorem lawE {P : Flow → Heap → Prop} {L ls ow nl wl md : Addr} {ns : List Int} {W : List (List Nat)} {text : List Nat} {o0 : Option AV} (hn5 : 5 ≤ ns.length) (hW : W.length = 3) (hWl : ∀ x ∈ W, x.length ≤ 12)
  (S : St (c2 w os) g h (lawLed L none none none none (some (.str text)) (some (.ref md)) (lawFr ls (some (.ref ow)) (some (.ref nl)) o0 (some (.ref wl)) none none none none none none none none none) l)) (A0 : HO g nl (isL (intAV ns))) (A1 : HO g wl (isL (strsOf W)))
  (k : ∀ g' h', Gr g g' → St (c2 w os) g' h' (lawLed L none none none none (some (.str text)) (some (.ref md)) (lawFr ls (some (.ref ow)) (some (.ref nl)) o0 (some (.ref wl)) (some (.str (writtenOf W ns))) none none none none none none none none) l) → Ok (c2 w os) (n + 14) (execs (lawS 6) (mkEnv fdlaw 188 L (lawCs L))) P h') :
  Ok (c2 w os) (n + 14) (execs (lawS 5) (mkEnv fdlaw 188 L (lawCs L))) P h := by
 refine ok_s ?_
 walk_at "go"
 refine ok_zcompL [Str.ofString ".0", Str.ofString "word", Str.ofString "x", Str.ofString "blank"] (fun u_ => rfl) rfl rfl (by kernel_rfl) (by kernel_rfl) (by decide) ?_
 walk_at "gs"
 refine ok_zip_lls (n := n + 12) S A1 A0 fun z TI TO i1 i2 i3 h S => ?_
 walk_at "go"
 refine ok_zip_iter S .here ?_
 refine St.fz S.f3 fun g1 k1 HT S => ?_
 have A0 := A0.gr k1
 have A1 := A1.gr k1
 have S := S.perm (l' := (z, isZ .none TI TO) :: (TO, isTn 3) :: (i1, _) :: (i2, _) :: (i3, _) :: _) (.cons _ (.cons _ ((List.Perm.swap ..).trans ((List.Perm.cons _ (.swap ..)).trans (.swap ..)))))
 have hWlen : ∀ i, (W.getD i []).length ≤ 12 := fun i => by
  rcases Nat.lt_or_ge i W.length with hi | hi
  ·rw [List.getD_eq_getElem?_getD, List.getElem?_eq_getElem hi]; exact hWl _ (List.getElem_mem _)
  ·rw [List.getD_eq_getElem?_getD, List.getElem?_eq_none hi]; simp
 refine ⟨g1, z, _, _, fun i => [.str (W.getD i []), .int (ns.getD i 0), .str [[10, 9, 13].getD i 0]], 3, _, rfl, srcZ3 srcN_list srcN_list srcN_str HT (fun h l' S => ⟨S.here A1, S.here A0, trivial⟩) (by rw [strs_len, hW]) ?_, by decide, S, fun i => .str (pieceOf (W.getD i []) (man ns i) [[10, 9, 13].getD i 0]), ?_, ?_⟩
 ·intro i hi
  refine ⟨_, _, _, strs_at (by walk_at "li"), int_at (by walk_at "li"), ?_, rfl⟩
  rcases tri hi with rfl | rfl | rfl <;> rfl
 ·rintro i C D ys m h T hi hm S
  revert m
  refine shapeE4 fun o1 o2 o3 o4 => ?_
  intro S
  have hwl := hWlen i
  have hmm := man_lt ns i
  have ef : ((ns.getD i 0).fdiv 27).fmod 3 = (man ns i : Nat) := fig27_cast _
  refine ok_assign_Tuple S (S.get .here) rfl rfl fun h us r S => ?_
  revert us
  first | refine Reps.eS fun t1 => ?_ | refine Reps.eI fun t1 => ?_
  first | refine Reps.eS fun t2 => ?_ | refine Reps.eI fun t2 => ?_
  first | refine Reps.eS fun t3 => ?_ | refine Reps.eI fun t3 => ?_
  refine Reps.eN ?_
  walk_at "gs"
  refine ok_fdiv_int (by decide) (by decide) fun t => ?_
  walk_at "go"
  refine ok_mod_int (by decide) fun t => ?_
  rw [ef]
  walk_at "go"
  refine piece_ok (n := n + 13) S (by walk_at "li") (by simp) hmm fun h t S => ?_
  exact ⟨_, rfl, rep_str, S⟩
 intro D h S
 have eF : (List.range 3).map (fun i => AV.str (pieceOf (W.getD i []) (man ns i) [[10, 9, 13].getD i 0])) = strsOf [pieceOf (W.getD 0 []) (man ns 0) [10], pieceOf (W.getD 1 []) (man ns 1) [9], pieceOf (W.getD 2 []) (man ns 2) [13]] := rfl
 rw [eF] at S
 have q0 := piece_le (W.getD 0 []) (man ns 0) 10
 have q1 := piece_le (W.getD 1 []) (man ns 1) 9
 have q2 := piece_le (W.getD 2 []) (man ns 2) 13
 have r0 := hWlen 0
 have r1 := hWlen 1
 have r2 := hWlen 2
 walk_at "go"
 refine ok_joinA (S.get .here) ?_ fun t => ?_
 ·simp only [List.map_cons, List.map_nil, List.sum_cons, List.sum_nil, List.length_cons, List.length_nil, Nat.mul_zero]
  walk_at "lx"
 have eG : glueL [] [pieceOf (W.getD 0 []) (man ns 0) [10], pieceOf (W.getD 1 []) (man ns 1) [9], pieceOf (W.getD 2 []) (man ns 2) [13]] = writtenOf W ns := by
  rw [glue_nil]; unfold writtenOf writing3; simp
 rw [eG]
 refine ok_stM' S.tail fk_law (by kernel_rfl) (by walk_at "m") (by walk_at "m") rep_str fun h S => ?_
 exact k g1 h k1 S
theorem fr_lineno (P : Params) : findIn (hd.heap_39 P) (.ref 59) (Str.ofString "lineno") = some none := by kernel_rfl
theorem written_le {W : List (List Nat)} {ns : List Int} (hWl : ∀ x ∈ W, x.length ≤ 12) : (writtenOf W ns).length ≤ 100 := by
 have hWlen : ∀ i, (W.getD i []).length ≤ 12 := fun i => by
  rcases Nat.lt_or_ge i W.length with hi | hi
  ·rw [List.getD_eq_getElem?_getD, List.getElem?_eq_getElem hi]; exact hWl _ (List.getElem_mem _)
  ·rw [List.getD_eq_getElem?_getD, List.getElem?_eq_none hi]; simp
 have q0 := piece_le (W.getD 0 []) (man ns 0) 10
 have q1 := piece_le (W.getD 1 []) (man ns 1) 9
 have q2 := piece_le (W.getD 2 []) (man ns 2) 13
 have r0 := hWlen 0
 have r1 := hWlen 1
 have r2 := hWlen 2
 unfold writtenOf writing3
 rw [List.length_append, List.length_append]
 walk_at "lx"
theorem inQ_le (n : Nat) : ∀ (ks acc : List Nat), ks.length ≤ n → (inQ ks acc).2.length ≤ ks.length := by
 induction n with
 | zero => intro ks acc h; cases ks with
  | nil => exact Nat.le_refl _
  | cons k r => exact (Nat.not_succ_le_zero _ h).elim
 | succ n ih => intro ks acc h; cases ks with
  | nil => exact Nat.le_refl _
  | cons k r =>
   have hr : r.length ≤ n := Nat.le_of_succ_le_succ h
   by_cases e1 : k = 34
   ·subst e1; rw [inQ_end]; exact Nat.le_succ _
   ·by_cases e2 : k = 92
    ·subst e2; cases r with
     | nil => rw [inQ_bs0]; exact Nat.zero_le _
     | cons j r => rw [inQ_bs]; exact Nat.le_trans (ih r _ (Nat.le_of_succ_le hr)) (Nat.le_succ_of_le (Nat.le_succ _))
    ·rw [inQ_go e1 e2]; exact Nat.le_trans (ih r _ hr) (Nat.le_succ _)
theorem inB_le (n : Nat) : ∀ (ks acc : List Nat), ks.length ≤ n → (inB ks acc).2.length ≤ ks.length := by
 induction n with
 | zero => intro ks acc h; cases ks with
  | nil => exact Nat.le_refl _
  | cons k r => exact (Nat.not_succ_le_zero _ h).elim
 | succ n ih => intro ks acc h; cases ks with
  | nil => exact Nat.le_refl _
  | cons k r =>
   have hr : r.length ≤ n := Nat.le_of_succ_le_succ h
   by_cases e1 : white k = true
   ·rw [inB_end e1]; exact Nat.le_succ _
   ·by_cases e2 : k = 92
    ·subst e2; cases r with
     | nil => rw [inB_bs0]; exact Nat.zero_le _
     | cons j r => rw [inB_bs]; exact Nat.le_trans (ih r _ (Nat.le_of_succ_le hr)) (Nat.le_succ_of_le (Nat.le_succ _))
    ·rw [inB_go (Bool.eq_false_iff.mpr e1) e2]; exact Nat.le_trans (ih r _ hr) (Nat.le_succ _)
theorem token_le (ks : List Nat) : (token ks).2.length ≤ ks.length := by
 induction ks with
 | nil => exact Nat.le_refl _
 | cons k r ih =>
  rw [token_cons]
  by_cases e0 : white k = true
  ·rw [if_pos e0]; exact Nat.le_succ_of_le ih
  ·rw [if_neg e0]
   by_cases e1 : k = 34
   ·rw [if_pos e1]; exact Nat.le_succ_of_le (inQ_le _ r [] (Nat.le_refl _))
   ·rw [if_neg e1]
    by_cases e2 : k = 92
    ·rw [if_pos e2]
     cases r with
     | nil => exact Nat.zero_le _
     | cons k' r' => exact Nat.le_trans (inB_le _ r' [k'] (Nat.le_refl _)) (Nat.le_succ_of_le (Nat.le_succ _))
    ·rw [if_neg e2]; exact Nat.le_succ_of_le (inB_le _ r [k] (Nat.le_refl _))
theorem cn_int (ks : List Nat) : cn ks = (ks.count 10 : Nat) := rfl
theorem len3 {W : List (List Nat)} (h : W.length = 3) : ∃ w0 w1 w2, W = [w0, w1, w2] := by
 obtain ⟨a, r, rfl, h1⟩ := len_succ h
 obtain ⟨b, r2, rfl, h2⟩ := len_succ h1
 obtain ⟨d, r3, rfl, h3⟩ := len_succ h2
 cases List.length_eq_zero_iff.mp h3
 exact ⟨a, b, d, rfl⟩
theorem getD3_le {K0 R1 R2 : List Nat} {N : Nat} (h0 : K0.length ≤ N) (h1 : R1.length ≤ K0.length) (h2 : R2.length ≤ R1.length) (i : Nat) : ([K0, R1, R2].getD i []).length ≤ N := by
 rcases Nat.lt_or_ge i 3 with h | h
 ·rcases lt3 h with rfl | rfl | rfl
  ·exact h0
  ·exact Nat.le_trans h1 h0
  ·exact Nat.le_trans h2 (Nat.le_trans h1 h0)
 ·rw [List.getD_eq_getElem?_getD, List.getElem?_eq_none h]; exact Nat.zero_le _
theorem strs_four {w0 w1 w2 : List Nat} {i : Nat} (h : i < 4) : strsOf ([w0, w1, w2, []].take i) ++ [.str ([w0, w1, w2, []].getD i [])] = strsOf ([w0, w1, w2, []].take (i + 1)) := by
 rcases lt4 h with rfl | rfl | rfl | rfl
 ·rfl
 ·rfl
 ·rfl
 ·rfl
theorem lawF {P : Flow → Heap → Prop} {L ls ow nl wl md : Addr} {ns : List Int} {W : List (List Nat)} {text : List Nat} {o0 : Option AV} (hW : W.length = 3) (hWl : ∀ x ∈ W, x.length ≤ 12) (hW0 : ∀ x ∈ W, x ≠ []) (hWk : ∀ x ∈ W, ∀ k ∈ x, k < 1000)
  (S : St (c2 w os) g h (lawLed L none none none none (some (.str text)) (some (.ref md)) (lawFr ls (some (.ref ow)) (some (.ref nl)) o0 (some (.ref wl)) (some (.str (writtenOf W ns))) none none none none none none none none) ((127, isTab []) :: l))) (A1 : HO g wl (isL (strsOf W)))
  (k : ∀ g' h' tl lx, Gr g g' → LexTab g' → HO g' tl (isL (strsOf (W ++ [[]]))) → St (c2 w os) g' h' (lawLed L none none none (some (.ref lx)) (some (.str text)) (some (.ref md)) (lawFr ls (some (.ref ow)) (some (.ref nl)) o0 (some (.ref wl)) (some (.str (writtenOf W ns))) (some (.ref tl)) none none none none none none none) l) → Ok (c2 w os) (n + 14) (execs (lawS 9) (mkEnv fdlaw 188 L (lawCs L))) P h') :
  Ok (c2 w os) (n + 14) (execs (lawS 6) (mkEnv fdlaw 188 L (lawCs L))) P h := by
 have hwr := written_le (ns := ns) hWl
 have hm0 := man_lt ns 0
 have hm1 := man_lt ns 1
 have hm2 := man_lt ns 2
 refine ok_s ?_
 walk_at "gs"
 rw [piece_butlast]
 refine lexer_miss (n := n + 5) (ks := (writtenOf W ns).dropLast) (St.front S (a := 127) (.i7)) (by rw [List.length_dropLast]; walk_at "lx") fun g1 a d q p st h k1 T X S => ?_
 have X0 : HO g1 a (isInst 59 d) := ⟨_, X.obj, rfl⟩
 have A1 := A1.gr k1
 obtain ⟨w0, w1, w2, rfl⟩ := len3 hW
 obtain ⟨R1, R2, t0, t1, t2, hcn⟩ := tokens3 (hW0 w0 (by simp)) (hW0 w1 (by simp)) (hW0 w2 (by simp)) hm0 hm1 hm2
 have hwq : writing3 w0 w1 w2 (man ns 0) (man ns 1) (man ns 2) = writtenOf [w0, w1, w2] ns := rfl
 rw [hwq] at t0 hcn
 have hK0 : (writtenOf [w0, w1, w2] ns).dropLast.length ≤ 100 := by rw [List.length_dropLast]; walk_at "lx"
 generalize writtenOf [w0, w1, w2] ns = WW at *
 generalize hq0 : WW.dropLast = K0 at *
 have ht : ∀ i, i < 4 → token ([K0, R1, R2].getD i []) = ([w0, w1, w2, []].getD i [], [K0, R1, R2].getD (i + 1) []) := fun i hi => by
  rcases lt4 hi with rfl | rfl | rfl | rfl
  ·exact t0
  ·exact t1
  ·exact t2
  ·rfl
 have tle : ∀ ks, (token ks).2.length ≤ ks.length := fun ks => token_le ks
 have hKl : ∀ i, ([K0, R1, R2].getD i []).length ≤ 100 := by
  have a1 := tle K0
  have a2 := tle R1
  rw [t0] at a1
  rw [t1] at a2
  exact getD3_le hK0 a1 a2
 walk_at "go"
 refine ok_compAU [Str.ofString ".0", Str.ofString "k"] (fun u_ => rfl) rfl rfl (by kernel_rfl) (by kernel_rfl) (by decide) ?_
 walk_at "gs"
 refine ok_range1 S fun ra h S => ?_
 walk_at "go"
 refine ok_iter_rangeN (N := 4) S (S.get .here) (by decide) fun it h S => ?_
 have S := S.del (.i1) (Same.refl _ _)
 refine ⟨g1, it, _, _, _, _, rfl, srcA_range (x := 0) (s := 1) (N := 4), by decide, S, fun i ys g' l' => g' = g1 ∧ ys = strsOf ([w0, w1, w2, []].take i) ∧ l' = lexLed d q p st (1 + cn K0 - cn ([K0, R1, R2].getD i [])) ([K0, R1, R2].getD i []) [] (lawLed L none none none (some (.ref a)) (some (.str text)) (some (.ref md)) (lawFr ls (some (.ref ow)) (some (.ref nl)) o0 (some (.ref wl)) (some (.str WW)) none none none none none none none none) l), ?_, ?_, ?_, ?_⟩
 ·refine ⟨rfl, rfl, ?_⟩
  rw [show 1 + cn K0 - cn ([K0, R1, R2].getD 0 []) = 1 by show 1 + cn K0 - cn K0 = 1; walk_at "lx"]
  rfl
 ·rintro i ys g' h C D m W' l' ⟨rfl, _, _⟩ S; trivial
 ·rintro i ys g' h C D m l' av v hi ⟨rfl, rfl, rfl⟩ rv hy hm S
  revert av v
  refine turn_ints fun t hi4 => ?_
  revert m
  refine shapeE2 fun o1 o2 => ?_
  intro S
  have hti := ht i hi4
  have hkl := hKl i
  walk_at "gs"
  refine tokA_read (n := n + 6) X S.m33 (by walk_at "li") fun h t S => ?_
  have eln : (1 + cn K0 - cn ([K0, R1, R2].getD i []) + cn ([K0, R1, R2].getD i []) - cn (token ([K0, R1, R2].getD i [])).2) = 1 + cn K0 - cn ([K0, R1, R2].getD (i + 1) []) := by
   rw [hti]
   show _ - cn ([K0, R1, R2].getD (i + 1) []) = _
   walk_at "lx"
  have hS := S.m33
  rw [eln, hti] at hS
  refine ⟨g', _, _, .str ([w0, w1, w2, []].getD i []), rfl, ?_, hS, rfl, ?_, rfl⟩
  ·rw [hti]; exact rep_str
  ·exact strs_four hi4
 rintro g' tl C m ys h l' ⟨rfl, rfl, rfl⟩ hy S
 refine ok_assignC S rfl (by kernel_rfl) (by kernel_rfl) (.i3) lawFr.p6 fun h S => ?_
 have e4 : (intsOf 0 1 4).length = 4 := rfl
 rw [e4] at S
 have S : St (c2 w os) g' h ((tl, isL (strsOf ([w0, w1, w2] ++ [[]]))) :: lexLed d q p st (1 + cn K0) [] [] (lawLed L none none none (some (.ref a)) (some (.str text)) (some (.ref md)) (lawFr ls (some (.ref ow)) (some (.ref nl)) o0 (some (.ref wl)) (some (.str WW)) (some (.ref tl)) none none none none none none none) l)) := by
  have e5 : 1 + cn K0 - cn ([K0, R1, R2].getD 4 []) = 1 + cn K0 := by show 1 + cn K0 - 0 = 1 + cn K0; walk_at "lx"
  rw [e5] at S
  exact S
 refine St.fz S fun g2 k2 HT S => ?_
 have X0 := X0.gr k2
 have A1 := A1.gr k2
 have T := T.gr k2
 refine ok_s ?_
 refine ok_x_if ?_
 walk_at "gs"
 refine ok_addLA S (S.here A1) (S.get .here) (by simp [strsOf]) fun bl h S => ?_
 have S : St (c2 w os) g2 h ((bl, isL (strsOf ([w0, w1, w2] ++ [[]]))) :: _) := S
 refine ok_ne_strs (n := n + 12) (S.here HT) (S.get .here) ?_ ?_
 ·intro x hx k hk
  rcases List.mem_append.mp hx with hx | hx
  ·exact hWk x hx k hk
  ·cases hx with
   | head => cases hk
   | tail _ h => cases h
 have S := S.tail.tail
 walk_at "go"
 walk_at "pk"
 walk_at "go"
 refine ok_countS fun t => ?_
 walk_at "go"
 rw [hcn, cn_int]
 walk_at "pk"
 walk_at "go"
 refine pkF rfl ?_
 refine ok_execs_nil ?_
 refine then_next ?_
 have S := S.tail.tail.tail
 exact k _ _ tl a (k1.trans k2) T HT S
theorem lawG {P : Flow → Heap → Prop} {L ls ow nl wl md tl lx : Addr} {M : List Nat × List Nat} {text wr : List Nat} {o0 : Option AV} (m1 : IsWhole M.1) (m2 : IsWhole M.2) (T : LexTab g)
  (D : HO g md (isDic (c2 w os) (mapsD M))) (nd : NotSys md)
  (S : St (c2 w os) g h (lawLed L none none none (some (.ref lx)) (some (.str text)) (some (.ref md)) (lawFr ls (some (.ref ow)) (some (.ref nl)) o0 (some (.ref wl)) (some (.str wr)) (some (.ref tl)) none none none none none none none) ((180, isTab []) :: l)))
  (k : ∀ g' h' rl kd x ig fd as m s fi, Gr g g' → (∃ ps, HO g' 180 (isTab ps)) → PairsAt g' as s.rs → HO g' rl (isL (refs as)) → RdS (c2 w os) g' x ig (modsOf s.rs) ((dirsOf s.rs).map npath) → MemoOk s.rs m → m.length ≤ 100 → KReach M s → s.pb = [] → FirstOk M fi → HO g' fd (isDic (c2 w os) (dm fi)) → NotSys fd →
   St (c2 w os) g' h' ((ig, isDic (c2 w os) m) :: lawLed L none (some (.ref x)) (some (.ref rl)) (some (.ref lx)) (some (.str text)) (some (.ref md)) (lawFr ls (some (.ref ow)) (some (.ref nl)) o0 (some (.ref wl)) (some (.str wr)) (some (.ref tl)) (some (.ref kd)) (some (.ref fd)) none none none none none) l) → Ok (c2 w os) (n + 14) (execs (lawS 12) (mkEnv fdlaw 188 L (lawCs L))) P h') :
  Ok (c2 w os) (n + 14) (execs (lawS 9) (mkEnv fdlaw 188 L (lawCs L))) P h := by
 refine ok_s ?_
 walk_at "go"
 refine kept_ok (n := n + 1) T S D nd m1 m2 fun g1 t rl kd x ig as h m s k1 HT PA R Mo hm K hp S => ?_
 have D := D.gr k1
 have S := S.f2.f3
 refine St.fz S fun g2 k2 HR S => ?_
 have HT := HT.gr k2
 have D := D.gr k2
 have PA := PA.gr k2
 have R := R.gr k2
 have nk := S.sys .here
 refine St.fz S fun g3 k3 HK S => ?_
 have HT := HT.gr k3
 have HR := HR.gr k3
 have D := D.gr k3
 have PA := PA.gr k3
 have R := R.gr k3
 refine ok_assign_Tuple S (S.here HT) rfl rfl fun h us r S => ?_
 revert us
 refine Reps.eC fun v1 r1 => ?_
 refine Reps.eC fun v2 r3 => ?_
 refine Reps.eC fun v3 r5 => ?_
 refine Reps.eN ?_
 cases r1
 cases r3
 cases r5
 walk_at "gs"
 refine first_ok (n := n + 10) S D nd m1 m2 fun g4 fd h b f k4 Y hy S => ?_
 have nf := S.sys .here
 refine St.fz S fun g5 k5 HF S => ?_
 have k45 := k4.trans k5
 have HR := HR.gr k45
 have HK := HK.gr k45
 have D := D.gr k45
 have PA := PA.gr k45
 have R := R.gr k45
 have X := Y.ok m1 m2 hy
 have I := K.ki m1 m2
 have J := Y.fj m1 m2
 have ekf := kept_eq_first m1 m2 K hp Y hy
 rw [ekf] at HK
 have hfew := J.few
 walk_at "go"
 refine ok_x_if ?_
 walk_at "gs"
 refine ok_getMethodD (S.here HK) F.slot_dict_items F.type_dict_items ?_
 walk_at "go"
 refine ok_itemsV S (S.here HK) nk fun v1 h S => ?_
 walk_at "go"
 refine ok_listItemsD (xs := f.fi) rfl S HK (by walk_at "li") fun g6 x1 as1 h k6 PB1 S => ?_
 refine St.fz S fun g7 k7 HX1 S => ?_
 have k67 := k6.trans k7
 have PB1 := PB1.gr k7
 have HR := HR.gr k67
 have HF := HF.gr k67
 have D := D.gr k67
 have PA := PA.gr k67
 have R := R.gr k67
 walk_at "go"
 refine ok_getMethodD (S.here HF) F.slot_dict_items F.type_dict_items ?_
 walk_at "go"
 refine ok_itemsV S (S.here HF) nf fun v2 h S => ?_
 walk_at "go"
 refine ok_listItemsD (xs := f.fi) rfl S HF (by walk_at "li") fun g8 x2 as2 h k8 PB2 S => ?_
 have hkf : ∀ r ∈ f.fi, (∀ k ∈ r.1, k < 1000) ∧ ∀ k ∈ r.2, k < 1000 := fun r hr => ⟨fun k hk => by have := (J.kept r hr).1.2 k hk; walk_at "lx", fun k hk => by have := (J.kept r hr).2.1 k hk; walk_at "lx"⟩
 refine ok_ne_pairs (n := n + 12) (S.here (HX1.gr k8)) (S.get .here) ((PB1.gr k8).gr S.keep) (PB2.gr S.keep) hkf ?_
 have HR := HR.gr k8
 have HF := HF.gr k8
 have D := D.gr k8
 have PA := PA.gr k8
 have R := R.gr k8
 have S := S.tail
 walk_at "go"
 walk_at "pk"
 walk_at "go"
 have hzw : ∀ p ∈ f.fi, p.2.length ≤ 100 := fun p hq => by
  have h1 := (I.kept p (by rw [ekf]; exact hq)).2.2.2
  rw [ekf] at h1
  walk_at "lx"
 refine rules_ok (n := n + 4) (S.front (a := 180) (.i8)) m1 m2 D nd HF nf X hfew hzw fun g9 rl2 as3 h ps k9 PR S => ?_
 have er := rules_eq m1 m2 X K hp
 rw [← er] at PR
 have HR := HR.gr k9
 have PA := PA.gr k9
 have hkr : ∀ r ∈ s.rs, (∀ k ∈ r.1, k < 1000) ∧ ∀ k ∈ r.2, k < 1000 := fun r hr => ⟨fun k hk => by have := (I.rules r hr).1 k hk; walk_at "lx", fun k hk => by have := ((K.kl m1 m2).rs r hr).2.1.1 k hk; walk_at "lx"⟩
 refine ok_ne_pairs (n := n + 12) (S.here HR) (S.get .here) (PA.gr S.keep) (PR.gr S.keep) hkr ?_
 have S := S.tail
 refine St.fz S fun g10 k10 HTb S => ?_
 walk_at "go"
 walk_at "pk"
 walk_at "go"
 refine pkF rfl ?_
 refine ok_execs_nil ?_
 refine then_next ?_
 have k19 : Gr g1 g10 := (k2.trans k3).trans (k45.trans (k67.trans (k8.trans (k9.trans k10))))
 have k90 := k9.trans k10
 exact k g10 _ rl kd x ig fd as m s f.fi (k1.trans k19) ⟨ps, HTb⟩ (PA.gr k10) (HR.gr k10) (R.gr k90) Mo hm K hp X (HF.gr k90) nf S
theorem rangeSizeN1 (N : Nat) : Builtin.Range.rangeSize 1 ((N : Int) + 1) 1 = N := by
 unfold Builtin.Range.rangeSize
 simp
 try walk_at "lx"
theorem smallN1 {N : Nat} (h : N ≤ 1000000) : Builtin.Range.small 1 ((N : Int) + 1) 1 = true := by
 have f : ∀ i : Int, 0 ≤ i → i ≤ 1000001 → Builtin.Range.rangeFitsLong i = true := fun i h0 h1 => by
  unfold Builtin.Range.rangeFitsLong
  simp
  walk_at "lx"
 unfold Builtin.Range.small
 simp
 rw [rangeSizeN1]
 exact ⟨⟨⟨⟨f 1 (by decide) (by decide), f _ (by walk_at "li") (by walk_at "li")⟩, f 1 (by decide) (by decide)⟩, f _ (by walk_at "li") (by walk_at "li")⟩, .inr (f _ (by walk_at "li") (by walk_at "li"))⟩
theorem ok_iter_rangeN1 {c : Cx} {a : Addr} {N : Nat} (S : St c g h l) (hr : HO h a (isRange 1 ((N : Int) + 1) 1)) (hN : N ≤ 1000000) (p : ∀ it h', St c g h' ((it, isRI (1 + ((0 : Nat) : Int) * 1) ((N : Int) - ((0 : Nat) : Int)) 1) :: l) → P (.ref it) h') : Ok c n (pyIter (.ref a)) P h := by
 refine ok_iter_range S hr (smallN1 hN) fun it h' S => p it h' ?_
 rw [rangeSizeN1] at S
 simpa using S
theorem heads_len (text : List Nat) : (headsOf text).length = text.length := by simp [headsOf]
theorem lawH1 {P : Flow → Heap → Prop} {L ls rl lx x md : Addr} {text : List Nat} {a1 a2 o0 a3 a4 a5 a6 a7 : Option AV} {e : Addr × (Obj → Prop)} (hz : text.length ≤ 100)
  (S : St (c2 w os) g h (e :: lawLed L none (some (.ref x)) (some (.ref rl)) (some (.ref lx)) (some (.str text)) (some (.ref md)) (lawFr ls a1 a2 o0 a3 a4 a5 a6 a7 none none none none none) l))
  (k : ∀ g' h' hl, Gr g g' → HO g' hl (isL (strsOf (headsOf text))) → St (c2 w os) g' h' (e :: lawLed L none (some (.ref x)) (some (.ref rl)) (some (.ref lx)) (some (.str text)) (some (.ref md)) (lawFr ls a1 a2 o0 a3 a4 a5 a6 a7 (some (.ref hl)) none none none none) l) → Ok (c2 w os) (n + 14) (execs (lawS 13) (mkEnv fdlaw 188 L (lawCs L))) P h') :
  Ok (c2 w os) (n + 14) (execs (lawS 12) (mkEnv fdlaw 188 L (lawCs L))) P h := by
 refine ok_s ?_
 walk_at "go"
 refine ok_fmapIU [Str.ofString ".0", Str.ofString "k"] (fun u_ => rfl) rfl rfl (by kernel_rfl) (by kernel_rfl) (by decide) ?_
 walk_at "gs"
 refine ok_range2 S fun ra h S => ?_
 walk_at "go"
 refine ok_iter_rangeN1 (N := text.length) S (S.get .here) (by walk_at "li") fun it h S => ?_
 have S := S.del (.i1) (Same.refl _ _)
 refine ⟨_, it, _, _, _, _, rfl, srcA_range (x := 1) (s := 1) (N := text.length), by simp [intsOf]; walk_at "lx", S, fun h l' S => trivial, fun i => some (.str (text.take (i + 1))), ?_, ?_⟩
 ·rintro i C D ys m h av v hi rv hm S
  revert av v
  refine turn_ints fun t hi2 => ?_
  revert m
  refine shapeE2 fun o1 o2 => ?_
  intro S
  have ej : (1 : Int) + (i : Int) * 1 = ((i + 1 : Nat) : Int) := by walk_at "li"
  rw [ej]
  walk_at "go"
  refine ⟨_, rfl, ?_⟩
  walk_at "go"
  rw [piece_to _ (by walk_at "li" : (0 : Int) ≤ ((i + 1 : Nat) : Int)), Int.toNat_natCast]
  exact ⟨_, rfl, rep_str, by assumption⟩
 intro D C m h S
 have e1 : (List.range (intsOf 1 1 text.length).length).filterMap (fun i => some (AV.str (text.take (i + 1)))) = strsOf (headsOf text) := by
  unfold headsOf strsOf
  rw [List.filterMap_eq_map', List.map_map, show (intsOf 1 1 text.length).length = text.length by simp [intsOf]]
  rfl
 rw [e1] at S
 refine ok_assignC S rfl (by kernel_rfl) (by kernel_rfl) (.i1) lawFr.p9 fun h S => ?_
 refine St.fz S fun g2 k2 HH S => ?_
 exact k g2 _ D k2 HH S
noncomputable def outs (rs : List Rule) (text : List Nat) : List Int := (headsOf text).map fun w => intB (asks rs w)
theorem outs_len (rs : List Rule) (text : List Nat) : (outs rs text).length = text.length := by simp [outs, heads_len]
theorem outs_take (rs : List Rule) {text : List Nat} {i : Nat} {wd : List Nat} (h : (headsOf text)[i]? = some wd) : intAV ((headsOf text).take i |>.map fun w => intB (asks rs w)) ++ [AV.int (intB (asks rs wd))] = intAV ((headsOf text).take (i + 1) |>.map fun w => intB (asks rs w)) := by
 rw [take_snoc h, List.map_append]; simp [intAV]
theorem lawH2 {P : Flow → Heap → Prop} {L ls rl lx x ig md hl : Addr} {text : List Nat} {rs : List Rule} {m : DM Str} {a1 a2 o0 a3 a4 a5 a6 a7 : Option AV} (hz : text.length ≤ 100) (hs : IsSigns text)
  (R : RdS (c2 w os) g x ig (modsOf rs) ((dirsOf rs).map npath)) (Mo : MemoOk rs m) (hm : m.length ≤ 100) (Ro : RulesOk rs) (hrs : rs.length ≤ 100) (hrl : ∀ r ∈ rs, r.1.length ≤ 200) (HH : HO g hl (isL (strsOf (headsOf text))))
  (S : St (c2 w os) g h ((ig, isDic (c2 w os) m) :: lawLed L none (some (.ref x)) (some (.ref rl)) (some (.ref lx)) (some (.str text)) (some (.ref md)) (lawFr ls a1 a2 o0 a3 a4 a5 a6 a7 (some (.ref hl)) none none none none) l))
  (k : ∀ h' sl m', MemoOk rs m' → m'.length ≤ 200 → (∀ u ∈ headsOf text, at? m' (str (nameOf u 46)) = some (.int (intB (asks rs u)))) → St (c2 w os) g h' ((sl, isL (intAV (outs rs text))) :: (ig, isDic (c2 w os) m') :: lawLed L none (some (.ref x)) (some (.ref rl)) (some (.ref lx)) (some (.str text)) (some (.ref md)) (lawFr ls a1 a2 o0 a3 a4 a5 a6 a7 (some (.ref hl)) (some (.ref sl)) none none none) l) → Ok (c2 w os) (n + 14) (execs (lawS 14) (mkEnv fdlaw 188 L (lawCs L))) P h') :
  Ok (c2 w os) (n + 14) (execs (lawS 13) (mkEnv fdlaw 188 L (lawCs L))) P h := by
 refine ok_s ?_
 walk_at "go"
 refine ok_compAU [Str.ofString ".0", Str.ofString "head"] (fun u_ => rfl) rfl rfl (by kernel_rfl) (by kernel_rfl) (by decide) ?_
 walk_at "gs"
 refine ok_iterLA S (S.here HH) fun it h S => ?_
 refine ⟨g, it, _, _, _, _, rfl, srcA_list (vs := strsOf (headsOf text)), by rw [strs_len, heads_len]; walk_at "lx", S, fun i ys g' l' => g' = g ∧ ys = intAV ((headsOf text).take i |>.map fun w => intB (asks rs w)) ∧ ∃ m', MemoOk rs m' ∧ m'.length ≤ 100 + i ∧ (∀ u ∈ (headsOf text).take i, at? m' (str (nameOf u 46)) = some (.int (intB (asks rs u)))) ∧
  l' = (ig, isDic (c2 w os) m') :: lawLed L none (some (.ref x)) (some (.ref rl)) (some (.ref lx)) (some (.str text)) (some (.ref md)) (lawFr ls a1 a2 o0 a3 a4 a5 a6 a7 (some (.ref hl)) none none none none) l, ⟨rfl, rfl, m, Mo, by walk_at "li", fun u hu => by simp at hu, rfl⟩, ?_, ?_, ?_⟩
 ·rintro i ys g' h C D m2 W' l' ⟨rfl, _, m', _, _, _, rfl⟩ S
  exact S.here HH
 ·rintro i ys g' h C D m2 l' av v hi ⟨rfl, rfl, m', Mo', hm', ha, rfl⟩ rv hy hmm S
  revert av v
  refine turn_strs fun wd t hw => ?_
  revert m2
  refine shapeE2 fun o1 o2 => ?_
  intro S
  have hil : i < text.length := by rw [← heads_len]; exact (List.getElem?_eq_some_iff.mp hw).1
  have hin := heads_in (List.mem_of_getElem? hw)
  walk_at "gs"
  refine out_ok (n := n + 11) R (S.front (a := ig) (.i3)) Mo' Ro (by walk_at "li") hrl (fun q hq => hs q (hin.1.subset hq)) hin.2.1 (by walk_at "li") (by walk_at "li") fun h t m3 Mo3 hm3 ha3 hk3 S => ?_
  refine ⟨g', _, _, .int (intB (asks rs wd)), rfl, rep_int, S.perm (l' := (C, _) :: (D, _) :: (it, _) :: (ig, _) :: _) (((List.Perm.swap ..).trans (List.Perm.cons _ ((List.Perm.swap ..).trans (List.Perm.cons _ (.swap ..))))).symm), rfl, outs_take rs hw, m3, Mo3, by walk_at "li", ?_, rfl⟩
  intro u hu
  rw [take_snoc hw] at hu
  rcases List.mem_append.mp hu with hu | hu
  ·exact hk3 _ _ (ha u hu)
  ·have : u = wd := by simpa using hu
   subst this; exact ha3
 rintro g' D C m2 ys h l' ⟨rfl, rfl, m', Mo', hm', ha, rfl⟩ hy S
 rw [strs_len, List.take_length] at S ha
 rw [strs_len, heads_len] at hm'
 refine ok_assignC S rfl (by kernel_rfl) (by kernel_rfl) (.i1) lawFr.p10 fun h S => ?_
 exact k _ D m' Mo' (by walk_at "li") ha S
theorem ok_iterTA {c : Cx} {a : Addr} {vs : List AV} (S : St c g h l) (A : HO h a (isT vs)) (p : ∀ it h', St c g h' ((it, isTI a 0) :: l) → P (.ref it) h') : Ok c n (pyIter (.ref a)) P h := by
 obtain ⟨o, ho, us, r, q⟩ := A
 exact ok_iter_tuple S ⟨o, ho, q⟩ p
theorem all_file {fn : Option (List Nat)} {P : Value → Prop} (p : ∀ v, (fileAV fn).rep v → P v) : AV.All (fileAV fn) P := p
theorem outs_rep (N : Nat) (xs : List Int) : intAV (List.replicate N xs).flatten ++ intAV xs = intAV (List.replicate (N + 1) xs).flatten := by
 rw [List.replicate_succ', List.flatten_append]; simp [intAV]
theorem rep_len (N : Nat) (xs : List Int) : ((List.replicate N xs).flatten).length = N * xs.length := by
 rw [List.length_flatten]; simp
noncomputable def ways : List (Option (List Nat)) := [some [121], none]
theorem lawH3 {P : Flow → Heap → Prop} {L ls rl lx x ig md hl sl : Addr} {text : List Nat} {rs : List Rule} {m : DM Str} {a1 a2 o0 a3 a4 a5 a6 a7 : Option AV} (hz : text.length ≤ 100) (hs : IsSigns text)
  (R : RdS (c2 w os) g x ig (modsOf rs) ((dirsOf rs).map npath)) (hm : m.length ≤ 200) (HH : HO g hl (isL (strsOf (headsOf text)))) (ha : ∀ u ∈ headsOf text, at? m (str (nameOf u 46)) = some (.int (intB (asks rs u))))
  (S : St (c2 w os) g h ((sl, isL (intAV (outs rs text))) :: (ig, isDic (c2 w os) m) :: lawLed L none (some (.ref x)) (some (.ref rl)) (some (.ref lx)) (some (.str text)) (some (.ref md)) (lawFr ls a1 a2 o0 a3 a4 a5 a6 a7 (some (.ref hl)) (some (.ref sl)) none none none) l))
  (k : ∀ g' h' way, Gr g g' → St (c2 w os) g' h' ((sl, isL (intAV (List.replicate 3 (outs rs text)).flatten)) :: (ig, isDic (c2 w os) m) :: lawLed L way (some (.ref x)) (some (.ref rl)) (some (.ref lx)) (some (.str text)) (some (.ref md)) (lawFr ls a1 a2 o0 a3 a4 a5 a6 a7 (some (.ref hl)) (some (.ref sl)) none none none) l) → Ok (c2 w os) (n + 14) (execs (lawS 15) (mkEnv fdlaw 188 L (lawCs L))) P h') :
  Ok (c2 w os) (n + 14) (execs (lawS 14) (mkEnv fdlaw 188 L (lawCs L))) P h := by
 refine ok_s ?_
 walk_at "go"
 refine ok_x_for (fun u_ => rfl) ?_
 walk_at "go"
 refine ok_Tuple ?_
 walk_at "go"
 refine ⟨_, _, ways.map fileAV, S, ⟨rep_str, rep_none, trivial⟩, (by decide), fun tt h S => ?_⟩
 refine St.fz S fun g1 k1 HT S => ?_
 have R := R.gr k1
 have HH := HH.gr k1
 obtain ⟨dd, ds, dl, X1, X2, X3, X4⟩ := R.is
 refine ok_iterTA S (S.here HT) fun it h S => ?_
 refine okC_forT (σ := Option AV) (srcA_tuple (vs := ways.map fileAV)) (fun i way => (sl, isL (intAV (List.replicate (i + 1) (outs rs text)).flatten)) :: (ig, isDic (c2 w os) m) :: lawLed L way (some (.ref x)) (some (.ref rl)) (some (.ref lx)) (some (.str text)) (some (.ref md)) (lawFr ls a1 a2 o0 a3 a4 a5 a6 a7 (some (.ref hl)) (some (.ref sl)) none none none) l) ?_ ?_ ?_ none (by rw [show (List.replicate (0 + 1) (outs rs text)).flatten = outs rs text by simp]; exact S)
 ·intro i way h W' S
  exact S.here HT
 ·intro i T hT way h av v hi rv S
  obtain ⟨fn, hfn, rfl⟩ : ∃ fn, ways[i]? = some fn ∧ av = fileAV fn := by
   rw [List.getElem?_map, Option.map_eq_some_iff] at hi
   obtain ⟨fn, h1, h2⟩ := hi
   exact ⟨fn, h1, h2.symm⟩
  walk_at "go"
  refine ok_fmapI [Str.ofString ".0", Str.ofString "head"] (fun u_ => rfl) rfl rfl (by kernel_rfl) (by kernel_rfl) (by decide) ?_
  walk_at "gs"
  refine ok_iterLA S (S.here HH) fun it2 h S => ?_
  refine ⟨_, _, _, _, _, _, rfl, srcA_list (vs := strsOf (headsOf text)), by rw [strs_len, heads_len]; walk_at "lx", S, fun h l' S => S.right.here HH, fun i => ((headsOf text)[i]?).map fun u => .int (intB (asks rs u)), ?_, ?_⟩
  ·rintro j C D ys m2 h av2 v2 hj rv2 hm2 S
   revert av2 v2
   refine turn_strs fun wd t hw => ?_
   revert m2
   refine shapeE2 fun o1 o2 => ?_
   intro S
   walk_at "go"
   refine ⟨.int (intB (asks rs wd)), by (try dsimp only); rw [hw]; rfl, ?_⟩
   walk_at "gs"
   refine name_ok (n := n + 13) S (by have := (heads_in (List.mem_of_getElem? hw)).2.2; walk_at "lx") fun h t S => ?_
   walk_at "go"
   have S := S.front (a := ig) (.i5)
   refine names_hit (n := n + 13) (fn := fn) R S (by assumption) (ha wd (List.mem_of_getElem? hw)) fun h t S => ?_
   refine ⟨[(Str.ofString ".0", o1), (Str.ofString "head", some (.str wd))], rfl, rep_int, ?_⟩
   exact S.perm (l' := (C, _) :: (D, _) :: (it2, _) :: (it, _) :: (sl, _) :: (ig, _) :: _) ((List.perm_append_comm (l₁ := [(ig, _)]) (l₂ := [(C, _), (D, _), (it2, _), (it, _), (sl, _)])).append_right _).symm
  intro D h S
  have e1 : (List.range (strsOf (headsOf text)).length).filterMap (fun i => ((headsOf text)[i]?).map fun u => AV.int (intB (asks rs u))) = intAV (outs rs text) := by
   rw [strs_len, range_some]
   unfold outs intAV
   rw [List.map_map]
   rfl
  rw [e1] at S
  refine ok_iaddLA S (.i2) (S.get .here) ?_ fun h S => ?_
  ·have hi2 : i < 2 := (List.getElem?_eq_some_iff.mp hfn).1
   rw [intAV_len, intAV_len, rep_len, outs_len]
   have := Nat.mul_le_mul (show i + 1 ≤ 2 by walk_at "li") hz
   walk_at "lx"
  rw [outs_rep] at S
  have S := S.tail
  walk_at "gs"
  exact hT _ _ ⟨_, S⟩
 ·intro way h S
  refine ok_execs_nil ?_
  refine then_next ?_
  exact k _ _ way k1 S
theorem ones_av (rs : List Rule) (wd : List Nat) : [AV.int 0] ++ (rs.filterMap fun r => if r.1 <:+ wd then some (AV.int 1) else none) = intAV (ones1 rs wd) := by
 unfold ones1 intAV
 rw [List.map_cons, List.map_filterMap]
 simp only [List.singleton_append]
 congr 2
 funext r
 split <;> rfl
theorem lawH4 {P : Flow → Heap → Prop} {L ls rl lx x md hl : Addr} {text : List Nat} {rs : List Rule} {as : List Addr} {way a1 a2 o0 a3 a4 a5 a6 a7 a8 : Option AV} {e1 e2 : Addr × (Obj → Prop)} (hz : text.length ≤ 100)
  (PA : PairsAt g as rs) (HR : HO g rl (isL (refs as))) (Ro : RulesOk rs) (hrs : rs.length ≤ 100) (hrl : ∀ r ∈ rs, r.1.length ≤ 200) (HH : HO g hl (isL (strsOf (headsOf text))))
  (S : St (c2 w os) g h (e1 :: e2 :: lawLed L way (some (.ref x)) (some (.ref rl)) (some (.ref lx)) (some (.str text)) (some (.ref md)) (lawFr ls a1 a2 o0 a3 a4 a5 a6 a7 (some (.ref hl)) a8 none none none) l))
  (k : ∀ h' dl, St (c2 w os) g h' ((dl, isL (intAV (outs rs text))) :: e1 :: e2 :: lawLed L way (some (.ref x)) (some (.ref rl)) (some (.ref lx)) (some (.str text)) (some (.ref md)) (lawFr ls a1 a2 o0 a3 a4 a5 a6 a7 (some (.ref hl)) a8 (some (.ref dl)) none none) l) → Ok (c2 w os) (n + 14) (execs (lawS 16) (mkEnv fdlaw 188 L (lawCs L))) P h') :
  Ok (c2 w os) (n + 14) (execs (lawS 15) (mkEnv fdlaw 188 L (lawCs L))) P h := by
 have hal := PA.len
 refine ok_s ?_
 walk_at "go"
 refine ok_cellLU (xc := Str.ofString "head") [Str.ofString ".0"] (fun u_ => rfl) rfl rfl (by kernel_rfl) (by kernel_rfl) (by decide) (fun C l => by kernel_rfl) (fun C => by kernel_rfl) (fun C => by kernel_rfl) ?_
 walk_at "gs"
 refine ok_iterLA S (S.here HH) fun it h S => ?_
 refine ⟨_, it, _, _, _, _, rfl, srcA_list (vs := strsOf (headsOf text)), by rw [strs_len, heads_len]; walk_at "lx", S, fun h l' S => S.right.here HH, fun i => .int ((outs rs text).getD i 0), ?_, ?_⟩
 ·rintro i C D ys m h av hi hm S
  obtain ⟨wd, hw, rfl⟩ := strs_get hi
  have hwl : wd.length ≤ 100 := by have := (heads_in (List.mem_of_getElem? hw)).2.2; walk_at "lx"
  walk_at "go"
  refine ok_fmapI [Str.ofString ".0", Str.ofString "left", Str.ofString "right"] (fun u_ => rfl) rfl rfl (by kernel_rfl) (by kernel_rfl) (by decide) ?_
  walk_at "gs"
  refine ok_iterLA S (S.here HR) fun it2 h S => ?_
  refine ⟨_, _, _, _, _, _, rfl, srcA_list, by rw [refs_len]; walk_at "lx", S, fun h l' S => S.right.here HR, fun j => (rs[j]?).bind fun r => if r.1 <:+ wd then some (.int 1) else none, ?_, ?_⟩
  ·rintro j C2 D2 ys2 mm h av v hj rv hmm S
   revert av v
   refine turn_refs fun ad hai => ?_
   obtain ⟨⟨q1, q2⟩, hri, Xa⟩ := PA.get hai
   have hq1 := (Ro _ (List.mem_of_getElem? hri)).2.1
   have hq2 := hrl _ (List.mem_of_getElem? hri)
   simp only at hq1 hq2
   revert mm
   refine shapeE3 fun p1 p2 p3 => ?_
   intro S
   refine ok_assign_Tuple S (S.here Xa) rfl rfl fun h us r S => ?_
   revert us
   first | refine Reps.eS fun t1 => ?_ | refine Reps.eI fun t1 => ?_
   first | refine Reps.eS fun t2 => ?_ | refine Reps.eI fun t2 => ?_
   refine Reps.eN ?_
   walk_at "go"
   refine ⟨fun e => ?_, fun e => ?_⟩
   ·have e := (tail_is hq1).mp (of_decide_eq_true e)
    refine ⟨.int 1, by rw [hri]; simp [e], ?_⟩
    walk_at "gs"
    exact ⟨_, rfl, rep_int, S⟩
   ·have e := fun h => of_decide_eq_false e ((tail_is hq1).mpr h)
    rename St _ _ _ _ => S
    exact ⟨by rw [hri]; simp; exact e, _, rfl, S⟩
  intro D2 h S
  have e4 : (List.range (refs as).length).filterMap (fun j => (rs[j]?).bind fun r => if r.1 <:+ wd then some (AV.int 1) else none) = rs.filterMap fun r => if r.1 <:+ wd then some (AV.int 1) else none := by
   rw [refs_len, hal, range_fmap]
  rw [e4] at S
  have e5 : [AV.int 0] ++ (rs.filterMap fun r => if r.1 <:+ wd then some (AV.int 1) else none) = intAV (ones1 rs wd) := ones_av rs wd
  have e6 := List.length_filterMap_le (fun r : Rule => if r.1 <:+ wd then some (AV.int 1) else none) rs
  refine ok_addLA S (S.get (.i1)) (S.get .here) (by rw [List.length_singleton]; walk_at "lx") fun ml h S => ?_
  rw [e5] at S
  walk_at "go"
  refine ok_maxL S (S.get .here) (by simp [ones1]) fun mx t h hmx hmx2 S => ?_
  have emx := ones1_max hmx hmx2
  subst emx
  have e7 : (outs rs text).getD i 0 = intB (asks rs wd) := by
   unfold outs
   rw [List.getD_eq_getElem?_getD, List.getElem?_map, hw]; rfl
  rw [e7]
  exact ⟨m, _, [(ml, _), (D2, _), (_, _)], hm, rep_int, S⟩
 rintro D C m h S
 have e3 : (List.range (strsOf (headsOf text)).length).map (fun i => AV.int ((outs rs text).getD i 0)) = intAV (outs rs text) := by
  rw [strs_len, heads_len]
  refine List.ext_getElem (by simp [intAV, outs_len]) fun i h1 h2 => ?_
  simp only [List.length_map, List.length_range] at h1
  simp [intAV, List.getD_eq_getElem?_getD, List.getElem?_eq_getElem (show i < (outs rs text).length by rw [outs_len]; exact h1)]
 rw [e3] at S
 refine ok_assignC S rfl (by kernel_rfl) (by kernel_rfl) (.i2) lawFr.p11 fun h S => ?_
 exact k _ D S
theorem int_app (a b : List Int) : intAV a ++ intAV b = intAV (a ++ b) := by simp [intAV]
theorem outs_bit {rs : List Rule} {text : List Nat} {y : Int} (h : y ∈ outs rs text) : y = 0 ∨ y = 1 := by
 obtain ⟨u, _, rfl⟩ := List.mem_map.mp h
 unfold intB; split
 ·exact .inr rfl
 ·exact .inl rfl
theorem start_none {w : List Nat} (hs : IsSigns w) (h0 : w ≠ []) : at? (K := Str) [(str [60, 115, 116, 114, 105, 110, 103, 62], .int 1)] (str (nameOf w 46)) = none := by
 cases hm : at? (K := Str) [(str [60, 115, 116, 114, 105, 110, 103, 62], .int 1)] (str (nameOf w 46)) with
 | none => rfl
 | some v =>
  have h1 := (MemoOk.start []).tells w hs h0 v hm
  have h2 : v = .int 1 := by
   have := at?_app (m := []) (k := str [60, 115, 116, 114, 105, 110, 103, 62]) (a := .int 1) (j := str (nameOf w 46)) rfl
   rw [List.nil_append, hm] at this
   split at this
   ·cases this; rfl
   ·cases this
  rw [h2] at h1
  simp [asks, intB] at h1
set_option tactic.hygienic true in
theorem lawH5 {P : Flow → Heap → Prop} {L ls rl lx x md hl sl dl : Addr} {text : List Nat} {rs : List Rule} {way a1 a2 o0 a3 a4 a5 a6 a7 : Option AV} {e2 : Addr × (Obj → Prop)} (hz : text.length ≤ 100) (hs : IsSigns text) (h0 : text ≠ [])
  (S : St (c2 w os) g h ((dl, isL (intAV (outs rs text))) :: (sl, isL (intAV (List.replicate 3 (outs rs text)).flatten)) :: e2 :: lawLed L way (some (.ref x)) (some (.ref rl)) (some (.ref lx)) (some (.str text)) (some (.ref md)) (lawFr ls a1 a2 o0 a3 a4 a5 a6 a7 (some (.ref hl)) (some (.ref sl)) (some (.ref dl)) none none) l))
  (k : ∀ g' h' b1 b2 bx, Gr g g' → St (c2 w os) g' h' (e2 :: lawLed L way (some (.ref x)) (some (.ref rl)) (some (.ref lx)) (some (.str text)) (some (.ref md)) (lawFr ls a1 a2 o0 a3 a4 a5 a6 a7 (some (.ref hl)) b1 b2 (some (.ref bx)) none) l) → Ok (c2 w os) (n + 14) (execs (lawS 19) (mkEnv fdlaw 188 L (lawCs L))) P h') :
  Ok (c2 w os) (n + 14) (execs (lawS 16) (mkEnv fdlaw 188 L (lawCs L))) P h := by
 refine ok_s ?_
 walk_at "go"
 rename_i e
 rename St _ _ _ _ => S
 refine reader_ok (n := n + 2) (as := []) (rs := []) S trivial (by simp) (by simp) fun g1 bx ig h k1 R S => ?_
 have S : St (c2 w os) g1 h ((ig, isDic (K := Str) (c2 w os) [(str [60, 115, 116, 114, 105, 110, 103, 62], .int 1)]) :: (e, isL []) :: _) := S
 obtain ⟨dd, ds, dl2, X1, X2, X3, X4⟩ := R.is
 walk_at "gs"
 refine name_ok (n := n + 13) S (by walk_at "li") fun h t S => ?_
 walk_at "go"
 have hm0 : at? (K := Str) [(str [60, 115, 116, 114, 105, 110, 103, 62], .int 1)] (str (nameOf text 46)) = none := start_none hs h0
 refine names_miss (n := n + 13) (fn := none) R S rep_none hm0 (by simp) (by simp [modsOf]) (by simp [dirsOf]) (by simp [modsOf]) (by simp [dirsOf]) fun h t S => ?_
 have ea : ansOf (modsOf []) ((dirsOf []).map npath) none (nameOf text 46) = true := by simp [ansOf, under]
 rw [ea] at S ⊢
 have hm1 : at? ([(str [60, 115, 116, 114, 105, 110, 103, 62], .int 1)] ++ [(str (nameOf text 46), .int (intB true))]) (str (nameOf text 46)) = some (.int 1) := by
  rw [at?_app hm0]; simp [intB]
 walk_at "go"
 refine out_hit (n := n + 11) R S hm1 (by walk_at "li") fun h t S => ?_
 walk_at "gs"
 have S : St (c2 w os) g1 _ ((_, isL (intAV [1, 1])) :: (ig, _) :: (e, _) :: (dl, _) :: (sl, _) :: _) := S
 have hl3 : (List.replicate 3 (outs rs text)).flatten.length = 3 * text.length := by rw [rep_len, outs_len]
 refine ok_iaddLA S (.i4) (S.get .here) (by rw [intAV_len, intAV_len, hl3]; simp; walk_at "lx") fun h S => ?_
 rw [int_app] at S
 have hbits : ∀ y ∈ (List.replicate 3 (outs rs text)).flatten ++ [1, 1], y = 0 ∨ y = 1 := fun y hy => by
  rcases List.mem_append.mp hy with hy | hy
  ·obtain ⟨q, hq, hyq⟩ := List.mem_flatten.mp hy
   rw [(List.mem_replicate.mp hq).2] at hyq
   exact outs_bit hyq
  ·right; simpa using hy
 have hlb : ((List.replicate 3 (outs rs text)).flatten ++ [1, 1]).length ≤ 1000 := by rw [List.length_append, hl3]; simp; walk_at "lx"
 walk_at "go"
 refine ok_x_if ?_
 walk_at "gs"
 refine ok_strBits (n := n + 13) S (S.get (.i4)) hbits hlb fun t h S => ?_
 walk_at "go"
 refine ok_mulLA (N := 3) S (S.get (.i3)) (by decide) (by rw [intAV_len, outs_len]; walk_at "lx") fun d3 h S => ?_
 walk_at "gs"
 have e3 : (List.replicate 3 (intAV (outs rs text))).flatten = intAV (List.replicate 3 (outs rs text)).flatten := by simp [intAV]
 rw [e3] at S
 have S : St (c2 w os) g1 _ ((_, isL (intAV [1, 1])) :: (d3, _) :: _) := S
 refine ok_addLA S (S.get (.i1)) (S.get .here) (by rw [intAV_len, intAV_len, hl3]; simp; walk_at "lx") fun d4 h S => ?_
 rw [int_app] at S
 walk_at "go"
 refine ok_strBits (n := n + 13) S (S.get .here) hbits hlb fun t h S => ?_
 refine ok_ne_str ?_
 rw [bne_self_eq_false]
 walk_at "go"
 refine pkF rfl ?_
 refine ok_execs_nil ?_
 refine then_next ?_
 exact k g1 _ _ _ bx k1 S.tail.tail.tail.tail.tail.tail.tail.tail
theorem ev_step (M : List Nat × List Nat) {text : List Nat} {i s : Nat} (h : text[i]? = some s) : behindOf (ev M (text.take i)) (mapOf M s) = ev M (text.take (i + 1)) := by
 rw [take_snoc h, ev_snoc]
set_option tactic.hygienic true in
theorem lawI {P : Flow → Heap → Prop} {L ls rl lx x md ig tl fd : Addr} {M : List Nat × List Nat} {W : List (List Nat)} {text : List Nat} {rs : List Rule} {as : List Addr} {fi : PM} {m : DM Str} {way a1 a2 o0 a3 a4 a6 a8 a9 a10 a11 : Option AV} (m1 : IsWhole M.1) (m2 : IsWhole M.2) (hz : text.length ≤ 12) (hs : IsSigns text) (h0 : text ≠ [])
  (F : RulesFine M rs) (T : LexTab g) (R : RdS (c2 w os) g x ig (modsOf rs) ((dirsOf rs).map npath)) (PA : PairsAt g as rs) (HR : HO g rl (isL (refs as))) (Mo : MemoOk rs m) (hm : m.length ≤ 1000) (Ro : RulesOk rs) (hrs : rs.length ≤ 100) (hrl : ∀ r ∈ rs, r.1.length ≤ 100)
  (D : HO g md (isDic (c2 w os) (mapsD M))) (X : FirstOk M fi) (HF : HO g fd (isDic (c2 w os) (dm fi))) (HT : HO g tl (isL (strsOf W))) (hW : W[2]? = some text)
  (S : St (c2 w os) g h ((ig, isDic (c2 w os) m) :: lawLed L way (some (.ref x)) (some (.ref rl)) (some (.ref lx)) (some (.str text)) (some (.ref md)) (lawFr ls a1 a2 o0 a3 a4 (some (.ref tl)) a6 (some (.ref fd)) a8 a9 a10 a11 none) l))
  (k : ∀ g' h' l', Gr g g' → St (c2 w os) g' h' l' → P (.ret (.bool true)) h') :
  Ok (c2 w os) (n + 14) (execs (lawS 19) (mkEnv fdlaw 188 L (lawCs L))) P h := by
 refine ok_s ?_
 walk_at "go"
 refine ok_x_for (fun u_ => rfl) ?_
 walk_at "go"
 rename_i it
 rename St _ _ _ _ => S
 refine okC_forT (σ := Option AV) (srcA_str (ks := text)) (fun i o0 => (ig, isDic (c2 w os) m) :: lawLed L way (some (.ref x)) (some (.ref rl)) (some (.ref lx)) (some (.str text)) (some (.ref md)) (lawFr ls a1 a2 o0 a3 a4 (some (.ref tl)) a6 (some (.ref fd)) a8 a9 a10 a11 (some (.str (ev M (text.take i))))) l) ?_ ?_ ?_ o0 S
 ·intro i o1 h W' S; trivial
 ·intro i T hT o1 h av v hi rv S
  revert av v
  refine turn_signs fun kk t hx => ?_
  have hkk := hs kk (List.mem_of_getElem? hx)
  have hev := ev_whole m1 m2 (text.take i)
  have hmk := mapOf_whole m1 m2 kk
  walk_at "gs"
  refine ok_itemD (S.here D) rep_key (av := .str (mapOf M kk)) (at_maps hkk) ?_
  walk_at "av"
  walk_at "go"
  refine behind_ok (n := n + 13) S hev.2 hev.1 hmk.1 fun h t S => ?_
  have e1 : (ev M (text.take i)).map (fun k => (mapOf M kk).getD (k - 48) 0) = ev M (text.take (i + 1)) := ev_step M hx
  rw [e1]
  walk_at "gs"
  exact hT _ _ ⟨_, S⟩
 intro o1 h S
 rw [signs_len, List.take_length] at S
 walk_at "go"
 refine ok_item_L (S.here HT) (by decide) (by decide) (av := .str text) (by simp [strsOf]; exact hW) ?_
 walk_at "av"
 walk_at "go"
 refine readby_ok (n := n + 1) m1 m2 F T S R PA HR Mo hm Ro hrs hrl hs h0 hz fun g1 h wd t k1 S K => ?_
 have hl := read_first m1 m2 F X hs h0 K
 walk_at "go"
 refine ok_itemD (S.here (HF.gr k1)) rep_key (av := .str wd) (by rw [at?_dm, hl]; rfl) ?_
 walk_at "av"
 walk_at "go"
 rw [decide_eq_true rfl]
 rename St _ _ _ _ => S
 exact k _ _ _ k1 S
theorem wordOf_small {m : List Nat} : ∀ k ∈ wordOf m, k < 1000 := by
 intro k hk
 obtain ⟨q, _, rfl⟩ := List.mem_map.mp hk
 match q - 48 with
 | 0 => decide
 | 1 => decide
 | 2 => decide
 | n + 3 => exact Nat.succ_pos _
theorem law_ok {ls : Addr} {xs : List Int} (S : St (c2 w os) g h ((127, isTab []) :: (180, isTab []) :: l)) (A0 : HO g ls (isL (intAV xs))) (hz : xs.length ≤ 63)
  (k : ∀ g' h' l', Gr g g' → St (c2 w os) g' h' l' → (∃ ps, HO g' 127 (isTab ps)) → (∃ ps, HO g' 180 (isTab ps)) → P (.bool true) h') :
  Ok (c2 w os) (n + 15) (call (.ref 188) [.ref ls]) P h := by
 refine go_law S rep_ref fun L h S => ?_
 refine lawA (St.front S (a := L) .i6) A0 hz fun nl h ow S => ?_
 obtain ⟨hn5, hn8⟩ := nums_len xs
 have hin : ∀ x ∈ numsOf xs, 0 ≤ x ∧ x < 1000000 := fun x hx => nums_in hx
 generalize numsOf xs = ns at *
 refine St.fz S fun g1 k1 B1 S => ?_
 refine lawB hn5 hn8 hin S B1 fun g2 md h o k2 D nd S => ?_
 have B1 := B1.gr k2
 have m1 : IsWhole (mapsOf ns).1 := mapText_whole _
 have m2 : IsWhole (mapsOf ns).2 := mapText_whole _
 generalize mapsOf ns = M at *
 refine lawC hn5 hn8 hin S B1 fun h S => ?_
 have hs := text_signs ns
 have hlt := text_len ns
 have hz12 : (drawn2 ns).length ≤ 12 := by walk_at "li"
 have h0 : drawn2 ns ≠ [] := fun e => by rw [e] at hlt; simp at hlt; walk_at "lx"
 generalize drawn2 ns = text at *
 refine lawD m1 m2 S D nd fun wl h S => ?_
 have hWl : ∀ x ∈ words3 M text, x.length ≤ 12 := by
  intro x hx
  simp only [words3, List.mem_cons, List.not_mem_nil, or_false] at hx
  rcases hx with rfl | rfl | rfl
  ·rw [wordOf_len, m1.1]; decide
  ·rw [wordOf_len, m2.1]; decide
  ·exact hz12
 have hW0 : ∀ x ∈ words3 M text, x ≠ [] := by
  intro x hx
  simp only [words3, List.mem_cons, List.not_mem_nil, or_false] at hx
  rcases hx with rfl | rfl | rfl
  ·intro e; have := wordOf_len M.1; rw [e, m1.1] at this; cases this
  ·intro e; have := wordOf_len M.2; rw [e, m2.1] at this; cases this
  ·exact h0
 have hWk : ∀ x ∈ words3 M text, ∀ k ∈ x, k < 1000 := by
  intro x hx
  simp only [words3, List.mem_cons, List.not_mem_nil, or_false] at hx
  rcases hx with rfl | rfl | rfl
  ·exact wordOf_small
  ·exact wordOf_small
  ·intro k hk; have := hs k hk; walk_at "lx"
 have hW2 : (words3 M text ++ [[]])[2]? = some text := rfl
 have hW3 : (words3 M text).length = 3 := rfl
 generalize words3 M text = W at *
 refine St.fz S fun g3 k3 B2 S => ?_
 have B1 := B1.gr k3
 have D := D.gr k3
 refine lawE hn5 hW3 hWl S B1 B2 fun g4 h k4 S => ?_
 have B2 := B2.gr k4
 have D := D.gr k4
 refine lawF hW3 hWl hW0 hWk S B2 fun g5 h tl lx k5 T HT S => ?_
 have D := D.gr k5
 refine lawG m1 m2 T D nd S fun g6 h rl kd x ig fd as m s fi k6 RT PA HR R Mo hm K hp X HF nf S => ?_
 have T := T.gr k6
 have HT := HT.gr k6
 have D := D.gr k6
 have I := K.ki m1 m2
 have F := K.fine m1 m2 hp
 have hfew := I.few
 have hrs : s.rs.length ≤ 100 := by have := I.size; walk_at "lx"
 have hrl : ∀ r ∈ s.rs, r.1.length ≤ 100 := fun r hr => by have := (I.rlen r hr).1; walk_at "lx"
 have hrl2 : ∀ r ∈ s.rs, r.1.length ≤ 200 := fun r hr => by have := hrl r hr; walk_at "lx"
 refine lawH1 (by walk_at "li") S fun g7 h hl k7 HH S => ?_
 have R := R.gr k7
 have HR := HR.gr k7
 have PA := PA.gr k7
 have HT := HT.gr k7
 refine lawH2 (by walk_at "li") hs R Mo hm I.rules hrs hrl2 HH S fun h sl m' Mo' hm' ha S => ?_
 refine lawH3 (by walk_at "li") hs R hm' HH ha S fun g8 h way k8 S => ?_
 have R := R.gr k8
 have HR := HR.gr k8
 have HH := HH.gr k8
 have PA := PA.gr k8
 refine lawH4 (by walk_at "li") PA HR I.rules hrs hrl2 HH S fun h dl S => ?_
 refine lawH5 (by walk_at "li") hs h0 S fun g9 h b1 b2 bx k9 S => ?_
 have k69 := k7.trans (k8.trans k9)
 refine lawI m1 m2 hz12 hs h0 F (T.gr k69) (R.gr k9) (PA.gr k9) (HR.gr k9) Mo' (by walk_at "li") I.rules hrs hrl (D.gr k69) X (HF.gr k69) (HT.gr (k8.trans k9)) hW2 S fun g10 h l' k10 S => ?_
 obtain ⟨c1, c2', T1, _⟩ := T.gr (k69.trans k10)
 obtain ⟨ps, RT⟩ := RT
 exact k g10 h l' (k1.trans (k2.trans (k3.trans (k4.trans (k5.trans (k6.trans (k69.trans k10))))))) S ⟨_, T1⟩ ⟨ps, RT.gr (k69.trans k10)⟩
theorem codeTab {h : Heap} {c P : Addr} (C : CodeHd h c P) : isCodeTable h P := by
 obtain ⟨o, vs, _, _, _, _, _, _, _, e, hc, hd, h11, _⟩ := C
 exact ⟨c, o, vs, e, hc, hd, h11⟩
theorem oldK_two {h0 h : Heap} {p q : Addr} (tp : isCodeTable h0 p) (tq : isCodeTable h0 q) (ep : h0.get? p = some (tabObj #[])) (eq : h0.get? q = some (tabObj #[])) (keep : ∀ b o, b ∉ [p, q] → h0.get? b = some o → h.get? b = some o)
  (gp : ∃ ps, HO h p (isTab ps)) (gq : ∃ ps, HO h q (isTab ps)) : OldK h0 h := by
 obtain ⟨ps, o1, e1, rfl⟩ := gp
 obtain ⟨qs, o2, e2, rfl⟩ := gq
 have grown : ∀ b o, b ∈ [p, q] → h0.get? b = some o → isCodeTable h0 b ∧ o = tabObj #[] ∧ ∃ ps, h.get? b = some (tabObj ps) := fun b o hb e => by
  simp only [List.mem_cons, List.not_mem_nil, or_false] at hb
  rcases hb with rfl | rfl
  ·rw [ep] at e; exact ⟨tp, (Option.some.inj e).symm, _, e1⟩
  ·rw [eq] at e; exact ⟨tq, (Option.some.inj e).symm, _, e2⟩
 refine ⟨fun b o e => ?_, fun b o e => ?_⟩
 ·by_cases hb : b ∈ [p, q]
  ·obtain ⟨ht, rfl, ps, hP⟩ := grown b o hb e
   exact .inr (.inl ⟨ht, rfl, #[], ps, rfl, by rw [Array.empty_append]; exact hP⟩)
  ·exact .inl (keep b o hb e)
 ·by_cases hb : b ∈ [p, q]
  ·obtain ⟨_, _, ps, hP⟩ := grown b o hb e
   exact ⟨_, hP⟩
  ·exact ⟨o, keep b o hb e⟩
theorem reps_well {P : Params} {h : Heap} {xs : List Int} : ∀ {vs : List Value}, WellAll P h vs (ofPys (xs.map .int)) → Reps (intAV xs) vs := by
 induction xs with
 | nil => intro vs w; cases w; trivial
 | cons x xs ih => intro vs w; cases w with
  | cons a b => cases a; exact ⟨⟨_, rfl⟩, ih b⟩
theorem fr_127 (P : Params) : (hd.heap_39 P).lookup 127 = none := by kernel_rfl
theorem fr_180 (P : Params) : (hd.heap_39 P).lookup 180 = none := by kernel_rfl
theorem ch_rules2 (P : Params) : codeHdIn (hd.heap_39 P) 182 180 = true := by kernel_rfl
theorem fa_law {w : World} {h : Heap} {mg mb : Str → Option Value} {L : List Str} {mean : ExcName → Option Value} {p : Program} {fa : Addr} (T : Top p L mean mg mb h) (KX : (hd.heap_39 w.params).In h) (e : mg (Str.ofString "law") = some (.ref fa)) : fa = 188 := by
 have x := mg_of KX T.g (gl_law w.params)
 rw [e] at x
 injection x with x
 injection x
theorem law_join {w : World} {s₁ : Shared} {mg mb : Str → Option Value} {L : List Str} {mean : ExcName → Option Value} {p : Program} (T : Top p L mean mg mb s₁.heap) (KX : (hd.heap_39 w.params).In s₁.heap) (KT : ∀ P ∈ [180, 127], s₁.heap.get? P = some (tabObj #[]))
  {ls : Addr} {xs : List Int} (W : Well w.params s₁.heap (.ref ls) (ofPy (.list (xs.map .int)))) (hz : xs.length ≤ 63) (hg : s₁.gens = #[]) :
  wpAny (model pw_pw0009_02 w) callerA (call (.ref 188) [.ref ls]) (fun v s' => v = .bool true ∧ s'.gens = #[] ∧ s'.os = s₁.os ∧ OldK s₁.heap s'.heap) NoE s₁ := by
 have e127 := KT 127 (by simp)
 have e180 := KT 180 (by simp)
 have hne : ∀ {b : Addr} {o : Obj}, s₁.heap.get? b = some o → (∀ ps, o ≠ tabObj ps) → (hide s₁.heap [180, 127]).get? b = some o := fun {b o} e hn => by
  rw [hide_get, if_neg]; exact e
  intro hb
  rw [KT b hb] at e
  exact hn _ (Option.some.inj e).symm
 have hns : ∀ {a : Addr} {m : Str → Option Value}, a ∉ [180, 127] → s₁.heap.Ns a m → (hide s₁.heap [180, 127]).Ns a m := fun {a m} ha x => by
  obtain ⟨o, es, ep, e, r⟩ := x
  exact ⟨o, es, ep, by rw [hide_get, if_neg ha]; exact e, r⟩
 have ht : TopR (c2 w s₁.os) (hide s₁.heap [180, 127]) := by
  refine ⟨fun a o e => ?_, ⟨mb, hns (by decide) T.b, T.builtins⟩, ⟨mg, hns (by decide) T.g, ?_⟩, ?_, ?_⟩
  ·rw [hide_get, if_neg]
   ·exact KX a o e
   ·intro hb
    simp only [List.mem_cons, List.not_mem_nil, or_false] at hb
    rcases hb with rfl | rfl
    ·rw [fr_180] at e; cases e
    ·rw [fr_127] at e; cases e
  ·obtain ⟨bm, ob, b1, b2, b3, b4, b5, b6⟩ := T.bmain
   exact ⟨bm, ob, b1, b2, hne b3 (fun ps e => by rw [e] at b4; cases b4), b4, b5, b6⟩
  ·obtain ⟨mc, a, b⟩ := T.nolimit
   exact ⟨mc, hns (by decide) a, b⟩
  ·obtain ⟨mc, a, b⟩ := T.nodigits
   exact ⟨mc, hns (by decide) a, b⟩
 have S : St (c2 w s₁.os) (hide s₁.heap [180, 127]) s₁.heap [(127, isTab []), (180, isTab [])] := by
  refine ⟨ht, fun b o e => ?_, fun p hp => ?_, by decide, fun p hp => ?_, fun p hp => ?_⟩
  ·rw [hide_get] at e
   split at e
   ·cases e
   ·exact e
  ·simp only [List.mem_cons, List.not_mem_nil, or_false] at hp
   rcases hp with rfl | rfl
   ·exact ⟨_, e127, rfl⟩
   ·exact ⟨_, e180, rfl⟩
  ·simp only [List.mem_cons, List.not_mem_nil, or_false] at hp
   rcases hp with rfl | rfl
   ·rw [hide_get, if_pos (by decide)]
   ·rw [hide_get, if_pos (by decide)]
  ·simp only [List.mem_cons, List.not_mem_nil, or_false] at hp
   rcases hp with rfl | rfl
   ·decide
   ·decide
 have A0 : HO (hide s₁.heap [180, 127]) ls (isL (intAV xs)) := by
  have W' : Well w.params s₁.heap (.ref ls) (.list (ofPys (xs.map .int))) := W
  cases W' with
  | list e wa => exact ⟨_, hne e (fun ps e => by cases e), _, reps_well wa, 0, rfl⟩
 have tp : isCodeTable s₁.heap 127 := codeTab (codeHd_of_K KX (ch_lexer _))
 have tq : isCodeTable s₁.heap 180 := codeTab (codeHd_of_K KX (ch_rules2 _))
 have main := law_ok (n := 0) (P := fun v h' => v = .bool true ∧ OldK s₁.heap h') S A0 hz fun g' h' l' k S' q1 q2 => ⟨rfl, by
  obtain ⟨ps, x1⟩ := q1
  obtain ⟨qs, x2⟩ := q2
  refine oldK_two tp tq e127 e180 (fun b o hb e => ?_) ⟨ps, S'.here x1⟩ ⟨qs, S'.here x2⟩
  refine S'.keep _ _ (k _ _ ?_)
  rw [hide_get, if_neg]
  ·exact e
  ·intro hb'
   refine hb ?_
   simp only [List.mem_cons, List.not_mem_nil, or_false] at hb' ⊢
   exact hb'.symm⟩
 have room : Room callerA 15 := ⟨by decide, by decide, rfl, rfl⟩
 obtain ⟨hh, gens, d, tk, os⟩ := s₁
 cases hg
 exact wpAny_mono (main callerA d tk room) (fun v s' ⟨x1, x2, x3, x4⟩ => ⟨x3, x1, x2, x4⟩) (fun e s' x => x)
end Mine
theorem PySem.Challenge.cw_pw0009_02_holds : PySem.Challenge.rw_pw0009_02.Holds := by
 refine Mine.hd ?_
 intro w s₀ s₁ mg mb G Y fa o pm cd doc dV kV ho hd hcd hD hmg hg args vals as hpre hlay hrd hwl hlo
 have KX := km_in_of Y
 have KT := km_tabs_of Y
 clear ho hd hcd hD
 refine Ground.open G ?_
 intro T B D TE TW
 wrow_args hpre hlay hrd hwl hlo
 rename Well _ _ _ _ => W
 rename ¬ _ < _ => hlen
 have hfa : fa = 188 := Mine.fa_law T KX hmg
 subst hfa
 refine wpAny_mono (Mine.law_join T KX KT W (by lia) hg) (fun v s' x => ?_) (fun e s' x => x.elim)
 obtain ⟨rfl, hg', hos, hold⟩ := x
 refine ⟨.inl ⟨_, .bool true, [], rfl, ?_, .bool true, ?_, unshared_nil⟩, hold, hos, .of_eq hg'⟩
 ·exact fun u_ => rfl
 ·wrow_post
